import PyProof.Rows.All
import Wide.All
import OpenK.AllK
import Wide.FinOn
import Lean
import PySem.Challenge.RW_br5019_01
set_option Elab.async false
section
open PySem PySem.W PyProof.Rows
namespace Mine
set_option maxRecDepth 100000 in
set_option maxHeartbeats 0 in
open_top hd for PySem.Challenge.rw_br5019_01
end Mine
end
noncomputable section
open Lean PySem PySem.W PySem.Spec PySem.Calls PyProof.Rows
set_option maxRecDepth 100000
namespace Mine

/-- what a call of a written def asks of its surroundings; k: the depth it may use -/
structure Cx (w : World) (loose : List Str) (mean : ExcName → Option Value) (mg mb : Str → Option Value) (k : Nat)
    (A A₀ : Around) (env : Env) (outer : List Env) (base h₀ : Heap) (L : Addr) (m : Str → Option Value) (news : List (Addr × Obj)) (s : Shared) : Prop where
  B : Below A₀ base outer h₀
  F : Fr h₀ L s.heap m
  X : (hd.heap_39 w.params).In h₀
  N : News h₀ L s.heap news
  T : Top topProg loose mean mg mb h₀
  hh : A.handled = none
  hA : A.frames = some (env :: outer)
  hf : env.frame = some L
  hk : env.scope.kind = .function
  hd : A.depth + k < recursionLimit
  hu : A.units + 8 * k < cLine

/-- a def is entered; its names are said -/
theorem enter {w : World} {loose : List Str} {mean : ExcName → Option Value} {mg mb : Str → Option Value} {k dp un : Nat} {gd : Option (List Code)}
    {A₀ : Around} {env : Env} {outer : List Env} {base h₀ : Heap} {L : Addr} {m : Str → Option Value} {news : List (Addr × Obj)} {s : Shared}
    {E Q : Value → Shared → Prop}
    {name qual : Str} {params : Arguments} {body : List Stmt} {scope : Scope} {dV kV doc pm cdv ct oc : Value} {an od : Option Addr} {osl : Array (Option Value)} {f : Addr} {args : List Value} {kw : List (Str × Value)}
    (binds : List (Str × Value))
    (C : Cx w loose mean mg mb (k + 1) ⟨none, dp, some (env :: outer), gd, un⟩ A₀ env outer base h₀ L m news s)
    (ho : (hd.heap_39 w.params).lookup f = some ⟨oc, od, .func (fnOf name qual params body scope dV kV doc pm an cdv ct), osl⟩) (hcd : codeIn (hd.heap_39 w.params) cdv qual = true)
    (hbind : BindsTo s (fnOf name qual params body scope dV kV doc pm an cdv ct) ⟨args, kw⟩ binds)
    (hco : scope.isCoroutine = false) (hgen : scope.isGenerator = false) (hk : scope.kind = .function)
    (hcell : ∀ x ∈ scope.names, x.2 ≠ .cell)
    (hloc : ∀ y ∈ binds, scope.names.lookup y.1 = some .local)
    (h : ∀ g L' h₁ tk (Q' : Flow → Shared → Prop), Fr g L' h₁ (fun y => binds.reverse.lookup y) → News g L' h₁ news → Below ⟨none, dp, some (env :: outer), gd, un⟩ base (env :: outer) g → (hd.heap_39 w.params).In g → Top topProg loose mean mg mb g →
      dp + 1 + k < recursionLimit → un + 3 + 8 * k < cLine →
      (∀ v L₂ m₂ news₂ h₂ tk₂, Fr g L₂ h₂ m₂ → News g L₂ h₂ news₂ → (Fr h₀ L h₂ m → News h₀ L h₂ news₂ → Q v { s with heap := h₂, toks := tk₂ }) → Q' (.ret v) { s with heap := h₂, toks := tk₂ }) →
      wpAny (model PySem.Challenge.pw_br5019_01 w) ⟨none, dp + 1, some (envOf qual scope L' f cdv :: env :: outer), gd, un + 3⟩ (execs body (envOf qual scope L' f cdv)) Q' (fun _ _ => False)
        { s with heap := h₁, toks := tk }) :
    wpAny (model PySem.Challenge.pw_br5019_01 w) ⟨none, dp, some (env :: outer), gd, un⟩ (call (.ref f) args kw) Q E s := by
  refine wpAny_call ?_
  have hroom : dp + (k + 1) < recursionLimit := C.hd
  have hunits : un + 8 * (k + 1) < cLine := C.hu
  refine code_def C.B C.F C.X C.N C.T rfl C.hf C.hk ho hcd (by show dp < recursionLimit; omega) hbind hloc (fun g L' h₁ FG F' N' B' X' T' => ?_) hco hgen hk hcell
  refine wpAny_mono (h g L' h₁ _ (fun fl s' => LeaveK h₀ L m g (fun r s' => match r with | .ok (.ret v) => Q v s' | .ok _ => False | .error e => E e s') (match fl with | .ret v => v | _ => .none) s') F' N' B' X' T' (by omega) (by omega) ?_) (fun _ _ x => x) (fun _ _ x => x.elim)
  intro v L₂ m₂ news₂ h₂ tk₂ F₂ N₂ hq
  exact ⟨L₂, m₂, news₂, F₂, N₂, hq⟩

/-- a while: its invariant over the names that live on, one way out -/
theorem wh {σ τ : Type} {prog : Program} {w : World} {A : Around} {s : Shared} {env : Env} {h₀ : Heap} {L : Addr} {E : Value → Shared → Prop} {Q : Flow → Shared → Prop}
    {test : PySem.Expr} {body : List Stmt} {pos : Pos} {m₀ : Str → Option Value} {news₀ : List (Addr × Obj)}
    (Led : σ → List (Addr × Obj)) (ps : σ → List (Str × Value)) (P : σ → Prop) (μ : σ → Nat) (c₀ : σ)
    (LedX : τ → List (Addr × Obj)) (psX : τ → List (Str × Value)) (X : τ → Prop)
    (F : Fr h₀ L s.heap m₀) (N : News h₀ L s.heap news₀) (hn : ∀ p ∈ Led c₀, p ∈ news₀) (hk : ∀ p ∈ ps c₀, m₀ p.1 = some p.2) (hp : P c₀)
    (turn : ∀ (c : σ) (u : Str → Option Value) h tk (Q' : Flow → Shared → Prop) (D : Shared → Prop), P c → Fr h₀ L h (kstB u (ps c)) → News h₀ L h (Led c) →
      (∀ c' h' tk' m' news', Fr h₀ L h' m' → News h₀ L h' news' → (∀ p ∈ Led c', p ∈ news') → (∀ p ∈ ps c', m' p.1 = some p.2) → P c' → μ c' < μ c →
        Q' .next { s with heap := h', toks := tk' } ∧ Q' .cont { s with heap := h', toks := tk' }) →
      (∀ c' h' tk' m' news', Fr h₀ L h' m' → News h₀ L h' news' → (∀ p ∈ LedX c', p ∈ news') → (∀ p ∈ psX c', m' p.1 = some p.2) → X c' →
        Q' .brk { s with heap := h', toks := tk' } ∧ D { s with heap := h', toks := tk' }) →
      (∀ v s', Q (.ret v) s' → Q' (.ret v) s') →
      wpAny (model prog w) A (isTrue test env (eval test env)) (fun b s₂ =>
        if b = true then wpAny (model prog w) A (execs body env) Q' (fun _ _ => False) s₂ else D s₂) (fun _ _ => False) { s with heap := h, toks := tk })
    (done : ∀ (c : τ) (u : Str → Option Value) h tk, X c → Fr h₀ L h (kstB u (psX c)) → News h₀ L h (LedX c) → Q .next { s with heap := h, toks := tk }) :
    wpAny (model prog w) A (exec (.While test body [] pos) env) Q E s := by
  have hfr : ∀ {h : Heap} {m₁ : Str → Option Value} {l : List (Str × Value)}, (∀ p ∈ l, m₁ p.1 = some p.2) → Fr h₀ L h m₁ → Fr h₀ L h (kstB m₁ l) := by
    intro h m₁ l h1 F1
    have e : kstB m₁ l = m₁ := funext fun y => kstB_eq h1 fun _ => rfl
    rw [e]; exact F1
  refine wpAny_noRaise ?_
  refine While_inv2 (fun n m nx => ∃ c : σ, nx = Led c ∧ μ c = n ∧ (∀ p ∈ ps c, m p.1 = some p.2) ∧ P c) (n₀ := μ c₀) F (fun p hp => N p (hn p hp)) ⟨c₀, rfl, rfl, hk, hp⟩ ?_ (PassesOwn.never)
  rintro n m₁ nx h tk F₁ N₁ ⟨c, rfl, rfl, h1, hp'⟩
  refine wpAny_mono (turn c m₁ h tk
    (fun f s' => match f with
      | .next | .cont => ∃ c' h' tk' m' news', s' = { s with heap := h', toks := tk' } ∧ Fr h₀ L h' m' ∧ News h₀ L h' news' ∧ (∀ p ∈ Led c', p ∈ news') ∧ (∀ p ∈ ps c', m' p.1 = some p.2) ∧ P c' ∧ μ c' < μ c
      | .brk => Q .next s'
      | .ret v => Q (.ret v) s')
    (fun s' => Q .next s') hp' (hfr h1 F₁) N₁ ?_ ?_ ?_) (fun b s₂ h₂ => ?_) fun _ _ x => x
  · intro c' h' tk' m' news' a1 a2 a3 a4 a5 a6
    exact ⟨⟨c', h', tk', m', news', rfl, a1, a2, a3, a4, a5, a6⟩, ⟨c', h', tk', m', news', rfl, a1, a2, a3, a4, a5, a6⟩⟩
  · intro c' h' tk' m' news' a1 a2 a3 a4 a5
    have := done c' m' h' tk' a5 (hfr a4 a1) (fun p hp => a2 p (a3 p hp))
    exact ⟨this, this⟩
  · intro v s' q; exact q
  · cases b with
    | false => simpa using h₂
    | true =>
      simp only [if_true] at h₂ ⊢
      refine wpAny_mono h₂ (fun f s₃ h₃ => ?_) fun _ _ x => x
      cases f with
      | next =>
        obtain ⟨c', h', tk', m', news', rfl, a1, a2, a3, a4, a5, a6⟩ := h₃
        exact ⟨h', tk', m', Led c', μ c', rfl, a1, fun p hp => a2 p (a3 p hp), a6, c', rfl, rfl, a4, a5⟩
      | cont =>
        obtain ⟨c', h', tk', m', news', rfl, a1, a2, a3, a4, a5, a6⟩ := h₃
        exact ⟨h', tk', m', Led c', μ c', rfl, a1, fun p hp => a2 p (a3 p hp), a6, c', rfl, rfl, a4, a5⟩
      | brk => exact h₃
      | ret v => exact h₃

/-- ways that meet behind a statement -/
theorem cut {τ : Type} {prog : Program} {w : World} {A : Around} {s : Shared} {env : Env} {h₀ : Heap} {L : Addr} {E : Value → Shared → Prop} {Q : Flow → Shared → Prop}
    {st : Stmt} {rest : List Stmt} (LedX : τ → List (Addr × Obj)) (psX : τ → List (Str × Value)) (X : τ → Prop)
    (one : ∀ (D : Shared → Prop), (∀ c' h' tk' m' news', Fr h₀ L h' m' → News h₀ L h' news' → (∀ p ∈ LedX c', p ∈ news') → (∀ p ∈ psX c', m' p.1 = some p.2) → X c' → D { s with heap := h', toks := tk' }) →
      wpAny (model prog w) A (exec st env) (fun f s' => match f with | .next => D s' | f => Q f s') E s)
    (two : ∀ (c : τ) (u : Str → Option Value) h tk, X c → Fr h₀ L h (kstB u (psX c)) → News h₀ L h (LedX c) → wpAny (model prog w) A (execs rest env) Q E { s with heap := h, toks := tk }) :
    wpAny (model prog w) A (execs (st :: rest) env) Q E s := by
  refine wpAny_execs_cons ?_
  refine one (fun s' => wpAny (model prog w) A (execs rest env) Q E s') ?_
  intro c' h' tk' m' news' a1 a2 a3 a4 a5
  have e : kstB m' (psX c') = m' := funext fun y => kstB_eq a4 fun _ => rfl
  exact two c' m' h' tk' a5 (by rw [e]; exact a1) (fun p hp => a2 p (a3 p hp))

/-- an if whose test has many ways -/
theorem ifm {τ : Type} {prog : Program} {w : World} {A : Around} {s : Shared} {env : Env} {h₀ : Heap} {L : Addr} {E : Value → Shared → Prop} {Q : Flow → Shared → Prop}
    {test : PySem.Expr} {body orelse : List Stmt} {pos : Pos} (LedX : τ → List (Addr × Obj)) (psX : τ → List (Str × Value)) (X : Bool → τ → Prop)
    (one : ∀ (D : Bool → Shared → Prop), (∀ b c' h' tk' m' news', Fr h₀ L h' m' → News h₀ L h' news' → (∀ p ∈ LedX c', p ∈ news') → (∀ p ∈ psX c', m' p.1 = some p.2) → X b c' → D b { s with heap := h', toks := tk' }) →
      wpAny (model prog w) A (isTrue test env (eval test env)) D E s)
    (two : ∀ (c : τ) (u : Str → Option Value) h tk, X true c → Fr h₀ L h (kstB u (psX c)) → News h₀ L h (LedX c) → wpAny (model prog w) A (execs body env) Q E { s with heap := h, toks := tk })
    (three : ∀ (c : τ) (u : Str → Option Value) h tk, X false c → Fr h₀ L h (kstB u (psX c)) → News h₀ L h (LedX c) → wpAny (model prog w) A (execs orelse env) Q E { s with heap := h, toks := tk }) :
    wpAny (model prog w) A (exec (.If test body orelse pos) env) Q E s := by
  refine wpAny_If ?_
  refine one _ ?_
  intro b c' h' tk' m' news' a1 a2 a3 a4 a5
  have e : kstB m' (psX c') = m' := funext fun y => kstB_eq a4 fun _ => rfl
  cases b with
  | true => simp only [if_true]; exact two c' m' h' tk' a5 (by rw [e]; exact a1) (fun p hp => a2 p (a3 p hp))
  | false => simp only [Bool.false_eq_true, if_false]; exact three c' m' h' tk' a5 (by rw [e]; exact a1) (fun p hp => a2 p (a3 p hp))
/-- a for over a list that stands in the ledger -/
theorem fr {σ τ : Type} {prog : Program} {w : World} {A : Around} {s : Shared} {env : Env} {h₀ : Heap} {E : Value → Shared → Prop} {Q : Flow → Shared → Prop} {x : Str} {body : List Stmt}
    {l : Addr} {m₀ : Str → Option Value} {news₀ : List (Addr × Obj)} (vs : List Value) (nn : Nat)
    (Led : σ → List (Addr × Obj)) (ps : σ → List (Str × Value)) (P : Nat → σ → Prop) (c₀ : σ)
    (LedX : τ → List (Addr × Obj)) (psX : τ → List (Str × Value)) (X : τ → Prop)
    (hh : A.handled = none) (hx : ∀ c, ∀ p ∈ ps c, p.1 ≠ x) (hl : ∀ c, (l, listOf vs.toArray nn) ∈ Led c)
    (F : Fr h₀ env.locals s.heap m₀) (N : News h₀ env.locals s.heap news₀) (hn : ∀ p ∈ Led c₀, p ∈ news₀) (hk : ∀ p ∈ ps c₀, m₀ p.1 = some p.2) (hp : P 0 c₀)
    (turn : ∀ (i : Nat) (v : Value) (c : σ) (u : Str → Option Value) h tk own (Q' : Flow → Shared → Prop), vs[i]? = some v → OwnOff own ((Led c).map (·.1)) → P i c →
      Fr h₀ env.locals h (kstB u ((x, v) :: ps c)) → News h₀ env.locals h (Led c ++ own) →
      (∀ c' h' tk' m' news', Fr h₀ env.locals h' m' → News h₀ env.locals h' news' → (∀ p ∈ Led c', p ∈ news') → (∀ p ∈ own, p ∈ news') → OwnOff own ((Led c').map (·.1)) → (∀ p ∈ ps c', m' p.1 = some p.2) → P (i + 1) c' →
        Q' .next { s with heap := h', toks := tk' } ∧ Q' .cont { s with heap := h', toks := tk' }) →
      (∀ c' h' tk' m' news', Fr h₀ env.locals h' m' → News h₀ env.locals h' news' → (∀ p ∈ LedX c', p ∈ news') → (∀ p ∈ psX c', m' p.1 = some p.2) → X c' → Q' .brk { s with heap := h', toks := tk' }) →
      (∀ v s', Q (.ret v) s' → Q' (.ret v) s') →
      wpAny (model prog w) A (execs body env) Q' (fun _ _ => False) { s with heap := h, toks := tk })
    (over : ∀ c, P vs.length c → ∃ c', (∀ p ∈ LedX c', p ∈ Led c) ∧ (∀ p ∈ psX c', p ∈ ps c) ∧ X c')
    (done : ∀ (c : τ) (u : Str → Option Value) h tk, X c → Fr h₀ env.locals h (kstB u (psX c)) → News h₀ env.locals h (LedX c) → Q .next { s with heap := h, toks := tk }) :
    wpAny (model prog w) A (pyIter (.ref l)) (fun it s₂ => LoopAtV prog w A h₀ env x body Q E it s₂) E s := by
  have hfr : ∀ {h : Heap} {m₁ : Str → Option Value} {l : List (Str × Value)}, (∀ p ∈ l, m₁ p.1 = some p.2) → Fr h₀ env.locals h m₁ → Fr h₀ env.locals h (kstB m₁ l) := by
    intro h m₁ l h1 F1
    have e : kstB m₁ l = m₁ := funext fun y => kstB_eq h1 fun _ => rfl
    rw [e]; exact F1
  refine kdl_iter (news := Led c₀) (fun i m nx => ∃ c : σ, nx = Led c ∧ (∀ p ∈ ps c, m p.1 = some p.2) ∧ P i c) hh (hl c₀) F (fun p hp => N p (hn p hp)) ⟨c₀, rfl, hk, hp⟩ ?_ ?_
  · rintro i v m₁ nx h tk own hv hoff _ ⟨c, rfl, h1, hp'⟩ F₁ N₁
    refine wpAny_noRaise ?_
    refine wpAny_mono (turn i v c (fun y => if y = x then some v else m₁ y) h tk own
      (fun f s' => match f with
        | .next | .cont => ∃ c' h' tk' m' news', s' = { s with heap := h', toks := tk' } ∧ Fr h₀ env.locals h' m' ∧ News h₀ env.locals h' news' ∧ (∀ p ∈ Led c', p ∈ news') ∧ (∀ p ∈ own, p ∈ news') ∧ OwnOff own ((Led c').map (·.1)) ∧ (∀ p ∈ ps c', m' p.1 = some p.2) ∧ P (i + 1) c'
        | .brk => Q .next s'
        | .ret v => Q (.ret v) s') hv hoff hp' (hfr ?_ F₁) N₁ ?_ ?_ ?_) (fun f s' hq => ?_) fun _ _ x => x
    · intro p hp
      rcases List.mem_cons.mp hp with rfl | hp
      · simp
      · show (if p.1 = x then some v else m₁ p.1) = some p.2
        rw [if_neg (hx c p hp)]
        exact h1 p hp
    · intro c' h' tk' m' news' a1 a2 a3 a4 a5 a6 a7
      exact ⟨⟨c', h', tk', m', news', rfl, a1, a2, a3, a4, a5, a6, a7⟩, ⟨c', h', tk', m', news', rfl, a1, a2, a3, a4, a5, a6, a7⟩⟩
    · intro c' h' tk' m' news' a1 a2 a3 a4 a5
      exact done c' m' h' tk' a5 (hfr a4 a1) (fun p hp => a2 p (a3 p hp))
    · intro v s' q; exact q
    · cases f with
      | ret v => exact hq
      | brk => exact hq
      | next =>
        obtain ⟨c', h', tk', m', news', e, a1, a2, a3, a4, a5, a6, a7⟩ := hq
        exact ⟨h', tk', m', news', Led c', e, a1, a2, a3, a4, a5, hl c', c', rfl, a6, a7⟩
      | cont =>
        obtain ⟨c', h', tk', m', news', e, a1, a2, a3, a4, a5, a6, a7⟩ := hq
        exact ⟨h', tk', m', news', Led c', e, a1, a2, a3, a4, a5, hl c', c', rfl, a6, a7⟩
  · rintro m₁ nx h tk ⟨c, rfl, h1, hp'⟩ F₁ N₁
    obtain ⟨c', b1, b2, b3⟩ := over c hp'
    exact done c' m₁ h tk b3 (hfr (fun p hp => h1 p (b2 p hp)) F₁) (fun p hp => N₁ p (b1 p hp))
theorem sw_mem {α : Type} {x a : α} {tl r : List α} : ∀ q ∈ a :: ((x :: tl) ++ r), q ∈ x :: a :: (tl ++ r) := by
  intro q hq
  simp only [List.cons_append, List.mem_cons, List.mem_append] at hq ⊢
  rcases hq with h | h | h | h
  · exact .inr (.inl h)
  · exact .inl h
  · exact .inr (.inr (.inl h))
  · exact .inr (.inr (.inr h))
theorem bindsAt {K : Frag} {f : Addr} {fd' : FuncData} {args : Args} {binds : List (Str × Value)} {s : Shared} {oc : Value} {od : Option Addr} {osl : Array (Option Value)}
    (ho : K.lookup f = some ⟨oc, od, .func fd', osl⟩) (hb : BindsTo s fd' args binds) :
    ∀ oc od fd osl, K.lookup f = some ⟨oc, od, .func fd, osl⟩ → BindsTo s fd args binds := by
  intro oc od fd osl e
  rw [ho] at e
  cases e
  exact hb

theorem subN {h₀ h : Heap} {L : Addr} {r r' : List (Addr × Obj)} (N : News h₀ L h r) (hs : ∀ p ∈ r', p ∈ r) : News h₀ L h r' := fun p hp => N p (hs p hp)
theorem drop2 {h₀ h : Heap} {L : Addr} {x y : Addr × Obj} {r : List (Addr × Obj)} (N : News h₀ L h (x :: y :: r)) : News h₀ L h (x :: r) :=
  fun p hp => N p (by rcases List.mem_cons.mp hp with e | e; exact e ▸ .head _; exact .tail _ (.tail _ e))
theorem drop1 {h₀ h : Heap} {L : Addr} {y : Addr × Obj} {r : List (Addr × Obj)} (N : News h₀ L h (y :: r)) : News h₀ L h r :=
  fun p hp => N p (.tail _ hp)
theorem r_turn {prog : Program} {w : World} {A : Around} {E : Value → Shared → Prop} {s : Shared} {value slice : PySem.Expr} {o i : Value} {Q : Value → Shared → Prop}
    (h : wpAny (model prog w) A (subscriptTail (.Name (Str.ofString "_") ⟨0, 0, 0, 0⟩) slice o i) Q E s) : wpAny (model prog w) A (subscriptTail value slice o i) Q E s := kba_turn (fun _ => rfl) h
/-- the places at which the walk stops, by the lines of the program's text -/
def stopS : Stmt → Bool
  | .Assign _ _ p => [8, 85, 203, 228, 302, 306].contains p.line
  | .If _ _ _ p => [52, 62, 96, 137, 208, 213, 243, 303, 307].contains p.line
  | _ => false
def stopX : Stmt → Bool
  | .If _ _ _ p => [92, 94, 176, 200, 211].contains p.line
  | .While _ _ _ _ => true
  | .For _ _ _ _ _ => true
  | _ => false
def stopC (n : Nat) : Bool := [213, 159, 152, 206, 122, 114, 90, 199, 106, 185].contains n
theorem st_execs {M : Model} {A : Around} {E : Value → Shared → Prop} {Q : Flow → Shared → Prop} {s : Shared} {env : Env} {st : Stmt} {r : List Stmt} (_ : stopS st = true) (k : wpAny M A (execs (st :: r) env) Q E s) : wpAny M A (execs (st :: r) env) Q E s := k
theorem st_exec {M : Model} {A : Around} {E : Value → Shared → Prop} {Q : Flow → Shared → Prop} {s : Shared} {env : Env} {st : Stmt} (_ : stopX st = true) (k : wpAny M A (exec st env) Q E s) : wpAny M A (exec st env) Q E s := k
theorem st_call {M : Model} {A : Around} {E : Value → Shared → Prop} {Q : Value → Shared → Prop} {s : Shared} {n : Nat} {a : List Value} {kw : List (Str × Value)} (_ : stopC n = true) (k : wpAny M A (call (.ref n) a kw) Q E s) : wpAny M A (call (.ref n) a kw) Q E s := k
theorem fill : PySem.Challenge.rw_br5019_01 = PySem.Challenge.rw_br5019_01 ∧ hd.heap_39 = hd.heap_39 := by
  w_top off
  k_fill
  exact ⟨rfl, rfl⟩
end Mine
end
noncomputable section
open Lean PySem PySem.W PySem.Spec PySem.Calls PyProof.Rows PySem.Builtin.Str
set_option maxRecDepth 100000
namespace Mine

/-- a text by its signs -/
def tx (l : List Nat) : Str := ⟨l.toArray⟩
theorem tx_list (l : List Nat) : (tx l).cps.toList = l := rfl
theorem tx_len (l : List Nat) : (tx l).length = l.length := by simp [tx, Str.length]
theorem tx_app (a b : List Nat) : tx a ++ tx b = tx (a ++ b) := by
  show Str.append _ _ = _
  simp [Str.append, tx]
theorem tx_of (x : Str) : x = tx x.cps.toList := by cases x; simp [tx]
theorem tx_inj {a b : List Nat} (h : tx a = tx b) : a = b := by
  have := congrArg (fun x => x.cps.toList) h
  simpa [tx] using this
theorem item_tx {l : List Nat} {i : Int} (h0 : 0 ≤ i) (h1 : i < (l.length : Int)) : Txt.item (tx l) i = tx [l.getD i.toNat 0] := by
  have h2 : i.toNat < l.length := by omega
  have h3 : ¬ i < 0 := by omega
  simp [Txt.item, Txt.charAt, seqIndex?, tx, Str.length, h0, h1, h3, h2, List.getD]
theorem has_tx (y : Str) (c : Nat) : Txt.contains y (tx [c]) = y.cps.toList.contains c := by
  show (!(occurrences y ⟨#[c]⟩ 0 y.length 1).isEmpty) = _
  rw [StrLaws.found_one]
  simp [List.contains_eq_mem]
theorem range_cut {x y : Int} (hx : 0 ≤ x) : sliceRange x y 1 = (List.range (y - x).toNat).map (fun k => x.toNat + k) := by
  unfold sliceRange
  have e : (if (1 : Int) > 0 then (if x < y then (y - x + 1 - 1) / 1 else 0) else (if x > y then (x - y - 1 - 1) / (-1) else 0)).toNat = (y - x).toNat := by
    simp only [show (1 : Int) > 0 by decide, if_true, Int.ediv_one]
    split <;> omega
  simp only [e]
  apply List.map_congr_left
  intro k _
  omega
theorem cut_ix (l : List Nat) (a b : Nat) : strSliceIndices (some (a : Int)) (some (b : Int)) 1 l.length = (List.range (min b l.length - min a l.length)).map (fun k => min a l.length + k) := by
  unfold strSliceIndices
  simp only [show (1 : Int) > 0 by decide, if_true]
  have e1 : ¬ (a : Int) < 0 := by omega
  have e2 : ¬ (b : Int) < 0 := by omega
  simp only [if_neg e1, if_neg e2]
  rw [range_cut (by omega)]
  have e3 : (max 0 (min (b : Int) (l.length : Int)) - max 0 (min (a : Int) (l.length : Int))).toNat = min b l.length - min a l.length := by omega
  have e4 : (max 0 (min (a : Int) (l.length : Int))).toNat = min a l.length := by omega
  rw [e3, e4]
theorem pick_ix (l : List Nat) (a c : Nat) (h : a + c ≤ l.length) : ((List.range c).map (fun k => a + k)).filterMap (l[·]?) = (l.drop a).take c := by
  induction c with
  | zero => simp
  | succ c ih =>
    rw [List.range_succ, List.map_append, List.filterMap_append, ih (by omega), List.take_add_one]
    congr 1
    have : a + c < l.length := by omega
    simp [this]
theorem slice_tx {l : List Nat} {i j : Int} (h0 : 0 ≤ i) (h1 : 0 ≤ j) : Txt.slice (tx l) (some i) (some j) = tx ((l.take j.toNat).drop i.toNat) := by
  obtain ⟨a, rfl⟩ := Int.eq_ofNat_of_zero_le h0
  obtain ⟨b, rfl⟩ := Int.eq_ofNat_of_zero_le h1
  unfold Txt.slice
  simp only [tx_len, Int.toNat_natCast, cut_ix, List.length_map, List.length_range]
  have hx : ∀ n : Nat, (tx l).cps[n]? = l[n]? := fun n => by simp [tx]
  split
  · rename_i hc
    simp only [beq_self_eq_true, Bool.true_and, beq_iff_eq] at hc
    congr 1
    by_cases hl : l = []
    · simp [hl]
    · have h5 : 0 < l.length := List.length_pos_iff.mpr hl
      have h6 : a = 0 := by omega
      have h7 : l.length ≤ b := by omega
      rw [h6, List.drop_zero, List.take_of_length_le h7]
  · show tx _ = tx _
    congr 1
    simp only [hx]
    by_cases hab : a ≤ l.length
    · rw [Nat.min_eq_left hab]
      by_cases h2 : a ≤ min b l.length
      · rw [pick_ix l a _ (by omega)]
        apply List.ext_getElem?
        intro n
        rw [List.getElem?_take, List.getElem?_drop, List.getElem?_drop, List.getElem?_take]
        by_cases h3 : a + n < b
        · rw [if_pos h3]
          split
          · rfl
          · rw [List.getElem?_eq_none (by omega)]
        · rw [if_neg h3, if_neg (by omega)]
      · rw [show min b l.length - a = 0 by omega, List.drop_eq_nil_of_le (by rw [List.length_take]; omega)]
        rfl
    · rw [show min b l.length - min a l.length = 0 by omega, List.drop_eq_nil_of_le (by rw [List.length_take]; omega)]
      rfl

section
variable {prog : Program} {w : World} {A : Around} {E : Value → Shared → Prop} {s : Shared} {Q : Value → Shared → Prop} {t u : Tok} {l : List Nat} {i j : Int}

theorem r_item {value slice : PySem.Expr} (h0 : 0 ≤ i) (h1 : i < (l.length : Int)) (h2 : l.length ≤ 10000) (h : Q (.str (tx [l.getD i.toNat 0]) s.toks) { s with toks := s.toks + 1 })
    (hs : subscripted slice false (.str (tx l) t) (.int i u) = operate [.str (tx l) t, .int i u] (getItem (.str (tx l) t) (.int i u)) := by with_unfolding_all rfl)
    (ht : ∀ r, letTemporaryGo value (.str (tx l) t) r = pure () := by intro _; with_unfolding_all rfl) :
    wpAny (model prog w) A (subscriptTail value slice (.str (tx l) t) (.int i u)) Q E s :=
  KXi.item (n := l.length) (tx_len l) (by omega) h1 (by omega) (fun _ => by rw [item_tx h0 h1]; exact h) hs ht
theorem r_in {c : Nat} {y : Str} (h : Q (.bool (y.cps.toList.contains c)) s) : wpAny (model prog w) A (compareOp .In (.str (tx [c]) t) (.str y u)) Q E s :=
  PyProof.Rows.in_str (by have e := has_tx y c; unfold Txt.contains at e; rw [e]; exact h)
theorem r_notin {c : Nat} {y : Str} (h : Q (.bool (!y.cps.toList.contains c)) s) : wpAny (model prog w) A (compareOp .NotIn (.str (tx [c]) t) (.str y u)) Q E s :=
  PySem.SB.notContains (by rw [has_tx]; exact h)
theorem r_eq {y : Str} (h : Q (.bool (l == y.cps.toList)) s) : wpAny (model prog w) A (compareOp .Eq (.str (tx l) t) (.str y u)) Q E s :=
  PySem.P.eq_str h
theorem r_ne {y : Str} (h : Q (.bool (l != y.cps.toList)) s) : wpAny (model prog w) A (compareOp .NotEq (.str (tx l) t) (.str y u)) Q E s :=
  PySem.P.ne_str h
theorem r_ord {c : Nat} (h : Q (.int c s.toks) { s with toks := s.toks + 1 }) : wpAny (model prog w) A (call (.builtin "ord") [.str (tx [c]) t]) Q E s := PySem.P.ord_of_char h
theorem r_cat {a b : List Nat} (hz : a.length + b.length ≤ 10000) (h : ∀ t' k, Q (.str (tx (a ++ b)) t') { s with toks := k }) : wpAny (model prog w) A (binaryOp .Add (.str (tx a) t) (.str (tx b) u)) Q E s :=
  PySem.SB.add (by rw [tx_app]; exact h) (by rw [tx_len, tx_len, sizeLine_eq]; omega)
theorem r_cat_r {a : List Nat} {y : Str} (hz : a.length + y.length ≤ 10000) (h : ∀ t' k, Q (.str (tx (a ++ y.cps.toList)) t') { s with toks := k }) : wpAny (model prog w) A (binaryOp .Add (.str (tx a) t) (.str y u)) Q E s := by
  rw [tx_of y] at hz ⊢
  rw [tx_len] at hz
  exact r_cat hz h
theorem r_cat_l {b : List Nat} {y : Str} (hz : y.length + b.length ≤ 10000) (h : ∀ t' k, Q (.str (tx (y.cps.toList ++ b)) t') { s with toks := k }) : wpAny (model prog w) A (binaryOp .Add (.str y t) (.str (tx b) u)) Q E s := by
  rw [tx_of y] at hz ⊢
  rw [tx_len] at hz
  exact r_cat hz h
theorem r_len (hz : l.length ≤ 10000) (h : Q (.int (l.length : Int) (s.toks + 1)) { s with toks := s.toks + 1 + 1 }) : wpAny (model prog w) A (call (.builtin "len") [.str (tx l) t]) Q E s :=
  PySem.P.len_str (by rw [tx_len]; omega) (by rw [tx_len]; exact h)
theorem r_slice {value : PySem.Expr} {el eu : PySem.Expr} {pos : Pos} {h₀ : Heap} {L : Addr} {m : Str → Option Value} {news : List (Addr × Obj)} {ui uj : Tok} (h0 : 0 ≤ i) (h1 : 0 ≤ j) (hz : l.length ≤ 10000) (hF : Fr h₀ L s.heap m) (hN : News h₀ L s.heap news)
    (h : ∀ h' t' k, Fr h₀ L h' m → News h₀ L h' news → Q (.str (tx ((l.take j.toNat).drop i.toNat)) t') { s with heap := h', toks := k })
    (hs : subscripted (.Slice (some el) (some eu) none pos) false (.str (tx l) t) (.ref s.heap.objs.size) = operate [.ref s.heap.objs.size, .str (tx l) t] (getItem (.str (tx l) t) (.ref s.heap.objs.size)) := by with_unfolding_all rfl)
    (ht : ∀ r, letTemporaryGo value (.str (tx l) t) r = pure () := by intro _; with_unfolding_all rfl) :
    wpAny (model prog w) A (subscriptTail value (.Slice (some el) (some eu) none pos) (.str (tx l) t) (.ref s.heap.objs.size)) Q E { s with heap := s.heap.push { cls := .type "slice", data := .fields #[.int i ui, .int j uj, .none] } } :=
  slice_strN_ss hF hN (fun h' t' k a b => by rw [slice_tx h0 h1]; exact h h' t' k a b) hs ht (by rw [tx_len, sizeLine_eq]; omega)
end
end Mine
end
noncomputable section
open Lean PySem PySem.W PySem.Spec PySem.Calls PyProof.Rows
set_option maxRecDepth 100000
namespace Mine
/-! what is computed, in plain words over lists of signs -/
def isWs (c : Nat) : Bool := [32, 9, 10, 13, 12].contains c
def isBl (c : Nat) : Bool := [32, 9].contains c
def isNl (c : Nat) : Bool := [10, 13].contains c
def isPu (c : Nat) : Bool := [33, 34, 35, 36, 37, 38, 39, 40, 41, 42, 43, 44, 45, 46, 47, 58, 59, 60, 61, 62, 63, 64, 91, 92, 93, 94, 95, 96, 123, 124, 125, 126].contains c
def isBad (c : Nat) : Bool := [60, 10, 13, 0].contains c
noncomputable def skip (W : Nat → Bool) : List Nat → Nat → Nat
  | [], p => p
  | c :: r, p => if W c then skip W r (p + 1) else p
def beginW (t : List Nat) (p : Nat) : Nat :=
  let p1 := skip isBl (t.drop p) p
  if p1 < t.length ∧ isNl (t.getD p1 0) = true then
    let p2 := if t.getD p1 0 = 13 ∧ p1 + 1 < t.length ∧ t.getD (p1 + 1) 0 = 10 then p1 + 2 else p1 + 1
    skip isBl (t.drop p2) p2
  else p1
abbrev U := Nat × Bool × Nat
noncomputable def units : List Nat → Nat → List U
  | [], _ => []
  | [c], p => [(c, false, p)]
  | c :: d :: r, p => if c = 92 ∧ isPu d = true then (d, true, p) :: units r (p + 2) else (c, false, p) :: units (d :: r) (p + 1)
def unesc (l : List Nat) : List Nat := (units l 0).map (·.1)

theorem drop_cons {t : List Nat} {p : Nat} (h : p < t.length) : t.drop p = t.getD p 0 :: t.drop (p + 1) := by
  rw [List.drop_eq_getElem_cons h]
  simp [h]
theorem take_get {t : List Nat} {p m : Nat} (h : p < m) : (t.take m).getD p 0 = t.getD p 0 := by
  simp [List.getD, h]
theorem skip_t {W : Nat → Bool} {t : List Nat} {p : Nat} (h : p < t.length) (hw : W (t.getD p 0) = true) : skip W (t.drop (p + 1)) (p + 1) = skip W (t.drop p) p := by
  rw [drop_cons h]; simp only [skip]; rw [if_pos hw]
theorem skip_f {W : Nat → Bool} {t : List Nat} {p : Nat} (h : p < t.length) (hw : W (t.getD p 0) = false) : p = skip W (t.drop p) p := by
  rw [drop_cons h]; simp only [skip]; rw [if_neg (by rw [hw]; exact Bool.false_ne_true)]
theorem skip_e {W : Nat → Bool} {t : List Nat} {p : Nat} (h : ¬ p < t.length) : p = skip W (t.drop p) p := by
  rw [List.drop_eq_nil_of_le (by omega)]; rfl
theorem skip_le (W : Nat → Bool) : ∀ (l : List Nat) (p : Nat), p ≤ skip W l p ∧ skip W l p ≤ p + l.length
  | [], p => by simp [skip]
  | c :: r, p => by
    simp only [skip, List.length_cons]
    split
    · have := skip_le W r (p + 1); omega
    · omega

theorem units_nil {t : List Nat} {p : Nat} (h : ¬ p < t.length) : units (t.drop p) p = [] := by
  rw [List.drop_eq_nil_of_le (by omega)]; rfl
theorem units_esc {t : List Nat} {p : Nat} (h : p + 1 < t.length) (h1 : t.getD p 0 = 92) (h2 : isPu (t.getD (p + 1) 0) = true) :
    units (t.drop p) p = (t.getD (p + 1) 0, true, p) :: units (t.drop (p + 2)) (p + 2) := by
  rw [drop_cons (by omega : p < t.length), drop_cons h]
  simp only [units]
  rw [if_pos ⟨h1, h2⟩]
theorem units_one {t : List Nat} {p : Nat} (h : p < t.length) (hn : ¬ (t.getD p 0 = 92 ∧ p + 1 < t.length ∧ isPu (t.getD (p + 1) 0) = true)) :
    units (t.drop p) p = (t.getD p 0, false, p) :: units (t.drop (p + 1)) (p + 1) := by
  rw [drop_cons h]
  by_cases h2 : p + 1 < t.length
  · rw [drop_cons h2]
    simp only [units]
    rw [if_neg (fun e => hn ⟨e.1, h2, e.2⟩)]
  · rw [List.drop_eq_nil_of_le (by omega)]
    simp [units]
/-- a destination between angles: the place of its end -/
noncomputable def angleU : List U → Option Nat
  | [] => none
  | (c, e, p) :: r => if !e && c == 62 then some p else if !e && isBad c then none else angleU r
abbrev angleS (t : List Nat) (p : Nat) : Option Nat := angleU (units (t.drop p) p)
theorem angle_esc {t : List Nat} {p : Nat} (h : p + 1 < t.length) (h1 : t.getD p 0 = 92) (h2 : isPu (t.getD (p + 1) 0) = true) : angleS t (p + 2) = angleS t p := by
  show _ = angleU (units (t.drop p) p)
  rw [units_esc h h1 h2]
  simp [angleU]
theorem angle_one {t : List Nat} {p : Nat} (h : p < t.length) (hn : ¬ (t.getD p 0 = 92 ∧ p + 1 < t.length ∧ isPu (t.getD (p + 1) 0) = true)) :
    angleS t p = if t.getD p 0 == 62 then some p else if isBad (t.getD p 0) then none else angleS t (p + 1) := by
  show angleU (units (t.drop p) p) = _
  rw [units_one h hn]
  simp only [angleU, Bool.not_false, Bool.true_and]
theorem angle_end {t : List Nat} {p : Nat} (h : ¬ p < t.length) : angleS t p = none := by
  show angleU (units (t.drop p) p) = _
  rw [units_nil h]; rfl
theorem ws_noesc {c : Nat} {X : Prop} (h : isWs c = true) : ¬ (c = 92 ∧ X) := by
  rintro ⟨rfl, _⟩; exact absurd h (by decide)
theorem lo_noesc {c : Nat} {X : Prop} (h : (decide (c < 32) || c == 127) = true) : ¬ (c = 92 ∧ X) := by
  rintro ⟨rfl, _⟩; exact absurd h (by decide)
/-- a bare destination: did it go well, the place, the depth -/
noncomputable def bareU (bound : Int) : List U → Int → Nat → Bool × Nat × Int
  | [], lv, n => (true, n, lv)
  | (c, e, p) :: r, lv, n =>
    if e then bareU bound r lv n
    else if isWs c then (true, p, lv)
    else if decide (c < 32) || c == 127 then (false, p, lv)
    else if c == 40 then (if lv + 1 > bound then (false, p, lv + 1) else bareU bound r (lv + 1) n)
    else if c == 41 then (if lv = 0 then (true, p, lv) else bareU bound r (lv - 1) n)
    else bareU bound r lv n
abbrev bareS (bound : Int) (t : List Nat) (p : Nat) (lv : Int) : Bool × Nat × Int := bareU bound (units (t.drop p) p) lv t.length
theorem bare_esc {bound : Int} {t : List Nat} {p : Nat} {lv : Int} (h : p + 1 < t.length) (h1 : t.getD p 0 = 92) (h2 : isPu (t.getD (p + 1) 0) = true) : bareS bound t (p + 2) lv = bareS bound t p lv := by
  show _ = bareU bound (units (t.drop p) p) lv t.length
  rw [units_esc h h1 h2]
  simp [bareU]
theorem bare_one {bound : Int} {t : List Nat} {p : Nat} {lv : Int} (h : p < t.length) (hn : ¬ (t.getD p 0 = 92 ∧ p + 1 < t.length ∧ isPu (t.getD (p + 1) 0) = true)) :
    bareS bound t p lv = if isWs (t.getD p 0) then (true, p, lv) else if decide (t.getD p 0 < 32) || t.getD p 0 == 127 then (false, p, lv)
      else if t.getD p 0 == 40 then (if lv + 1 > bound then (false, p, lv + 1) else bareS bound t (p + 1) (lv + 1))
      else if t.getD p 0 == 41 then (if lv = 0 then (true, p, lv) else bareS bound t (p + 1) (lv - 1)) else bareS bound t (p + 1) lv := by
  show bareU bound (units (t.drop p) p) lv t.length = _
  rw [units_one h hn]
  simp only [bareU, Bool.false_eq_true, if_false]
theorem bare_end {bound : Int} {t : List Nat} {lv : Int} {p : Nat} (h : ¬ p < t.length) : bareS bound t p lv = (true, t.length, lv) := by
  show bareU bound (units (t.drop p) p) lv t.length = _
  rw [units_nil h]; rfl
/-- a destination (its signs, the place behind it), and the place at which the scan stood -/
def hrefS (t : List Nat) (start : Nat) (block : Bool) (bound : Int) : Option (List Nat × Nat) × Nat :=
  let k := beginW t start
  if k < t.length then
    if t.getD k 0 == 60 then
      match angleS t (k + 1) with
      | some q => (some ((t.take q).drop (k + 1), q + 1), q + 1)
      | none => (none, k)
    else if block && isWs (t.getD k 0) then (none, k)
    else
      match bareS bound t k 0 with
      | (true, q, lv) => if lv = 0 then (some ((t.take q).drop k, q), q) else (none, q)
      | (false, q, _) => (none, q)
  else (none, k)
/-! a title -/
def uD : U := (0, false, 0)
noncomputable def skipU (W : Nat → Bool) : List U → Nat → Nat
  | [], k => k
  | (c, e, _) :: r, k => if W c && !e then skipU W r (k + 1) else k
theorem dropU {us : List U} {k : Nat} (h : k < us.length) : us.drop k = us.getD k uD :: us.drop (k + 1) := by
  rw [List.drop_eq_getElem_cons h]
  simp [h]
theorem skipU_t {W : Nat → Bool} {us : List U} {k : Nat} (h : k < us.length) (hw : W (us.getD k uD).1 = true) (he : (us.getD k uD).2.1 = false) : skipU W (us.drop (k + 1)) (k + 1) = skipU W (us.drop k) k := by
  rw [dropU h]; simp only [skipU, hw, he]; rfl
theorem skipU_f {W : Nat → Bool} {us : List U} {k : Nat} (h : k < us.length) (hw : W (us.getD k uD).1 = false) : k = skipU W (us.drop k) k := by
  rw [dropU h]; simp only [skipU, hw]; rfl
theorem skipU_g {W : Nat → Bool} {us : List U} {k : Nat} (h : k < us.length) (he : (us.getD k uD).2.1 = true) : k = skipU W (us.drop k) k := by
  rw [dropU h]; simp only [skipU, he, Bool.not_true, Bool.and_false]; rfl
theorem skipU_e {W : Nat → Bool} {us : List U} {k : Nat} (h : ¬ k < us.length) : k = skipU W (us.drop k) k := by
  rw [List.drop_eq_nil_of_le (by omega)]; rfl
def isOp (c : Nat) : Bool := [39, 34, 40].contains c
def clOf (op : Nat) : Nat := if op == 40 then 41 else op
noncomputable def blankU : List U → Bool
  | [] => false
  | (c, e, _) :: r => if isBl c && !e then blankU r else c == 10
noncomputable def titleU (op : Nat) : List U → List Nat → Option (List Nat × Nat)
  | [], _ => none
  | (c, e, p) :: r, acc =>
    if e then titleU op r (acc ++ [c])
    else if c == 0 || (c == 40 && op == 40) then none
    else if c == 10 && blankU r then none
    else if c == clOf op then some (acc, p + 1)
    else titleU op r (acc ++ [c])
def titleS (t : List Nat) (start lim : Nat) : Option (List Nat × Nat) :=
  let us := units ((t.take lim).drop start) start
  let k := skipU isWs us 0
  if k ≠ 0 ∧ k < us.length ∧ (us.getD k uD).2.1 = false ∧ isOp (us.getD k uD).1 = true then titleU (us.getD k uD).1 (us.drop (k + 1)) []
  else none
theorem skipU_le' (W : Nat → Bool) : ∀ (us : List U) (k : Nat), skipU W us k ≤ k + us.length
  | [], _ => Nat.le_refl _
  | (c, e, p) :: r, k => by
    simp only [skipU, List.length_cons]
    split
    · have := skipU_le' W r (k + 1); omega
    · omega
theorem skipU_le {W : Nat → Bool} (us : List U) : skipU W us 0 ≤ us.length := by have := skipU_le' W us 0; omega
theorem skipU_if {W : Nat → Bool} {us : List U} {k : Nat} (h : k < us.length) :
    skipU W (us.drop k) k = if (W (us.getD k uD).1 && !(us.getD k uD).2.1) = true then skipU W (us.drop (k + 1)) (k + 1) else k := by
  rw [dropU h]; rfl
theorem blank_if {us : List U} {k : Nat} (h : k < us.length) :
    blankU (us.drop k) = if (isBl (us.getD k uD).1 && !(us.getD k uD).2.1) = true then blankU (us.drop (k + 1)) else (us.getD k uD).1 == 10 := by
  rw [dropU h]; rfl
theorem title_if {op : Nat} {us : List U} {k : Nat} {acc : List Nat} (h : k < us.length) :
    titleU op (us.drop k) acc = if (us.getD k uD).2.1 = true then titleU op (us.drop (k + 1)) (acc ++ [(us.getD k uD).1])
      else if ((us.getD k uD).1 == 0 || ((us.getD k uD).1 == 40 && op == 40)) = true then none
      else if ((us.getD k uD).1 == 10 && blankU (us.drop (k + 1))) = true then none
      else if ((us.getD k uD).1 == clOf op) = true then some (acc, (us.getD k uD).2.2 + 1)
      else titleU op (us.drop (k + 1)) (acc ++ [(us.getD k uD).1]) := by
  rw [dropU h]; rfl
theorem title_end {op : Nat} {us : List U} {k : Nat} {acc : List Nat} (h : ¬ k < us.length) : titleU op (us.drop k) acc = none := by
  rw [List.drop_eq_nil_of_le (by omega)]; rfl
theorem blank_at (us : List U) (k : Nat) : ∀ j, j = skipU isBl (us.drop k) k → blankU (us.drop k) = (decide (j < us.length) && (us.getD j uD).1 == 10) := by
  intro j hj
  by_cases h : k < us.length
  · have ih := blank_at us (k + 1) j
    rw [skipU_if h] at hj
    rw [blank_if h]
    split at hj
    · rename_i hc
      rw [if_pos hc]
      exact ih hj
    · rename_i hc
      rw [if_neg hc, hj]
      simp only [h, decide_true, Bool.true_and]
  · rw [List.drop_eq_nil_of_le (by omega)] at hj ⊢
    have e : j = k := hj
    have e2 : decide (j < us.length) = false := decide_eq_false (by omega)
    rw [e2]
    rfl
termination_by us.length - k
abbrev tupOf (vs : List Value) : Obj := { cls := .type "tuple", data := .seq vs.toArray }

/-- a list of units stands in the ledger -/
inductive UnitsIn (led : List (Addr × Obj)) : List Value → List U → Prop
  | nil : UnitsIn led [] []
  | cons {a : Addr} {t1 t2 : Tok} {n : Nat} {u : U} {vs : List Value} {us : List U} : (a, listOf [.str (tx [u.1]) t1, .bool u.2.1, .int (u.2.2 : Nat) t2].toArray n) ∈ led → UnitsIn led vs us → UnitsIn led (.ref a :: vs) (u :: us)
theorem UnitsIn.mono {led led' : List (Addr × Obj)} (hs : ∀ p ∈ led, p ∈ led') {vs : List Value} {us : List U} (h : UnitsIn led vs us) : UnitsIn led' vs us := by
  induction h with
  | nil => exact .nil
  | cons h _ ih => exact .cons (hs _ h) ih
theorem UnitsIn.length {led : List (Addr × Obj)} {vs : List Value} {us : List U} (h : UnitsIn led vs us) : vs.length = us.length := by
  induction h with
  | nil => rfl
  | cons _ _ ih => simp [ih]
theorem UnitsIn.snoc {led : List (Addr × Obj)} {vs : List Value} {us : List U} (h : UnitsIn led vs us) {a : Addr} {t1 t2 : Tok} {n : Nat} {u : U} (hm : (a, listOf [.str (tx [u.1]) t1, .bool u.2.1, .int (u.2.2 : Nat) t2].toArray n) ∈ led) :
    UnitsIn led (vs ++ [.ref a]) (us ++ [u]) := by
  induction h with
  | nil => exact .cons hm .nil
  | cons h _ ih => exact .cons h ih
theorem UnitsIn.get {led : List (Addr × Obj)} {vs : List Value} {us : List U} (h : UnitsIn led vs us) {k : Nat} (hk : k < us.length) :
    ∃ a t1 t2 n, vs[k]? = some (.ref a) ∧ (a, listOf [.str (tx [(us[k]).1]) t1, .bool (us[k]).2.1, .int ((us[k]).2.2 : Nat) t2].toArray n) ∈ led := by
  induction h generalizing k with
  | nil => exact absurd hk (Nat.not_lt_zero _)
  | cons hm _ ih =>
    cases k with
    | zero => exact ⟨_, _, _, _, rfl, hm⟩
    | succ k => exact ih (Nat.lt_of_succ_lt_succ hk)
theorem UnitsIn.at {led : List (Addr × Obj)} {vs : List Value} {us : List U} (h : UnitsIn led vs us) {i : Nat} {v : Value} (hv : vs[i]? = some v) :
    ∃ c e p a t1 t2 n, us.drop i = (c, e, p) :: us.drop (i + 1) ∧ v = .ref a ∧ (a, listOf [.str (tx [c]) t1, .bool e, .int (p : Nat) t2].toArray n) ∈ led := by
  have hk : i < us.length := by rw [← h.length]; exact (List.getElem?_eq_some_iff.mp hv).1
  obtain ⟨a, t1, t2, n, h1, h2⟩ := h.get hk
  refine ⟨_, _, _, a, t1, t2, n, List.drop_eq_getElem_cons hk, ?_, h2⟩
  rw [h1] at hv
  exact (Option.some.inj hv).symm
theorem dupN {h₀ h : Heap} {L : Addr} {p : Addr × Obj} {r : List (Addr × Obj)} (N : News h₀ L h r) (hm : p ∈ r) : News h₀ L h (p :: r) := by
  intro q hq
  rcases List.mem_cons.mp hq with rfl | hq
  · exact N _ hm
  · exact N _ hq
theorem units_length : ∀ (l : List Nat) (p : Nat), (units l p).length ≤ l.length
  | [], _ => Nat.le_refl _
  | [_], _ => Nat.le_refl _
  | c :: d :: r, p => by
    simp only [units]
    split
    · have := units_length r (p + 2); simp only [List.length_cons]; omega
    · have := units_length (d :: r) (p + 1); simp only [List.length_cons] at *; omega

/-! the literals of the text -/
theorem L_ws : (Str.ofString " \t\n\x0d\x0c").cps.toList = [32, 9, 10, 13, 12] := by decide +kernel
theorem L_bl : (Str.ofString " \t").cps.toList = [32, 9] := by decide +kernel
theorem L_nl : (Str.ofString "\n\x0d").cps.toList = [10, 13] := by decide +kernel
theorem L_bad : (Str.ofString "<\n\x0d\x00").cps.toList = [60, 10, 13, 0] := by decide +kernel
theorem L_pu : (Str.ofString "!\"#$%&'()*+,-./:;<=>?@\x5b\\]^_`{|}~").cps.toList = [33, 34, 35, 36, 37, 38, 39, 40, 41, 42, 43, 44, 45, 46, 47, 58, 59, 60, 61, 62, 63, 64, 91, 92, 93, 94, 95, 96, 123, 124, 125, 126] := by decide +kernel
theorem L_lt : (Str.ofString "<").cps.toList = [60] := by decide +kernel
theorem L_gt : (Str.ofString ">").cps.toList = [62] := by decide +kernel
theorem L_bs : (Str.ofString "\\").cps.toList = [92] := by decide +kernel
theorem L_lp : (Str.ofString "(").cps.toList = [40] := by decide +kernel
theorem L_rp : (Str.ofString ")").cps.toList = [41] := by decide +kernel
theorem L_del : (Str.ofString "\x7f").cps.toList = [127] := by decide +kernel
theorem L_nul : (Str.ofString "\x00").cps.toList = [0] := by decide +kernel
theorem L_n : (Str.ofString "\n").cps.toList = [10] := by decide +kernel
theorem L_r : (Str.ofString "\x0d").cps.toList = [13] := by decide +kernel
theorem L_rn : (Str.ofString "\x0d\n").cps.toList = [13, 10] := by decide +kernel
theorem L_open : (Str.ofString "'\"(").cps.toList = [39, 34, 40] := by decide +kernel
theorem E_rp : Str.ofString ")" = tx [41] := by decide +kernel
theorem E_nil : Str.ofString "" = tx [] := by decide +kernel
theorem H_open (c : Nat) : (Str.ofString "'\"(").cps.toList.contains c = isOp c := by rw [L_open]; rfl
theorem H_ws (c : Nat) : (Str.ofString " \t\n\x0d\x0c").cps.toList.contains c = isWs c := by rw [L_ws]; rfl
theorem H_bl (c : Nat) : (Str.ofString " \t").cps.toList.contains c = isBl c := by rw [L_bl]; rfl
theorem H_nl (c : Nat) : (Str.ofString "\n\x0d").cps.toList.contains c = isNl c := by rw [L_nl]; rfl
theorem H_bad (c : Nat) : (Str.ofString "<\n\x0d\x00").cps.toList.contains c = isBad c := by rw [L_bad]; rfl
theorem H_pu (c : Nat) : (Str.ofString "!\"#$%&'()*+,-./:;<=>?@\x5b\\]^_`{|}~").cps.toList.contains c = isPu c := by rw [L_pu]; rfl
section
variable {prog : Program} {w : World} {A : Around} {E : Value → Shared → Prop} {s : Shared} {Q : Value → Shared → Prop} {t u : Tok} {l : List Nat} {i j : Int}
theorem r_in2 {c : Nat} {y : Str} (W : Nat → Bool) (hy : ∀ c, y.cps.toList.contains c = W c) (h : Q (.bool (W c)) s) : wpAny (model prog w) A (compareOp .In (.str (tx [c]) t) (.str y u)) Q E s := r_in (by rw [hy]; exact h)
theorem r_notin2 {c : Nat} {y : Str} (W : Nat → Bool) (hy : ∀ c, y.cps.toList.contains c = W c) (h : Q (.bool (!W c)) s) : wpAny (model prog w) A (compareOp .NotIn (.str (tx [c]) t) (.str y u)) Q E s := r_notin (by rw [hy]; exact h)
theorem one_eq (c d : Nat) : ([c] == [d]) = (c == d) := by
  cases h : c == d with
  | true => rw [beq_iff_eq] at h; subst h; simp
  | false => simp only [beq_eq_false_iff_ne, ne_eq, List.cons.injEq, and_true] at h ⊢; exact h
theorem r_eq1 {c d : Nat} {y : Str} (hy : y.cps.toList = [d]) (h : Q (.bool (c == d)) s) : wpAny (model prog w) A (compareOp .Eq (.str (tx [c]) t) (.str y u)) Q E s := r_eq (by rw [hy, one_eq]; exact h)
theorem r_ne1 {c d : Nat} {y : Str} (hy : y.cps.toList = [d]) (h : Q (.bool (c != d)) s) : wpAny (model prog w) A (compareOp .NotEq (.str (tx [c]) t) (.str y u)) Q E s := r_ne (by rw [hy]; show Q (.bool (!([c] == [d]))) s; rw [one_eq]; exact h)
end
section
variable {prog : Program} {w : World} {A : Around} {E : Value → Shared → Prop} {s : Shared} {Q : Value → Shared → Prop} {t u : Tok} {l : List Nat} {i j : Int}
theorem r_eqL {ys : List Nat} {y : Str} (hy : y.cps.toList = ys) (h : Q (.bool (l == ys)) s) : wpAny (model prog w) A (compareOp .Eq (.str (tx l) t) (.str y u)) Q E s := r_eq (by rw [hy]; exact h)
end
theorem r_min {h₀ : Heap} {L : Addr} {m : Str → Option Value} {news : List (Addr × Obj)} {prog : Program} {w : World} {A : Around} {E : Value → Shared → Prop} {s : Shared} {Q : Value → Shared → Prop} {t u : Tok} {i j : Int} (hij : i ≤ j) (hh : A.handled = none) (F : Fr h₀ L s.heap m) (N : News h₀ L s.heap news)
    (h : ∀ h' t' tk, Fr h₀ L h' m → News h₀ L h' news → Q (.int i t') { s with heap := h', toks := tk }) :
    wpAny (model prog w) A (call (.builtin "min") [.int i t, .int j u]) Q E s :=
  min_two_N hh F N fun h' tk F' N' => by rw [if_neg (by omega)]; exact h _ _ _ F' N'
section
variable {prog : Program} {w : World} {A : Around} {E : Value → Shared → Prop} {s : Shared} {Q : Value → Shared → Prop} {t u : Tok} {env : Env}
theorem r_eqT {c d : Nat} (h : Q (.bool (c == d)) s) : wpAny (model prog w) A (compareOp .Eq (.str (tx [c]) t) (.str (tx [d]) u)) Q E s := r_eq1 rfl h
theorem r_neT {c d : Nat} (h : Q (.bool (c != d)) s) : wpAny (model prog w) A (compareOp .NotEq (.str (tx [c]) t) (.str (tx [d]) u)) Q E s := r_ne1 rfl h
theorem r_const {x : Str} {l : List Nat} {k : Nat} {pos : Pos} (e : x = tx l) (h : Q (.str (tx l) s.toks) { s with toks := s.toks + 1 }) : wpAny (model prog w) A (eval (.Constant (.str x) k pos) env) Q E s := by
  rw [e]
  exact fun _ _ _ => h
theorem r_lenU {h₀ : Heap} {L : Addr} {news tl : List (Addr × Obj)} {D : Addr} {vs : List Value} {us : List U} {n : Nat} (N : News h₀ L s.heap news) (hm : (D, listOf vs.toArray n) ∈ news) (V : UnitsIn tl vs us) (h2 : us.length ≤ 10000)
    (h : ∀ t' k', Q (.int (us.length : Int) t') { s with toks := k' }) : wpAny (model prog w) A (call (.builtin "len") [.ref D]) Q E s := by
  have e : vs.toArray.size = us.length := by rw [List.size_toArray, V.length]
  exact len_list (News.isList N hm) (by rw [e]; omega) (by rw [e]; exact h _ _)
theorem r_unit {value slice : PySem.Expr} {h₀ : Heap} {L : Addr} {news tl : List (Addr × Obj)} {D : Addr} {vs : List Value} {us : List U} {n : Nat} {k : Int} (N : News h₀ L s.heap news) (hm : (D, listOf vs.toArray n) ∈ news) (V : UnitsIn tl vs us)
    (h0 : 0 ≤ k) (h1 : k < (us.length : Int)) (h2 : us.length ≤ 10000)
    (h : ∀ a t1 t2 n, (a, listOf [.str (tx [(us.getD k.toNat uD).1]) t1, .bool (us.getD k.toNat uD).2.1, .int ((us.getD k.toNat uD).2.2 : Nat) t2].toArray n) ∈ tl → Q (.ref a) s)
    (hs : subscripted slice false (.ref D) (.int k u) = operate [.ref D, .int k u] (getItem (.ref D) (.int k u)) := by with_unfolding_all rfl) :
    wpAny (model prog w) A (subscriptTail value slice (.ref D) (.int k u)) Q E s := by
  have hk : k.toNat < us.length := by omega
  obtain ⟨a, t1, t2, n', g1, g2⟩ := V.get hk
  have e : us[k.toNat] = us.getD k.toNat uD := by simp [hk]
  rw [e] at g2
  exact item_litK (News.isList N hm) h0 (by omega) g1 (h a t1 t2 n' g2) hs
end
theorem rn_is {l : List Nat} {p : Nat} (h : p < l.length) : ((l.take (p + 2)).drop p = [13, 10]) ↔ (l.getD p 0 = 13 ∧ p + 1 < l.length ∧ l.getD (p + 1) 0 = 10) := by
  have e : (l.take (p + 2)).drop p = (l.drop p).take 2 := by rw [List.drop_take]; congr 1; omega
  rw [e, drop_cons h]
  by_cases h2 : p + 1 < l.length
  · rw [drop_cons h2]
    simp only [List.take_succ_cons, List.take_zero, List.cons.injEq, and_true, h2, true_and]
  · rw [List.drop_eq_nil_of_le (by omega)]
    simp [h2]
end Mine
end
noncomputable section
open Lean PySem PySem.W PySem.Spec PySem.Calls PyProof.Rows
set_option maxRecDepth 100000
namespace Mine
theorem fill_F1 : 0 = 0 ∧ 0 = 0 := by
  try walk1
  w_top off
  all_goals first | rfl | exact ⟨rfl, rfl⟩
local macro_rules | `(tactic| walk_at "noloop") => `(tactic| first
  | ((fail_if_success (fail_if_success (with_reducible show wpAny _ _ (execs _ _) _ _ _))); fail_if_success ((with_reducible refine st_execs ?_ ?_); (focus rfl)))
  | ((fail_if_success (fail_if_success (with_reducible show wpAny _ _ (exec _ _) _ _ _))); fail_if_success ((with_reducible refine st_exec ?_ ?_); (focus rfl)))
  | ((fail_if_success (with_reducible show wpAny _ _ (execs _ _) _ _ _)); (fail_if_success (with_reducible show wpAny _ _ (exec _ _) _ _ _)); (fail_if_success (with_reducible show wpAny _ _ (eval (Expr.ListComp _ _ _ _) _) _ _ _)); (fail_if_success (with_reducible show wpAny _ _ (pyIter _) _ _ _)); (fail_if_success (with_reducible show wpAny _ _ (truthy (Value.str (tx _) _)) _ _ _))))
local macro_rules | `(tactic| walk_at "go") => `(tactic| repeat' (first
  | (k_unfold; (try dsimp only))
  | (walk_at "noloop"; walk1)
  | (dsimp only; walk_at "noloop"; walk1)))
local macro_rules | `(tactic| walk_at "look") => `(tactic| ((try dsimp only); repeat' (first | exact List.forall_mem_nil _ | (refine List.forall_mem_cons.mpr ⟨by with_unfolding_all rfl, ?_⟩))))
local macro_rules | `(tactic| walk_at "ix") => `(tactic| first | omega | (simp only [List.length_take, List.length_drop] at *; omega))
local macro_rules | `(tactic| walk_at "subscriptTail Name Name str int") => `(tactic| ((with_reducible show wpAny _ _ (subscriptTail _ _ (Value.str (tx _) _) (Value.int _ _)) _ _ _); refine r_item (by walk_at "ix") (by walk_at "ix") (by walk_at "ix") ?_))
local macro_rules | `(tactic| walk_at "subscriptTail Name BinOp str int") => `(tactic| ((with_reducible show wpAny _ _ (subscriptTail _ _ (Value.str (tx _) _) (Value.int _ _)) _ _ _); refine r_item (by walk_at "ix") (by walk_at "ix") (by walk_at "ix") ?_))
local macro_rules | `(tactic| walk_at "compareOp In str str") => `(tactic| ((with_reducible show wpAny _ _ (compareOp _ (Value.str (tx _) _) (Value.str _ _)) _ _ _); refine r_in ?_))
local macro_rules | `(tactic| walk_at "compareOp NotIn str str") => `(tactic| ((with_reducible show wpAny _ _ (compareOp _ (Value.str (tx _) _) (Value.str _ _)) _ _ _); refine r_notin ?_))
local macro_rules | `(tactic| walk_at "compareOp Eq str str") => `(tactic| ((with_reducible show wpAny _ _ (compareOp _ (Value.str (tx _) _) (Value.str _ _)) _ _ _); refine r_eq ?_))
local macro_rules | `(tactic| walk_at "compareOp NotEq str str") => `(tactic| ((with_reducible show wpAny _ _ (compareOp _ (Value.str (tx _) _) (Value.str _ _)) _ _ _); refine r_ne ?_))
local macro_rules | `(tactic| walk_at "call builtin:ord") => `(tactic| ((with_reducible show wpAny _ _ (call _ [Value.str (tx _) _]) _ _ _); refine r_ord ?_))
local macro_rules | `(tactic| walk_at "call builtin:len") => `(tactic| ((with_reducible show wpAny _ _ (call _ [Value.str (tx _) _]) _ _ _); refine r_len (by walk_at "ix") ?_))
local macro_rules | `(tactic| walk_at "compareOp In str str") => `(tactic| ((with_reducible show wpAny _ _ (compareOp _ (Value.str (tx _) _) (Value.str _ _)) _ _ _); first | refine r_in2 isWs H_ws ?_ | refine r_in2 isBl H_bl ?_ | refine r_in2 isNl H_nl ?_ | refine r_in2 isBad H_bad ?_ | refine r_in2 isPu H_pu ?_))
local macro_rules | `(tactic| walk_at "compareOp NotIn str str") => `(tactic| ((with_reducible show wpAny _ _ (compareOp _ (Value.str (tx _) _) (Value.str _ _)) _ _ _); first | refine r_notin2 isWs H_ws ?_ | refine r_notin2 isPu H_pu ?_))
local macro_rules | `(tactic| walk_at "compareOp Eq str str") => `(tactic| ((with_reducible show wpAny _ _ (compareOp _ (Value.str (tx _) _) (Value.str _ _)) _ _ _); first | refine r_eq1 L_lt ?_ | refine r_eq1 L_gt ?_ | refine r_eq1 L_bs ?_ | refine r_eq1 L_lp ?_ | refine r_eq1 L_rp ?_ | refine r_eq1 L_del ?_ | refine r_eq1 L_nul ?_ | refine r_eq1 L_n ?_ | refine r_eq1 L_r ?_))
local macro_rules | `(tactic| walk_at "compareOp NotEq str str") => `(tactic| ((with_reducible show wpAny _ _ (compareOp _ (Value.str (tx _) _) (Value.str _ _)) _ _ _); first | refine r_ne1 L_rp ?_))
local macro_rules | `(tactic| walk_at "subscriptTail Name Slice str ref") => `(tactic| ((with_reducible show wpAny _ _ (subscriptTail _ (Expr.Slice (some _) (some _) none _) (Value.str (tx _) _) _) _ _ _); (with_reducible rename Fr _ _ _ _ => F'); (with_reducible rename News _ _ _ _ => N'); (refine r_slice (s := ⟨_, _, _, _, _⟩) (by walk_at "ix") (by walk_at "ix") (by walk_at "ix") F' N' ?_); intro _ _ _ _ _))
local macro_rules | `(tactic| walk_at "compareOp Eq str str") => `(tactic| ((with_reducible show wpAny _ _ (compareOp _ (Value.str (tx _) _) (Value.str _ _)) _ _ _); refine r_eqL L_rn ?_))
local macro_rules | `(tactic| walk_at "fact") => `(tactic| first | assumption | exact beq_iff_eq.mp (by assumption) | exact beq_eq_false_iff_ne.mp (by assumption) | omega)
local macro_rules | `(tactic| walk_at "noesc") => `(tactic| (rintro ⟨e1, e2, e3⟩; first | exact absurd e1 (beq_eq_false_iff_ne.mp (by assumption)) | exact Bool.noConfusion (Eq.trans (Eq.symm (show isPu _ = false from by assumption)) e3) | exact absurd (Eq.trans (Eq.symm e1) (beq_iff_eq.mp (show (List.getD _ _ _ == _) = true from by assumption))) (by decide) | omega))
local macro_rules | `(tactic| walk_at "cx") => `(tactic| exact ⟨by k_asm, by k_asm, by k_asm, by k_asm, by k_asm, rfl, rfl, rfl, rfl, (by (show _ + _ < _); omega), (by (show _ + 8 * _ < _); omega)⟩)
local macro_rules | `(tactic| walk_at "call ref") => `(tactic| ((with_reducible show wpAny _ _ (call (Value.ref 137) _ _) _ _ _); refine c_begin _ _ _ _ (by walk_at "cx") (by omega) ?_; intro t9 h9 k9 F9 N9; (try dsimp only)))
local macro_rules | `(tactic| walk_at "call ref") => `(tactic| ((with_reducible show wpAny _ _ (call (Value.ref 144) _ _) _ _ _); refine c_angle _ _ _ _ (by walk_at "cx") (by omega) (by omega) ?_ ?_; (all_goals intros); (all_goals (try dsimp only))))
local macro_rules | `(tactic| walk_at "call builtin:min") => `(tactic| ((with_reducible show wpAny _ _ (call (Value.builtin _) [Value.int _ _, Value.int _ _]) _ _ _); refine r_min (by omega) rfl (by assumption) (by assumption) ?_; intro h9 t9 k9 F9 N9))
local macro_rules | `(tactic| walk_at "retx") => `(tactic| (dsimp only; refine hret' _ _ _ _ _ _ (by assumption) (by assumption) fun F2 N2 => ?_))
local macro_rules | `(tactic| walk_at "upd") => `(tactic| first | exact Upd.head (by assumption) | (refine' Upd.tail ?a ?b; (case a => k_ne); (case b => walk_at "upd")))
local macro_rules | `(tactic| walk_at "sz") => `(tactic| ((try simp only [List.size_toArray, PySem.sizeLine_eq]); omega))
local macro_rules | `(tactic| walk_at "call builtin:list.append") => `(tactic| (k_here; (with_reducible show wpAny _ _ (call (Value.builtin _) [Value.ref _, _]) _ _ _); (refine' append_K ?k1 ?k2 ?k3 ?_ ?z; (case k1 => k_asm); (case k2 => k_asm); (case k3 => walk_at "upd"); (case z => walk_at "sz"); k_whole); intro h' F' N'; (try simp only [List.push_toArray] at N'); (try k_sweep)))
local macro_rules | `(tactic| walk_at "call ref") => `(tactic| ((with_reducible show wpAny _ _ (call (Value.ref 192) _ _) _ _ _); refine c_lbegin _ _ _ _ (by walk_at "cx") (by omega) ?_; intro t9 h9 k9 F9 N9; (try dsimp only)))
local macro_rules | `(tactic| walk_at "call ref") => `(tactic| ((with_reducible show wpAny _ _ (call (Value.ref 166) _ _) _ _ _); refine c_units _ _ _ _ _ _ (by walk_at "cx") (by walk_at "ix") (by walk_at "ix") ?_; intro a9 n9 vs9 tl9 h9 k9 U9 F9 N9 d9; (try dsimp only)))
local macro_rules | `(tactic| walk_at "subscriptTail Name Constant ref int") => `(tactic| ((with_reducible show wpAny _ _ (subscriptTail _ _ (Value.ref _) (Value.int _ _)) _ _ _); (with_unfolding_all refine' item_litK ?k1 ?k2 ?k3 ?k4 ?_ ?k6; (case k1 => exact News.isList (by k_asm) (by first | k_mem | walk_at "mem")); (case k2 => decide); (case k3 => decide); (case k4 => rfl); (case k6 => with_unfolding_all rfl); k_whole)))
local macro_rules | `(tactic| walk_at "offx") => `(tactic| (intro _; repeat' (first | exact List.forall_mem_nil _ | (refine List.forall_mem_cons.mpr ⟨by (show Str.ofString _ ≠ Str.ofString _); decide, ?_⟩))))
local macro_rules | `(tactic| walk_at "sub") => `(tactic| (intro q hq; (try simp only [List.cons_append, List.append_assoc, List.mem_cons, List.mem_append, List.not_mem_nil, or_false, or_assoc] at hq ⊢); (repeat' (first | exact hq | (refine Or.elim hq (fun hq => ?_) (fun hq => ?_)) | exact Or.inl hq | (refine Or.inr ?_)))))
local macro_rules | `(tactic| walk_at "mem") => `(tactic| first | assumption | exact List.mem_cons_self | (refine List.mem_cons_of_mem _ ?_; walk_at "mem") | (refine List.mem_append_left _ ?_; walk_at "mem") | (refine List.mem_append_right _ ?_; walk_at "mem"))
local macro_rules | `(tactic| walk_at "subscriptTail Name Name ref int") => `(tactic| ((with_reducible show wpAny _ _ (subscriptTail _ _ (Value.ref _) (Value.int _ _)) _ _ _); (with_unfolding_all refine' r_unit ?k1 ?k2 ?k3 ?k4 ?k5 ?k6 ?_ ?k7; (case k1 => k_asm); (case k2 => walk_at "mem"); (case k3 => assumption); (case k4 => omega); (case k5 => omega); (case k6 => omega); (case k7 => with_unfolding_all rfl)); intro a8 t8 t7 n8 m8))
local macro_rules | `(tactic| walk_at "subscriptTail Subscript") => `(tactic| with_reducible refine r_turn ?_)
local macro_rules | `(tactic| walk_at "compareOp Eq str str") => `(tactic| ((with_reducible show wpAny _ _ (compareOp _ (Value.str (tx _) _) (Value.str (tx _) _)) _ _ _); refine r_eqT ?_))
local macro_rules | `(tactic| walk_at "compareOp NotEq str str") => `(tactic| ((with_reducible show wpAny _ _ (compareOp _ (Value.str (tx _) _) (Value.str (tx _) _)) _ _ _); refine r_neT ?_))
local macro_rules | `(tactic| walk_at "compareOp NotIn str str") => `(tactic| ((with_reducible show wpAny _ _ (compareOp _ (Value.str (tx _) _) (Value.str _ _)) _ _ _); refine r_notin2 isOp H_open ?_))
local macro_rules | `(tactic| walk_at "eval Constant str") => `(tactic| with_reducible (first | refine r_const E_rp ?_ | refine r_const E_nil ?_))
local macro_rules | `(tactic| walk_at "binaryOp Add str str") => `(tactic| ((with_reducible show wpAny _ _ (binaryOp _ (Value.str (tx _) _) (Value.str (tx _) _)) _ _ _); refine r_cat (by first | omega | (simp only [List.length_append, List.length_cons, List.length_nil]; omega)) ?_; intro t9 k9))
local macro_rules | `(tactic| walk_at "call builtin:len") => `(tactic| ((with_reducible show wpAny _ _ (call (Value.builtin "len") [Value.ref _]) _ _ _); refine r_lenU (by k_asm) (by walk_at "mem") (by assumption) (by omega) ?_; intro t9 k9))
local macro_rules | `(tactic| walk_at "eval Name") => `(tactic| first
  | ((with_reducible refine' ld ?k1 ?k2 ?_ ?k3 ?k4 ?k5); (case k4 => kernel_rfl!); (case k1 => k_asm); (case k2 => k_dflt (exact rfl)); (case k3 => k_dflt (exact rfl)); (case k5 => decide); k_whole)
  | ((with_reducible refine' name_K ?k0 ?k1 ?k2 ?k3 ?_ ?k4 ?k5 ?k6); (case k5 => kernel_rfl!); (case k0 => k_asm); (case k1 => k_asm); (case k2 => k_asm); (case k3 => k_dflt k_is); (case k4 => k_dflt (exact rfl)); (case k6 => decide); k_whole))
local macro_rules | `(tactic| walk_at "ite") => `(tactic| first | with_reducible refine ite_tt ?_ | with_reducible refine ite_ff ?_ | with_reducible refine ite_True_then ?_ | with_reducible refine ite_False_else ?_ | (k_openite; first | refine ite_pos (by with_reducible assumption) ?_ | refine ite_neg (by with_reducible assumption) ?_ | refine ite_isFalse (by with_reducible assumption) ?_ | (with_reducible refine split_ine ?_ ?_ <;> intro _) | (with_reducible refine split_ieq ?_ ?_ <;> intro _) | with_reducible refine split_not ?_ | (refine split_dec ?_ ?_ <;> intro _) | (refine split_bool ?_ ?_ <;> intro _)))
local macro_rules | `(tactic| walk_at "callWith ref") => `(tactic| first
  | ((with_reducible refine' callWith_K ?k1 ?k2 ?_ ?k3 ?k4); (case k1 => k_asm); (case k2 => k_dflt k_is); (case k3 => k_dflt (exact rfl)); (case k4 => k_dflt (exact rfl)); k_whole)
  | ((with_reducible refine' callWith_K0 ?k1 ?k2 ?_); (case k1 => k_dflt k_in); (case k2 => k_dflt k_is); k_whole)
  | ((with_reducible refine' callWith_KW ?k1 ?k2 ?k3 ?_ ?k4 ?k5); (case k1 => k_asm); (case k2 => k_dflt k_is); (case k3 => k_dflt (exact rfl)); (case k4 => k_dflt (exact rfl)); (case k5 => k_dflt (exact rfl)); k_whole))
set_option maxHeartbeats 4000000 in
theorem c_skip {w : World} {loose : List Str} {mean : ExcName → Option Value} {mg mb : Str → Option Value} {k dp un : Nat} {gd : Option (List Code)}
    {A₀ : Around} {env : Env} {outer : List Env} {base h₀ : Heap} {L : Addr} {m : Str → Option Value} {news : List (Addr × Obj)} {s : Shared}
    {E Q : Value → Shared → Prop} (l : List Nat) (pos mx : Nat) (t1 t2 t3 : Tok)
    (C : Cx w loose mean mg mb (k + 1) ⟨none, dp, some (env :: outer), gd, un⟩ A₀ env outer base h₀ L m news s)
    (hmx : mx ≤ l.length) (hl : l.length ≤ 1000)
    (hret : ∀ t h' tk', Fr h₀ L h' m → News h₀ L h' news → Q (.int (skip isWs ((l.take mx).drop pos) pos : Nat) t) { s with heap := h', toks := tk' }) :
    wpAny (model PySem.Challenge.pw_br5019_01 w) ⟨none, dp, some (env :: outer), gd, un⟩ (call (.ref 130) [.str (tx l) t1, .int pos t2, .int mx t3]) Q E s := by
  refine enter [(Str.ofString "src", .str (tx l) t1), (Str.ofString "pos", .int pos t2), (Str.ofString "max_pos", .int mx t3)] C (by k_is) (by k_is) (binds_K (C.X.keeps C.F.keep) rfl (by k_is) rfl rfl rfl) rfl rfl rfl (by decide) (locs rfl) ?_
  intro g L' h' tk Q' F' N' B' X' T' hd hu hret'
  walk_at "go"
  refine wh (σ := Nat × Tok × Tok) (τ := Nat × Tok × Tok) (fun _ => news) (fun c => [(Str.ofString "src", .str (tx l) t1), (Str.ofString "max_pos", .int mx t3), (Str.ofString "pos", .int c.1 c.2.1)])
    (fun c => skip isWs ((l.take mx).drop c.1) c.1 = skip isWs ((l.take mx).drop (pos)) (pos)) (fun c => (l.take mx).length - c.1) (pos, _, 0)
    (fun _ => news) (fun c => [(Str.ofString "src", .str (tx l) t1), (Str.ofString "max_pos", .int mx t3), (Str.ofString "pos", .int c.1 c.2.1)]) (fun c => c.1 = skip isWs ((l.take mx).drop (pos)) (pos))
    (by assumption) (by assumption) (fun _ h => h) (by walk_at "look") (by rfl) ?_ ?_
  · intro c u h tk Q' D hp F N hnext hbrk hr
    dsimp only at hnext hbrk ⊢
    walk_at "go"
    · refine' (hnext (c.1 + 1, _, c.2.2) _ _ _ _ (by assumption) (by assumption) (fun _ h => h) ?gL1 ?gP1 ?gM1).1
      case gL1 => walk_at "look"
      all_goals rename_i h1 h2 _ _ _
      · rw [← hp]; exact skip_t (by walk_at "ix") (by first | exact h2 | (rw [take_get (by omega)]; exact h2))
      · dsimp only; walk_at "ix"
    · refine (hbrk (c.1, c.2.1, c.2.2) _ _ _ _ (by assumption) (by assumption) (fun _ h => h) (by walk_at "look") ?_).2
      rename_i h1 h2
      rw [← hp]; exact skip_f (by walk_at "ix") (by first | exact h2 | (rw [take_get (by omega)]; exact h2))
    · refine (hbrk (c.1, c.2.1, c.2.2) _ _ _ _ (by assumption) (by assumption) (fun _ h => h) (by walk_at "look") ?_).2
      rename_i h1
      rw [← hp]; exact skip_e (by walk_at "ix")
  · intro c u h tk hx F N
    dsimp only
    walk_at "go"
    dsimp only
    refine hret' _ _ _ _ _ _ F N fun F2 N2 => ?_
    rw [hx]
    exact hret _ _ _ F2 N2
set_option maxHeartbeats 4000000 in
theorem c_skip2 {w : World} {loose : List Str} {mean : ExcName → Option Value} {mg mb : Str → Option Value} {k dp un : Nat} {gd : Option (List Code)}
    {A₀ : Around} {env : Env} {outer : List Env} {base h₀ : Heap} {L : Addr} {m : Str → Option Value} {news : List (Addr × Obj)} {s : Shared}
    {E Q : Value → Shared → Prop} (l : List Nat) (pos : Nat) (t1 t2 : Tok)
    (C : Cx w loose mean mg mb (k + 1) ⟨none, dp, some (env :: outer), gd, un⟩ A₀ env outer base h₀ L m news s)
    (hl : l.length ≤ 1000)
    (hret : ∀ t h' tk', Fr h₀ L h' m → News h₀ L h' news → Q (.int (skip isWs (l.drop pos) pos : Nat) t) { s with heap := h', toks := tk' }) :
    wpAny (model PySem.Challenge.pw_br5019_01 w) ⟨none, dp, some (env :: outer), gd, un⟩ (call (.ref 130) [.str (tx l) t1, .int pos t2]) Q E s := by
  refine enter [(Str.ofString "src", .str (tx l) t1), (Str.ofString "pos", .int pos t2), (Str.ofString "max_pos", .none)] C (by k_is) (by k_is) (binds_K (C.X.keeps C.F.keep) rfl (by k_is) rfl rfl rfl) rfl rfl rfl (by decide) (locs rfl) ?_
  intro g L' h' tk Q' F' N' B' X' T' hd hu hret'
  walk_at "go"
  refine wh (σ := Nat × Tok × Tok) (τ := Nat × Tok × Tok) (fun _ => news) (fun c => [(Str.ofString "src", .str (tx l) t1), (Str.ofString "max_pos", .int l.length c.2.2), (Str.ofString "pos", .int c.1 c.2.1)])
    (fun c => skip isWs ((l).drop c.1) c.1 = skip isWs ((l).drop (pos)) (pos)) (fun c => (l).length - c.1) (pos, _, _)
    (fun _ => news) (fun c => [(Str.ofString "src", .str (tx l) t1), (Str.ofString "max_pos", .int l.length c.2.2), (Str.ofString "pos", .int c.1 c.2.1)]) (fun c => c.1 = skip isWs ((l).drop (pos)) (pos))
    (by assumption) (by assumption) (fun _ h => h) (by walk_at "look") (by rfl) ?_ ?_
  · intro c u h tk Q' D hp F N hnext hbrk hr
    dsimp only at hnext hbrk ⊢
    walk_at "go"
    · refine' (hnext (c.1 + 1, _, c.2.2) _ _ _ _ (by assumption) (by assumption) (fun _ h => h) ?gL2 ?gP2 ?gM2).1
      case gL2 => walk_at "look"
      all_goals rename_i h1 h2 _ _ _
      · rw [← hp]; exact skip_t (by walk_at "ix") (by first | exact h2 | (rw [take_get (by omega)]; exact h2))
      · dsimp only; walk_at "ix"
    · refine (hbrk (c.1, c.2.1, c.2.2) _ _ _ _ (by assumption) (by assumption) (fun _ h => h) (by walk_at "look") ?_).2
      rename_i h1 h2
      rw [← hp]; exact skip_f (by walk_at "ix") (by first | exact h2 | (rw [take_get (by omega)]; exact h2))
    · refine (hbrk (c.1, c.2.1, c.2.2) _ _ _ _ (by assumption) (by assumption) (fun _ h => h) (by walk_at "look") ?_).2
      rename_i h1
      rw [← hp]; exact skip_e (by walk_at "ix")
  · intro c u h tk hx F N
    dsimp only
    walk_at "go"
    dsimp only
    refine hret' _ _ _ _ _ _ F N fun F2 N2 => ?_
    rw [hx]
    exact hret _ _ _ F2 N2
set_option maxHeartbeats 4000000 in
theorem c_begin {w : World} {loose : List Str} {mean : ExcName → Option Value} {mg mb : Str → Option Value} {k dp un : Nat} {gd : Option (List Code)}
    {A₀ : Around} {env : Env} {outer : List Env} {base h₀ : Heap} {L : Addr} {m : Str → Option Value} {news : List (Addr × Obj)} {s : Shared}
    {E Q : Value → Shared → Prop} (l : List Nat) (pos : Nat) (t1 t2 : Tok)
    (C : Cx w loose mean mg mb (k + 1) ⟨none, dp, some (env :: outer), gd, un⟩ A₀ env outer base h₀ L m news s)
    (hl : l.length ≤ 1000)
    (hret : ∀ t h' tk', Fr h₀ L h' m → News h₀ L h' news → Q (.int (beginW l pos : Nat) t) { s with heap := h', toks := tk' }) :
    wpAny (model PySem.Challenge.pw_br5019_01 w) ⟨none, dp, some (env :: outer), gd, un⟩ (call (.ref 137) [.str (tx l) t1, .int pos t2]) Q E s := by
  refine enter [(Str.ofString "src", .str (tx l) t1), (Str.ofString "pos", .int pos t2)] C (by k_is) (by k_is) (BindsTo.of_eq rfl) rfl rfl rfl (by decide) (locs rfl) ?_
  intro g L' h' tk Q' F' N' B' X' T' hd hu hret'
  walk_at "go"
  refine wh (σ := Nat × Tok × Tok) (τ := Nat × Tok × Tok) (fun _ => news) (fun c => [(Str.ofString "src", .str (tx l) t1), (Str.ofString "pos", .int c.1 c.2.1)])
    (fun c => skip isBl ((l).drop c.1) c.1 = skip isBl ((l).drop (pos)) (pos)) (fun c => (l).length - c.1) (pos, _, 0)
    (fun _ => news) (fun c => [(Str.ofString "src", .str (tx l) t1), (Str.ofString "pos", .int c.1 c.2.1)]) (fun c => c.1 = skip isBl ((l).drop (pos)) (pos))
    (by assumption) (by assumption) (fun _ h => h) (by walk_at "look") (by rfl) ?_ ?_
  · intro c u h tk Q' D hp F N hnext hbrk hr
    dsimp only at hnext hbrk ⊢
    walk_at "go"
    · refine' (hnext (c.1 + 1, _, c.2.2) _ _ _ _ (by assumption) (by assumption) (fun _ h => h) ?gL3 ?gP3 ?gM3).1
      case gL3 => walk_at "look"
      all_goals rename_i h1 h2 _ _ _
      · rw [← hp]; exact skip_t (by walk_at "ix") (by first | exact h2 | (rw [take_get (by omega)]; exact h2))
      · dsimp only; walk_at "ix"
    · refine (hbrk (c.1, c.2.1, c.2.2) _ _ _ _ (by assumption) (by assumption) (fun _ h => h) (by walk_at "look") ?_).2
      rename_i h1 h2
      rw [← hp]; exact skip_f (by walk_at "ix") (by first | exact h2 | (rw [take_get (by omega)]; exact h2))
    · refine (hbrk (c.1, c.2.1, c.2.2) _ _ _ _ (by assumption) (by assumption) (fun _ h => h) (by walk_at "look") ?_).2
      rename_i h1
      rw [← hp]; exact skip_e (by walk_at "ix")
  · rintro ⟨p, tk1, _⟩ u h tk hx F N
    dsimp only at hx F N ⊢
    walk_at "go"
    · rename_i h1 h2
      (try dsimp only)
      with_reducible (refine cut (h₀ := g) (L := L') (τ := Nat × Tok) (fun _ => news) (fun c => [(Str.ofString "src", .str (tx l) t1), (Str.ofString "pos", .int c.1 c.2)]) (fun c => c.1 = if l.getD p 0 = 13 ∧ p + 1 < l.length ∧ l.getD (p + 1) 0 = 10 then p + 2 else p + 1) ?_ ?_)
      · intro D hD
        dsimp only at hD ⊢
        walk_at "go"
        · refine' hD (p + 2, _) _ _ _ _ (by assumption) (by assumption) (fun _ h => h) ?gL4 ?gP4
          case gL4 => walk_at "look"
          case gP4 => rename_i h3 h4 h5 _ _ _; rw [beq_iff_eq] at h3 h5; rw [if_pos ⟨h3, by omega, h5⟩]
        · refine' hD (p + 1, _) _ _ _ _ (by assumption) (by assumption) (fun _ h => h) ?gL5 ?gP5
          case gL5 => walk_at "look"
          case gP5 => rename_i h3 h4 h5 _ _ _; rw [if_neg]; rintro ⟨a, b, c⟩; rw [beq_eq_false_iff_ne] at h5; exact h5 c
        · refine' hD (p + 1, _) _ _ _ _ (by assumption) (by assumption) (fun _ h => h) ?gL6 ?gP6
          case gL6 => walk_at "look"
          case gP6 => rename_i h3 h4 _ _ _; rw [if_neg]; rintro ⟨a, b, c⟩; omega
        · refine' hD (p + 1, _) _ _ _ _ (by assumption) (by assumption) (fun _ h => h) ?gL7 ?gP7
          case gL7 => walk_at "look"
          case gP7 => rename_i h3 _ _ _; rw [if_neg]; rintro ⟨a, b, c⟩; rw [beq_eq_false_iff_ne] at h3; exact h3 a

      · rintro ⟨p2, tk2⟩ u h tk hy F N
        dsimp only at hy F N ⊢
        walk_at "go"
        refine wh (σ := Nat × Tok × Tok) (τ := Nat × Tok × Tok) (fun _ => news) (fun c => [(Str.ofString "src", .str (tx l) t1), (Str.ofString "pos", .int c.1 c.2.1)])
          (fun c => skip isBl ((l).drop c.1) c.1 = skip isBl ((l).drop (p2)) (p2)) (fun c => (l).length - c.1) (p2, _, 0)
          (fun _ => news) (fun c => [(Str.ofString "src", .str (tx l) t1), (Str.ofString "pos", .int c.1 c.2.1)]) (fun c => c.1 = skip isBl ((l).drop (p2)) (p2))
          (by assumption) (by assumption) (fun _ h => h) (by walk_at "look") (by rfl) ?_ ?_
        · intro c u h tk Q' D hp F N hnext hbrk hr
          dsimp only at hnext hbrk ⊢
          walk_at "go"
          · refine' (hnext (c.1 + 1, _, c.2.2) _ _ _ _ (by assumption) (by assumption) (fun _ h => h) ?gL8 ?gP8 ?gM8).1
            case gL8 => walk_at "look"
            all_goals rename_i h1 h2 _ _ _
            · rw [← hp]; exact skip_t (by walk_at "ix") (by first | exact h2 | (rw [take_get (by omega)]; exact h2))
            · dsimp only; walk_at "ix"
          · refine (hbrk (c.1, c.2.1, c.2.2) _ _ _ _ (by assumption) (by assumption) (fun _ h => h) (by walk_at "look") ?_).2
            rename_i h1 h2
            rw [← hp]; exact skip_f (by walk_at "ix") (by first | exact h2 | (rw [take_get (by omega)]; exact h2))
          · refine (hbrk (c.1, c.2.1, c.2.2) _ _ _ _ (by assumption) (by assumption) (fun _ h => h) (by walk_at "look") ?_).2
            rename_i h1
            rw [← hp]; exact skip_e (by walk_at "ix")
        · intro c u h tk hz F N
          dsimp only
          walk_at "go"
          dsimp only
          refine hret' _ _ _ _ _ _ F N fun F2 N2 => ?_
          have e : c.1 = beginW l pos := by
            unfold beginW
            dsimp only
            rw [← hx, if_pos ⟨by omega, by exact h2⟩, ← hy]
            exact hz
          rw [e]
          exact hret _ _ _ F2 N2
    all_goals (
      dsimp only
      have F9 := F
      refine hret' _ _ _ _ _ _ F N fun F2 N2 => ?_
      have e : p = beginW l pos := by
        unfold beginW
        dsimp only
        rw [← hx, if_neg]
        rintro ⟨a, b⟩
        first | omega | (rename_i h2; rw [show (↑p : Int).toNat = p from rfl] at h2; rw [h2] at b; exact Bool.noConfusion b)
      rw [e]
      exact hret _ _ _ F2 N2)
set_option maxHeartbeats 4000000 in
theorem c_lbegin {w : World} {loose : List Str} {mean : ExcName → Option Value} {mg mb : Str → Option Value} {k dp un : Nat} {gd : Option (List Code)}
    {A₀ : Around} {env : Env} {outer : List Env} {base h₀ : Heap} {L : Addr} {m : Str → Option Value} {news : List (Addr × Obj)} {s : Shared}
    {E Q : Value → Shared → Prop} (l : List Nat) (pos : Nat) (t1 t2 : Tok)
    (C : Cx w loose mean mg mb (k + 1) ⟨none, dp, some (env :: outer), gd, un⟩ A₀ env outer base h₀ L m news s)
    (hl : l.length ≤ 1000)
    (hret : ∀ t h' tk', Fr h₀ L h' m → News h₀ L h' news → Q (.int (beginW l pos : Nat) t) { s with heap := h', toks := tk' }) :
    wpAny (model PySem.Challenge.pw_br5019_01 w) ⟨none, dp, some (env :: outer), gd, un⟩ (call (.ref 192) [.str (tx l) t1, .int pos t2]) Q E s := by
  refine enter [(Str.ofString "text", .str (tx l) t1), (Str.ofString "k", .int pos t2)] C (by k_is) (by k_is) (BindsTo.of_eq rfl) rfl rfl rfl (by decide) (locs rfl) ?_
  intro g L' h' tk Q' F' N' B' X' T' hd hu hret'
  walk_at "go"
  refine wh (σ := Nat × Tok × Tok) (τ := Nat × Tok × Tok) (fun _ => news) (fun c => [(Str.ofString "text", .str (tx l) t1), (Str.ofString "k", .int c.1 c.2.1)])
    (fun c => skip isBl ((l).drop c.1) c.1 = skip isBl ((l).drop (pos)) (pos)) (fun c => (l).length - c.1) (pos, _, 0)
    (fun _ => news) (fun c => [(Str.ofString "text", .str (tx l) t1), (Str.ofString "k", .int c.1 c.2.1)]) (fun c => c.1 = skip isBl ((l).drop (pos)) (pos))
    (by assumption) (by assumption) (fun _ h => h) (by walk_at "look") (by rfl) ?_ ?_
  · intro c u h tk Q' D hp F N hnext hbrk hr
    dsimp only at hnext hbrk ⊢
    walk_at "go"
    · refine' (hnext (c.1 + 1, _, c.2.2) _ _ _ _ (by assumption) (by assumption) (fun _ h => h) ?gL9 ?gP9 ?gM9).1
      case gL9 => walk_at "look"
      all_goals rename_i h1 h2 _ _ _
      · rw [← hp]; exact skip_t (by walk_at "ix") (by first | exact h2 | (rw [take_get (by omega)]; exact h2))
      · dsimp only; walk_at "ix"
    · refine (hbrk (c.1, c.2.1, c.2.2) _ _ _ _ (by assumption) (by assumption) (fun _ h => h) (by walk_at "look") ?_).2
      rename_i h1 h2
      rw [← hp]; exact skip_f (by walk_at "ix") (by first | exact h2 | (rw [take_get (by omega)]; exact h2))
    · refine (hbrk (c.1, c.2.1, c.2.2) _ _ _ _ (by assumption) (by assumption) (fun _ h => h) (by walk_at "look") ?_).2
      rename_i h1
      rw [← hp]; exact skip_e (by walk_at "ix")
  · rintro ⟨p, tk1, _⟩ u h tk hx F N
    dsimp only at hx F N ⊢
    walk_at "go"
    · rename_i h1 h2
      (try dsimp only)
      with_reducible (refine cut (h₀ := g) (L := L') (τ := Nat × Tok) (fun _ => news) (fun c => [(Str.ofString "text", .str (tx l) t1), (Str.ofString "k", .int c.1 c.2)]) (fun c => c.1 = if l.getD p 0 = 13 ∧ p + 1 < l.length ∧ l.getD (p + 1) 0 = 10 then p + 2 else p + 1) ?_ ?_)
      · intro D hD
        dsimp only at hD ⊢
        walk_at "go"
        · refine' hD (p + 2, _) _ _ _ _ (by assumption) (by assumption) (fun _ h => h) ?gL10 ?gP10
          case gL10 => walk_at "look"
          case gP10 => rename_i h3 _ _ _; rw [beq_iff_eq] at h3; rw [if_pos ((rn_is (l := l) (p := p) (by omega)).mp (by exact h3))]
        · refine' hD (p + 1, _) _ _ _ _ (by assumption) (by assumption) (fun _ h => h) ?gL11 ?gP11
          case gL11 => walk_at "look"
          case gP11 => rename_i h3 _ _ _; rw [beq_eq_false_iff_ne] at h3; rw [if_neg (fun e => h3 ((rn_is (l := l) (p := p) (by omega)).mpr e))]

      · rintro ⟨p2, tk2⟩ u h tk hy F N
        dsimp only at hy F N ⊢
        walk_at "go"
        refine wh (σ := Nat × Tok × Tok) (τ := Nat × Tok × Tok) (fun _ => news) (fun c => [(Str.ofString "text", .str (tx l) t1), (Str.ofString "k", .int c.1 c.2.1)])
          (fun c => skip isBl ((l).drop c.1) c.1 = skip isBl ((l).drop (p2)) (p2)) (fun c => (l).length - c.1) (p2, _, 0)
          (fun _ => news) (fun c => [(Str.ofString "text", .str (tx l) t1), (Str.ofString "k", .int c.1 c.2.1)]) (fun c => c.1 = skip isBl ((l).drop (p2)) (p2))
          (by assumption) (by assumption) (fun _ h => h) (by walk_at "look") (by rfl) ?_ ?_
        · intro c u h tk Q' D hp F N hnext hbrk hr
          dsimp only at hnext hbrk ⊢
          walk_at "go"
          · refine' (hnext (c.1 + 1, _, c.2.2) _ _ _ _ (by assumption) (by assumption) (fun _ h => h) ?gL12 ?gP12 ?gM12).1
            case gL12 => walk_at "look"
            all_goals rename_i h1 h2 _ _ _
            · rw [← hp]; exact skip_t (by walk_at "ix") (by first | exact h2 | (rw [take_get (by omega)]; exact h2))
            · dsimp only; walk_at "ix"
          · refine (hbrk (c.1, c.2.1, c.2.2) _ _ _ _ (by assumption) (by assumption) (fun _ h => h) (by walk_at "look") ?_).2
            rename_i h1 h2
            rw [← hp]; exact skip_f (by walk_at "ix") (by first | exact h2 | (rw [take_get (by omega)]; exact h2))
          · refine (hbrk (c.1, c.2.1, c.2.2) _ _ _ _ (by assumption) (by assumption) (fun _ h => h) (by walk_at "look") ?_).2
            rename_i h1
            rw [← hp]; exact skip_e (by walk_at "ix")
        · intro c u h tk hz F N
          dsimp only
          walk_at "go"
          dsimp only
          refine hret' _ _ _ _ _ _ F N fun F2 N2 => ?_
          have e : c.1 = beginW l pos := by
            unfold beginW
            dsimp only
            rw [← hx, if_pos ⟨by omega, by exact h2⟩, ← hy]
            exact hz
          rw [e]
          exact hret _ _ _ F2 N2
    all_goals (
      dsimp only
      have F9 := F
      refine hret' _ _ _ _ _ _ F N fun F2 N2 => ?_
      have e : p = beginW l pos := by
        unfold beginW
        dsimp only
        rw [← hx, if_neg]
        rintro ⟨a, b⟩
        first | omega | (rename_i h2; rw [show (↑p : Int).toNat = p from rfl] at h2; rw [h2] at b; exact Bool.noConfusion b)
      rw [e]
      exact hret _ _ _ F2 N2)

end Mine
end
noncomputable section
open Lean PySem PySem.W PySem.Spec PySem.Calls PyProof.Rows
set_option maxRecDepth 100000
namespace Mine
theorem fill_F2 : 0 = 0 ∧ 0 = 0 := by
  try walk1
  w_top off
  all_goals first | rfl | exact ⟨rfl, rfl⟩
local macro_rules | `(tactic| walk_at "noloop") => `(tactic| first
  | ((fail_if_success (fail_if_success (with_reducible show wpAny _ _ (execs _ _) _ _ _))); fail_if_success ((with_reducible refine st_execs ?_ ?_); (focus rfl)))
  | ((fail_if_success (fail_if_success (with_reducible show wpAny _ _ (exec _ _) _ _ _))); fail_if_success ((with_reducible refine st_exec ?_ ?_); (focus rfl)))
  | ((fail_if_success (with_reducible show wpAny _ _ (execs _ _) _ _ _)); (fail_if_success (with_reducible show wpAny _ _ (exec _ _) _ _ _)); (fail_if_success (with_reducible show wpAny _ _ (eval (Expr.ListComp _ _ _ _) _) _ _ _)); (fail_if_success (with_reducible show wpAny _ _ (pyIter _) _ _ _)); (fail_if_success (with_reducible show wpAny _ _ (truthy (Value.str (tx _) _)) _ _ _))))
local macro_rules | `(tactic| walk_at "go") => `(tactic| repeat' (first
  | (k_unfold; (try dsimp only))
  | (walk_at "noloop"; walk1)
  | (dsimp only; walk_at "noloop"; walk1)))
local macro_rules | `(tactic| walk_at "look") => `(tactic| ((try dsimp only); repeat' (first | exact List.forall_mem_nil _ | (refine List.forall_mem_cons.mpr ⟨by with_unfolding_all rfl, ?_⟩))))
local macro_rules | `(tactic| walk_at "ix") => `(tactic| first | omega | (simp only [List.length_take, List.length_drop] at *; omega))
local macro_rules | `(tactic| walk_at "subscriptTail Name Name str int") => `(tactic| ((with_reducible show wpAny _ _ (subscriptTail _ _ (Value.str (tx _) _) (Value.int _ _)) _ _ _); refine r_item (by walk_at "ix") (by walk_at "ix") (by walk_at "ix") ?_))
local macro_rules | `(tactic| walk_at "subscriptTail Name BinOp str int") => `(tactic| ((with_reducible show wpAny _ _ (subscriptTail _ _ (Value.str (tx _) _) (Value.int _ _)) _ _ _); refine r_item (by walk_at "ix") (by walk_at "ix") (by walk_at "ix") ?_))
local macro_rules | `(tactic| walk_at "compareOp In str str") => `(tactic| ((with_reducible show wpAny _ _ (compareOp _ (Value.str (tx _) _) (Value.str _ _)) _ _ _); refine r_in ?_))
local macro_rules | `(tactic| walk_at "compareOp NotIn str str") => `(tactic| ((with_reducible show wpAny _ _ (compareOp _ (Value.str (tx _) _) (Value.str _ _)) _ _ _); refine r_notin ?_))
local macro_rules | `(tactic| walk_at "compareOp Eq str str") => `(tactic| ((with_reducible show wpAny _ _ (compareOp _ (Value.str (tx _) _) (Value.str _ _)) _ _ _); refine r_eq ?_))
local macro_rules | `(tactic| walk_at "compareOp NotEq str str") => `(tactic| ((with_reducible show wpAny _ _ (compareOp _ (Value.str (tx _) _) (Value.str _ _)) _ _ _); refine r_ne ?_))
local macro_rules | `(tactic| walk_at "call builtin:ord") => `(tactic| ((with_reducible show wpAny _ _ (call _ [Value.str (tx _) _]) _ _ _); refine r_ord ?_))
local macro_rules | `(tactic| walk_at "call builtin:len") => `(tactic| ((with_reducible show wpAny _ _ (call _ [Value.str (tx _) _]) _ _ _); refine r_len (by walk_at "ix") ?_))
local macro_rules | `(tactic| walk_at "compareOp In str str") => `(tactic| ((with_reducible show wpAny _ _ (compareOp _ (Value.str (tx _) _) (Value.str _ _)) _ _ _); first | refine r_in2 isWs H_ws ?_ | refine r_in2 isBl H_bl ?_ | refine r_in2 isNl H_nl ?_ | refine r_in2 isBad H_bad ?_ | refine r_in2 isPu H_pu ?_))
local macro_rules | `(tactic| walk_at "compareOp NotIn str str") => `(tactic| ((with_reducible show wpAny _ _ (compareOp _ (Value.str (tx _) _) (Value.str _ _)) _ _ _); first | refine r_notin2 isWs H_ws ?_ | refine r_notin2 isPu H_pu ?_))
local macro_rules | `(tactic| walk_at "compareOp Eq str str") => `(tactic| ((with_reducible show wpAny _ _ (compareOp _ (Value.str (tx _) _) (Value.str _ _)) _ _ _); first | refine r_eq1 L_lt ?_ | refine r_eq1 L_gt ?_ | refine r_eq1 L_bs ?_ | refine r_eq1 L_lp ?_ | refine r_eq1 L_rp ?_ | refine r_eq1 L_del ?_ | refine r_eq1 L_nul ?_ | refine r_eq1 L_n ?_ | refine r_eq1 L_r ?_))
local macro_rules | `(tactic| walk_at "compareOp NotEq str str") => `(tactic| ((with_reducible show wpAny _ _ (compareOp _ (Value.str (tx _) _) (Value.str _ _)) _ _ _); first | refine r_ne1 L_rp ?_))
local macro_rules | `(tactic| walk_at "subscriptTail Name Slice str ref") => `(tactic| ((with_reducible show wpAny _ _ (subscriptTail _ (Expr.Slice (some _) (some _) none _) (Value.str (tx _) _) _) _ _ _); (with_reducible rename Fr _ _ _ _ => F'); (with_reducible rename News _ _ _ _ => N'); (refine r_slice (s := ⟨_, _, _, _, _⟩) (by walk_at "ix") (by walk_at "ix") (by walk_at "ix") F' N' ?_); intro _ _ _ _ _))
local macro_rules | `(tactic| walk_at "compareOp Eq str str") => `(tactic| ((with_reducible show wpAny _ _ (compareOp _ (Value.str (tx _) _) (Value.str _ _)) _ _ _); refine r_eqL L_rn ?_))
local macro_rules | `(tactic| walk_at "fact") => `(tactic| first | assumption | exact beq_iff_eq.mp (by assumption) | exact beq_eq_false_iff_ne.mp (by assumption) | omega)
local macro_rules | `(tactic| walk_at "noesc") => `(tactic| (rintro ⟨e1, e2, e3⟩; first | exact absurd e1 (beq_eq_false_iff_ne.mp (by assumption)) | exact Bool.noConfusion (Eq.trans (Eq.symm (show isPu _ = false from by assumption)) e3) | exact absurd (Eq.trans (Eq.symm e1) (beq_iff_eq.mp (show (List.getD _ _ _ == _) = true from by assumption))) (by decide) | omega))
local macro_rules | `(tactic| walk_at "cx") => `(tactic| exact ⟨by k_asm, by k_asm, by k_asm, by k_asm, by k_asm, rfl, rfl, rfl, rfl, (by (show _ + _ < _); omega), (by (show _ + 8 * _ < _); omega)⟩)
local macro_rules | `(tactic| walk_at "call ref") => `(tactic| ((with_reducible show wpAny _ _ (call (Value.ref 137) _ _) _ _ _); refine c_begin _ _ _ _ (by walk_at "cx") (by omega) ?_; intro t9 h9 k9 F9 N9; (try dsimp only)))
local macro_rules | `(tactic| walk_at "call ref") => `(tactic| ((with_reducible show wpAny _ _ (call (Value.ref 144) _ _) _ _ _); refine c_angle _ _ _ _ (by walk_at "cx") (by omega) (by omega) ?_ ?_; (all_goals intros); (all_goals (try dsimp only))))
local macro_rules | `(tactic| walk_at "call builtin:min") => `(tactic| ((with_reducible show wpAny _ _ (call (Value.builtin _) [Value.int _ _, Value.int _ _]) _ _ _); refine r_min (by omega) rfl (by assumption) (by assumption) ?_; intro h9 t9 k9 F9 N9))
local macro_rules | `(tactic| walk_at "retx") => `(tactic| (dsimp only; refine hret' _ _ _ _ _ _ (by assumption) (by assumption) fun F2 N2 => ?_))
local macro_rules | `(tactic| walk_at "upd") => `(tactic| first | exact Upd.head (by assumption) | (refine' Upd.tail ?a ?b; (case a => k_ne); (case b => walk_at "upd")))
local macro_rules | `(tactic| walk_at "sz") => `(tactic| ((try simp only [List.size_toArray, PySem.sizeLine_eq]); omega))
local macro_rules | `(tactic| walk_at "call builtin:list.append") => `(tactic| (k_here; (with_reducible show wpAny _ _ (call (Value.builtin _) [Value.ref _, _]) _ _ _); (refine' append_K ?k1 ?k2 ?k3 ?_ ?z; (case k1 => k_asm); (case k2 => k_asm); (case k3 => walk_at "upd"); (case z => walk_at "sz"); k_whole); intro h' F' N'; (try simp only [List.push_toArray] at N'); (try k_sweep)))
local macro_rules | `(tactic| walk_at "call ref") => `(tactic| ((with_reducible show wpAny _ _ (call (Value.ref 192) _ _) _ _ _); refine c_lbegin _ _ _ _ (by walk_at "cx") (by omega) ?_; intro t9 h9 k9 F9 N9; (try dsimp only)))
local macro_rules | `(tactic| walk_at "call ref") => `(tactic| ((with_reducible show wpAny _ _ (call (Value.ref 166) _ _) _ _ _); refine c_units _ _ _ _ _ _ (by walk_at "cx") (by walk_at "ix") (by walk_at "ix") ?_; intro a9 n9 vs9 tl9 h9 k9 U9 F9 N9 d9; (try dsimp only)))
local macro_rules | `(tactic| walk_at "subscriptTail Name Constant ref int") => `(tactic| ((with_reducible show wpAny _ _ (subscriptTail _ _ (Value.ref _) (Value.int _ _)) _ _ _); (with_unfolding_all refine' item_litK ?k1 ?k2 ?k3 ?k4 ?_ ?k6; (case k1 => exact News.isList (by k_asm) (by first | k_mem | walk_at "mem")); (case k2 => decide); (case k3 => decide); (case k4 => rfl); (case k6 => with_unfolding_all rfl); k_whole)))
local macro_rules | `(tactic| walk_at "offx") => `(tactic| (intro _; repeat' (first | exact List.forall_mem_nil _ | (refine List.forall_mem_cons.mpr ⟨by (show Str.ofString _ ≠ Str.ofString _); decide, ?_⟩))))
local macro_rules | `(tactic| walk_at "sub") => `(tactic| (intro q hq; (try simp only [List.cons_append, List.append_assoc, List.mem_cons, List.mem_append, List.not_mem_nil, or_false, or_assoc] at hq ⊢); (repeat' (first | exact hq | (refine Or.elim hq (fun hq => ?_) (fun hq => ?_)) | exact Or.inl hq | (refine Or.inr ?_)))))
local macro_rules | `(tactic| walk_at "mem") => `(tactic| first | assumption | exact List.mem_cons_self | (refine List.mem_cons_of_mem _ ?_; walk_at "mem") | (refine List.mem_append_left _ ?_; walk_at "mem") | (refine List.mem_append_right _ ?_; walk_at "mem"))
local macro_rules | `(tactic| walk_at "subscriptTail Name Name ref int") => `(tactic| ((with_reducible show wpAny _ _ (subscriptTail _ _ (Value.ref _) (Value.int _ _)) _ _ _); (with_unfolding_all refine' r_unit ?k1 ?k2 ?k3 ?k4 ?k5 ?k6 ?_ ?k7; (case k1 => k_asm); (case k2 => walk_at "mem"); (case k3 => assumption); (case k4 => omega); (case k5 => omega); (case k6 => omega); (case k7 => with_unfolding_all rfl)); intro a8 t8 t7 n8 m8))
local macro_rules | `(tactic| walk_at "subscriptTail Subscript") => `(tactic| with_reducible refine r_turn ?_)
local macro_rules | `(tactic| walk_at "compareOp Eq str str") => `(tactic| ((with_reducible show wpAny _ _ (compareOp _ (Value.str (tx _) _) (Value.str (tx _) _)) _ _ _); refine r_eqT ?_))
local macro_rules | `(tactic| walk_at "compareOp NotEq str str") => `(tactic| ((with_reducible show wpAny _ _ (compareOp _ (Value.str (tx _) _) (Value.str (tx _) _)) _ _ _); refine r_neT ?_))
local macro_rules | `(tactic| walk_at "compareOp NotIn str str") => `(tactic| ((with_reducible show wpAny _ _ (compareOp _ (Value.str (tx _) _) (Value.str _ _)) _ _ _); refine r_notin2 isOp H_open ?_))
local macro_rules | `(tactic| walk_at "eval Constant str") => `(tactic| with_reducible (first | refine r_const E_rp ?_ | refine r_const E_nil ?_))
local macro_rules | `(tactic| walk_at "binaryOp Add str str") => `(tactic| ((with_reducible show wpAny _ _ (binaryOp _ (Value.str (tx _) _) (Value.str (tx _) _)) _ _ _); refine r_cat (by first | omega | (simp only [List.length_append, List.length_cons, List.length_nil]; omega)) ?_; intro t9 k9))
local macro_rules | `(tactic| walk_at "call builtin:len") => `(tactic| ((with_reducible show wpAny _ _ (call (Value.builtin "len") [Value.ref _]) _ _ _); refine r_lenU (by k_asm) (by walk_at "mem") (by assumption) (by omega) ?_; intro t9 k9))
local macro_rules | `(tactic| walk_at "eval Name") => `(tactic| first
  | ((with_reducible refine' ld ?k1 ?k2 ?_ ?k3 ?k4 ?k5); (case k4 => kernel_rfl!); (case k1 => k_asm); (case k2 => k_dflt (exact rfl)); (case k3 => k_dflt (exact rfl)); (case k5 => decide); k_whole)
  | ((with_reducible refine' name_K ?k0 ?k1 ?k2 ?k3 ?_ ?k4 ?k5 ?k6); (case k5 => kernel_rfl!); (case k0 => k_asm); (case k1 => k_asm); (case k2 => k_asm); (case k3 => k_dflt k_is); (case k4 => k_dflt (exact rfl)); (case k6 => decide); k_whole))
local macro_rules | `(tactic| walk_at "ite") => `(tactic| first | with_reducible refine ite_tt ?_ | with_reducible refine ite_ff ?_ | with_reducible refine ite_True_then ?_ | with_reducible refine ite_False_else ?_ | (k_openite; first | refine ite_pos (by with_reducible assumption) ?_ | refine ite_neg (by with_reducible assumption) ?_ | refine ite_isFalse (by with_reducible assumption) ?_ | (with_reducible refine split_ine ?_ ?_ <;> intro _) | (with_reducible refine split_ieq ?_ ?_ <;> intro _) | with_reducible refine split_not ?_ | (refine split_dec ?_ ?_ <;> intro _) | (refine split_bool ?_ ?_ <;> intro _)))
local macro_rules | `(tactic| walk_at "callWith ref") => `(tactic| first
  | ((with_reducible refine' callWith_K ?k1 ?k2 ?_ ?k3 ?k4); (case k1 => k_asm); (case k2 => k_dflt k_is); (case k3 => k_dflt (exact rfl)); (case k4 => k_dflt (exact rfl)); k_whole)
  | ((with_reducible refine' callWith_K0 ?k1 ?k2 ?_); (case k1 => k_dflt k_in); (case k2 => k_dflt k_is); k_whole)
  | ((with_reducible refine' callWith_KW ?k1 ?k2 ?k3 ?_ ?k4 ?k5); (case k1 => k_asm); (case k2 => k_dflt k_is); (case k3 => k_dflt (exact rfl)); (case k4 => k_dflt (exact rfl)); (case k5 => k_dflt (exact rfl)); k_whole))
set_option maxHeartbeats 4000000 in
theorem c_angle {w : World} {loose : List Str} {mean : ExcName → Option Value} {mg mb : Str → Option Value} {k dp un : Nat} {gd : Option (List Code)}
    {A₀ : Around} {env : Env} {outer : List Env} {base h₀ : Heap} {L : Addr} {m : Str → Option Value} {news : List (Addr × Obj)} {s : Shared}
    {E Q : Value → Shared → Prop} (l : List Nat) (pos : Nat) (t1 t2 : Tok)
    (C : Cx w loose mean mg mb (k + 1) ⟨none, dp, some (env :: outer), gd, un⟩ A₀ env outer base h₀ L m news s)
    (hl : l.length ≤ 1000) (hp : pos < l.length)
    (hret1 : ∀ q a ta tb h' tk', angleS l (pos + 1) = some q → Fr h₀ L h' m → News h₀ L h' ((a, tupOf [.str (tx ((l.take q).drop (pos + 1))) ta, .int (q + 1 : Nat) tb]) :: news) → Q (.ref a) { s with heap := h', toks := tk' })
    (hret2 : ∀ a h' tk', angleS l (pos + 1) = none → Fr h₀ L h' m → News h₀ L h' ((a, tupOf [.none, .none]) :: news) → Q (.ref a) { s with heap := h', toks := tk' }) :
    wpAny (model PySem.Challenge.pw_br5019_01 w) ⟨none, dp, some (env :: outer), gd, un⟩ (call (.ref 144) [.str (tx l) t1, .int pos t2]) Q E s := by
  refine enter [(Str.ofString "src", .str (tx l) t1), (Str.ofString "pos", .int pos t2)] C (by k_is) (by k_is) (BindsTo.of_eq rfl) rfl rfl rfl (by decide) (locs rfl) ?_
  intro g L' h' tk Q' F' N' B' X' T' hd hu hret'
  walk_at "go"
  refine wh (σ := Nat × Tok × Tok) (τ := Unit) (fun _ => news) (fun c => [(Str.ofString "src", .str (tx l) t1), (Str.ofString "start", .int ((pos : Int) + 1) c.2.2), (Str.ofString "pos", .int c.1 c.2.1)])
    (fun c => angleS l c.1 = angleS l (pos + 1)) (fun c => l.length - c.1) (pos + 1, _, _)
    (fun _ => news) (fun _ => []) (fun _ => angleS l (pos + 1) = none)
    (by assumption) (by assumption) (fun _ h => h) (by walk_at "look") (by rfl) ?_ ?_
  · rintro ⟨p, tkp, tks⟩ u h tk Q' D hp F N hnext hbrk hr
    dsimp only at hp hnext hbrk F N ⊢
    walk_at "go"
    · refine hr _ _ ?_
      dsimp only
      refine hret' _ _ _ _ _ _ (by assumption) (by assumption) fun F2 N2 => ?_
      refine hret1 p _ _ _ _ _ ?_ F2 N2
      rw [← hp, angle_one (by omega) (by walk_at "noesc"), if_pos (by assumption)]
    · dsimp only
      refine' (hnext (p + 2, _, tks) _ _ _ _ (by assumption) (by assumption) (fun _ h => h) ?gL1 ?gP1 ?gM1).2
      case gL1 => walk_at "look"
      case gP1 => rw [← hp]; exact angle_esc (by omega) (by walk_at "fact") (by walk_at "fact")
      case gM1 => dsimp only; omega
    iterate 3
      · refine hr _ _ ?_
        dsimp only
        refine hret' _ _ _ _ _ _ (by assumption) (by assumption) fun F2 N2 => ?_
        refine hret2 _ _ _ ?_ F2 N2
        rw [← hp, angle_one (by omega) (by walk_at "noesc"), if_neg (by rw [Bool.not_eq_true]; assumption), if_pos (by assumption)]
      · dsimp only
        refine' (hnext (p + 1, _, tks) _ _ _ _ (by assumption) (by assumption) (fun _ h => h) ?gL2 ?gP2 ?gM2).1
        case gL2 => walk_at "look"
        case gP2 => rw [← hp, angle_one (p := p) (by omega) (by walk_at "noesc"), if_neg (by rw [Bool.not_eq_true]; assumption), if_neg (by rw [Bool.not_eq_true]; assumption)]
        case gM2 => dsimp only; omega
    · refine (hbrk () _ _ _ _ (by assumption) (by assumption) (fun _ h => h) (by walk_at "look") ?_).2
      rw [← hp]; exact angle_end (by omega)
  · intro c u h tk hx F N
    dsimp only
    walk_at "go"
    dsimp only
    refine hret' _ _ _ _ _ _ (by assumption) (by assumption) fun F2 N2 => ?_
    exact hret2 _ _ _ hx F2 N2

end Mine
end
noncomputable section
open Lean PySem PySem.W PySem.Spec PySem.Calls PyProof.Rows
set_option maxRecDepth 100000
namespace Mine
theorem fill_F3 : 0 = 0 ∧ 0 = 0 := by
  try walk1
  w_top off
  all_goals first | rfl | exact ⟨rfl, rfl⟩
local macro_rules | `(tactic| walk_at "noloop") => `(tactic| first
  | ((fail_if_success (fail_if_success (with_reducible show wpAny _ _ (execs _ _) _ _ _))); fail_if_success ((with_reducible refine st_execs ?_ ?_); (focus rfl)))
  | ((fail_if_success (fail_if_success (with_reducible show wpAny _ _ (exec _ _) _ _ _))); fail_if_success ((with_reducible refine st_exec ?_ ?_); (focus rfl)))
  | ((fail_if_success (with_reducible show wpAny _ _ (execs _ _) _ _ _)); (fail_if_success (with_reducible show wpAny _ _ (exec _ _) _ _ _)); (fail_if_success (with_reducible show wpAny _ _ (eval (Expr.ListComp _ _ _ _) _) _ _ _)); (fail_if_success (with_reducible show wpAny _ _ (pyIter _) _ _ _)); (fail_if_success (with_reducible show wpAny _ _ (truthy (Value.str (tx _) _)) _ _ _))))
local macro_rules | `(tactic| walk_at "go") => `(tactic| repeat' (first
  | (k_unfold; (try dsimp only))
  | (walk_at "noloop"; walk1)
  | (dsimp only; walk_at "noloop"; walk1)))
local macro_rules | `(tactic| walk_at "look") => `(tactic| ((try dsimp only); repeat' (first | exact List.forall_mem_nil _ | (refine List.forall_mem_cons.mpr ⟨by with_unfolding_all rfl, ?_⟩))))
local macro_rules | `(tactic| walk_at "ix") => `(tactic| first | omega | (simp only [List.length_take, List.length_drop] at *; omega))
local macro_rules | `(tactic| walk_at "subscriptTail Name Name str int") => `(tactic| ((with_reducible show wpAny _ _ (subscriptTail _ _ (Value.str (tx _) _) (Value.int _ _)) _ _ _); refine r_item (by walk_at "ix") (by walk_at "ix") (by walk_at "ix") ?_))
local macro_rules | `(tactic| walk_at "subscriptTail Name BinOp str int") => `(tactic| ((with_reducible show wpAny _ _ (subscriptTail _ _ (Value.str (tx _) _) (Value.int _ _)) _ _ _); refine r_item (by walk_at "ix") (by walk_at "ix") (by walk_at "ix") ?_))
local macro_rules | `(tactic| walk_at "compareOp In str str") => `(tactic| ((with_reducible show wpAny _ _ (compareOp _ (Value.str (tx _) _) (Value.str _ _)) _ _ _); refine r_in ?_))
local macro_rules | `(tactic| walk_at "compareOp NotIn str str") => `(tactic| ((with_reducible show wpAny _ _ (compareOp _ (Value.str (tx _) _) (Value.str _ _)) _ _ _); refine r_notin ?_))
local macro_rules | `(tactic| walk_at "compareOp Eq str str") => `(tactic| ((with_reducible show wpAny _ _ (compareOp _ (Value.str (tx _) _) (Value.str _ _)) _ _ _); refine r_eq ?_))
local macro_rules | `(tactic| walk_at "compareOp NotEq str str") => `(tactic| ((with_reducible show wpAny _ _ (compareOp _ (Value.str (tx _) _) (Value.str _ _)) _ _ _); refine r_ne ?_))
local macro_rules | `(tactic| walk_at "call builtin:ord") => `(tactic| ((with_reducible show wpAny _ _ (call _ [Value.str (tx _) _]) _ _ _); refine r_ord ?_))
local macro_rules | `(tactic| walk_at "call builtin:len") => `(tactic| ((with_reducible show wpAny _ _ (call _ [Value.str (tx _) _]) _ _ _); refine r_len (by walk_at "ix") ?_))
local macro_rules | `(tactic| walk_at "compareOp In str str") => `(tactic| ((with_reducible show wpAny _ _ (compareOp _ (Value.str (tx _) _) (Value.str _ _)) _ _ _); first | refine r_in2 isWs H_ws ?_ | refine r_in2 isBl H_bl ?_ | refine r_in2 isNl H_nl ?_ | refine r_in2 isBad H_bad ?_ | refine r_in2 isPu H_pu ?_))
local macro_rules | `(tactic| walk_at "compareOp NotIn str str") => `(tactic| ((with_reducible show wpAny _ _ (compareOp _ (Value.str (tx _) _) (Value.str _ _)) _ _ _); first | refine r_notin2 isWs H_ws ?_ | refine r_notin2 isPu H_pu ?_))
local macro_rules | `(tactic| walk_at "compareOp Eq str str") => `(tactic| ((with_reducible show wpAny _ _ (compareOp _ (Value.str (tx _) _) (Value.str _ _)) _ _ _); first | refine r_eq1 L_lt ?_ | refine r_eq1 L_gt ?_ | refine r_eq1 L_bs ?_ | refine r_eq1 L_lp ?_ | refine r_eq1 L_rp ?_ | refine r_eq1 L_del ?_ | refine r_eq1 L_nul ?_ | refine r_eq1 L_n ?_ | refine r_eq1 L_r ?_))
local macro_rules | `(tactic| walk_at "compareOp NotEq str str") => `(tactic| ((with_reducible show wpAny _ _ (compareOp _ (Value.str (tx _) _) (Value.str _ _)) _ _ _); first | refine r_ne1 L_rp ?_))
local macro_rules | `(tactic| walk_at "subscriptTail Name Slice str ref") => `(tactic| ((with_reducible show wpAny _ _ (subscriptTail _ (Expr.Slice (some _) (some _) none _) (Value.str (tx _) _) _) _ _ _); (with_reducible rename Fr _ _ _ _ => F'); (with_reducible rename News _ _ _ _ => N'); (refine r_slice (s := ⟨_, _, _, _, _⟩) (by walk_at "ix") (by walk_at "ix") (by walk_at "ix") F' N' ?_); intro _ _ _ _ _))
local macro_rules | `(tactic| walk_at "compareOp Eq str str") => `(tactic| ((with_reducible show wpAny _ _ (compareOp _ (Value.str (tx _) _) (Value.str _ _)) _ _ _); refine r_eqL L_rn ?_))
local macro_rules | `(tactic| walk_at "fact") => `(tactic| first | assumption | exact beq_iff_eq.mp (by assumption) | exact beq_eq_false_iff_ne.mp (by assumption) | omega)
local macro_rules | `(tactic| walk_at "noesc") => `(tactic| (rintro ⟨e1, e2, e3⟩; first | exact absurd e1 (beq_eq_false_iff_ne.mp (by assumption)) | exact Bool.noConfusion (Eq.trans (Eq.symm (show isPu _ = false from by assumption)) e3) | exact absurd (Eq.trans (Eq.symm e1) (beq_iff_eq.mp (show (List.getD _ _ _ == _) = true from by assumption))) (by decide) | omega))
local macro_rules | `(tactic| walk_at "cx") => `(tactic| exact ⟨by k_asm, by k_asm, by k_asm, by k_asm, by k_asm, rfl, rfl, rfl, rfl, (by (show _ + _ < _); omega), (by (show _ + 8 * _ < _); omega)⟩)
local macro_rules | `(tactic| walk_at "call ref") => `(tactic| ((with_reducible show wpAny _ _ (call (Value.ref 137) _ _) _ _ _); refine c_begin _ _ _ _ (by walk_at "cx") (by omega) ?_; intro t9 h9 k9 F9 N9; (try dsimp only)))
local macro_rules | `(tactic| walk_at "call ref") => `(tactic| ((with_reducible show wpAny _ _ (call (Value.ref 144) _ _) _ _ _); refine c_angle _ _ _ _ (by walk_at "cx") (by omega) (by omega) ?_ ?_; (all_goals intros); (all_goals (try dsimp only))))
local macro_rules | `(tactic| walk_at "call builtin:min") => `(tactic| ((with_reducible show wpAny _ _ (call (Value.builtin _) [Value.int _ _, Value.int _ _]) _ _ _); refine r_min (by omega) rfl (by assumption) (by assumption) ?_; intro h9 t9 k9 F9 N9))
local macro_rules | `(tactic| walk_at "retx") => `(tactic| (dsimp only; refine hret' _ _ _ _ _ _ (by assumption) (by assumption) fun F2 N2 => ?_))
local macro_rules | `(tactic| walk_at "upd") => `(tactic| first | exact Upd.head (by assumption) | (refine' Upd.tail ?a ?b; (case a => k_ne); (case b => walk_at "upd")))
local macro_rules | `(tactic| walk_at "sz") => `(tactic| ((try simp only [List.size_toArray, PySem.sizeLine_eq]); omega))
local macro_rules | `(tactic| walk_at "call builtin:list.append") => `(tactic| (k_here; (with_reducible show wpAny _ _ (call (Value.builtin _) [Value.ref _, _]) _ _ _); (refine' append_K ?k1 ?k2 ?k3 ?_ ?z; (case k1 => k_asm); (case k2 => k_asm); (case k3 => walk_at "upd"); (case z => walk_at "sz"); k_whole); intro h' F' N'; (try simp only [List.push_toArray] at N'); (try k_sweep)))
local macro_rules | `(tactic| walk_at "call ref") => `(tactic| ((with_reducible show wpAny _ _ (call (Value.ref 192) _ _) _ _ _); refine c_lbegin _ _ _ _ (by walk_at "cx") (by omega) ?_; intro t9 h9 k9 F9 N9; (try dsimp only)))
local macro_rules | `(tactic| walk_at "call ref") => `(tactic| ((with_reducible show wpAny _ _ (call (Value.ref 166) _ _) _ _ _); refine c_units _ _ _ _ _ _ (by walk_at "cx") (by walk_at "ix") (by walk_at "ix") ?_; intro a9 n9 vs9 tl9 h9 k9 U9 F9 N9 d9; (try dsimp only)))
local macro_rules | `(tactic| walk_at "subscriptTail Name Constant ref int") => `(tactic| ((with_reducible show wpAny _ _ (subscriptTail _ _ (Value.ref _) (Value.int _ _)) _ _ _); (with_unfolding_all refine' item_litK ?k1 ?k2 ?k3 ?k4 ?_ ?k6; (case k1 => exact News.isList (by k_asm) (by first | k_mem | walk_at "mem")); (case k2 => decide); (case k3 => decide); (case k4 => rfl); (case k6 => with_unfolding_all rfl); k_whole)))
local macro_rules | `(tactic| walk_at "offx") => `(tactic| (intro _; repeat' (first | exact List.forall_mem_nil _ | (refine List.forall_mem_cons.mpr ⟨by (show Str.ofString _ ≠ Str.ofString _); decide, ?_⟩))))
local macro_rules | `(tactic| walk_at "sub") => `(tactic| (intro q hq; (try simp only [List.cons_append, List.append_assoc, List.mem_cons, List.mem_append, List.not_mem_nil, or_false, or_assoc] at hq ⊢); (repeat' (first | exact hq | (refine Or.elim hq (fun hq => ?_) (fun hq => ?_)) | exact Or.inl hq | (refine Or.inr ?_)))))
local macro_rules | `(tactic| walk_at "mem") => `(tactic| first | assumption | exact List.mem_cons_self | (refine List.mem_cons_of_mem _ ?_; walk_at "mem") | (refine List.mem_append_left _ ?_; walk_at "mem") | (refine List.mem_append_right _ ?_; walk_at "mem"))
local macro_rules | `(tactic| walk_at "subscriptTail Name Name ref int") => `(tactic| ((with_reducible show wpAny _ _ (subscriptTail _ _ (Value.ref _) (Value.int _ _)) _ _ _); (with_unfolding_all refine' r_unit ?k1 ?k2 ?k3 ?k4 ?k5 ?k6 ?_ ?k7; (case k1 => k_asm); (case k2 => walk_at "mem"); (case k3 => assumption); (case k4 => omega); (case k5 => omega); (case k6 => omega); (case k7 => with_unfolding_all rfl)); intro a8 t8 t7 n8 m8))
local macro_rules | `(tactic| walk_at "subscriptTail Subscript") => `(tactic| with_reducible refine r_turn ?_)
local macro_rules | `(tactic| walk_at "compareOp Eq str str") => `(tactic| ((with_reducible show wpAny _ _ (compareOp _ (Value.str (tx _) _) (Value.str (tx _) _)) _ _ _); refine r_eqT ?_))
local macro_rules | `(tactic| walk_at "compareOp NotEq str str") => `(tactic| ((with_reducible show wpAny _ _ (compareOp _ (Value.str (tx _) _) (Value.str (tx _) _)) _ _ _); refine r_neT ?_))
local macro_rules | `(tactic| walk_at "compareOp NotIn str str") => `(tactic| ((with_reducible show wpAny _ _ (compareOp _ (Value.str (tx _) _) (Value.str _ _)) _ _ _); refine r_notin2 isOp H_open ?_))
local macro_rules | `(tactic| walk_at "eval Constant str") => `(tactic| with_reducible (first | refine r_const E_rp ?_ | refine r_const E_nil ?_))
local macro_rules | `(tactic| walk_at "binaryOp Add str str") => `(tactic| ((with_reducible show wpAny _ _ (binaryOp _ (Value.str (tx _) _) (Value.str (tx _) _)) _ _ _); refine r_cat (by first | omega | (simp only [List.length_append, List.length_cons, List.length_nil]; omega)) ?_; intro t9 k9))
local macro_rules | `(tactic| walk_at "call builtin:len") => `(tactic| ((with_reducible show wpAny _ _ (call (Value.builtin "len") [Value.ref _]) _ _ _); refine r_lenU (by k_asm) (by walk_at "mem") (by assumption) (by omega) ?_; intro t9 k9))
local macro_rules | `(tactic| walk_at "eval Name") => `(tactic| first
  | ((with_reducible refine' ld ?k1 ?k2 ?_ ?k3 ?k4 ?k5); (case k4 => kernel_rfl!); (case k1 => k_asm); (case k2 => k_dflt (exact rfl)); (case k3 => k_dflt (exact rfl)); (case k5 => decide); k_whole)
  | ((with_reducible refine' name_K ?k0 ?k1 ?k2 ?k3 ?_ ?k4 ?k5 ?k6); (case k5 => kernel_rfl!); (case k0 => k_asm); (case k1 => k_asm); (case k2 => k_asm); (case k3 => k_dflt k_is); (case k4 => k_dflt (exact rfl)); (case k6 => decide); k_whole))
local macro_rules | `(tactic| walk_at "ite") => `(tactic| first | with_reducible refine ite_tt ?_ | with_reducible refine ite_ff ?_ | with_reducible refine ite_True_then ?_ | with_reducible refine ite_False_else ?_ | (k_openite; first | refine ite_pos (by with_reducible assumption) ?_ | refine ite_neg (by with_reducible assumption) ?_ | refine ite_isFalse (by with_reducible assumption) ?_ | (with_reducible refine split_ine ?_ ?_ <;> intro _) | (with_reducible refine split_ieq ?_ ?_ <;> intro _) | with_reducible refine split_not ?_ | (refine split_dec ?_ ?_ <;> intro _) | (refine split_bool ?_ ?_ <;> intro _)))
local macro_rules | `(tactic| walk_at "callWith ref") => `(tactic| first
  | ((with_reducible refine' callWith_K ?k1 ?k2 ?_ ?k3 ?k4); (case k1 => k_asm); (case k2 => k_dflt k_is); (case k3 => k_dflt (exact rfl)); (case k4 => k_dflt (exact rfl)); k_whole)
  | ((with_reducible refine' callWith_K0 ?k1 ?k2 ?_); (case k1 => k_dflt k_in); (case k2 => k_dflt k_is); k_whole)
  | ((with_reducible refine' callWith_KW ?k1 ?k2 ?k3 ?_ ?k4 ?k5); (case k1 => k_asm); (case k2 => k_dflt k_is); (case k3 => k_dflt (exact rfl)); (case k4 => k_dflt (exact rfl)); (case k5 => k_dflt (exact rfl)); k_whole))
set_option maxHeartbeats 4000000 in
theorem c_phref {w : World} {loose : List Str} {mean : ExcName → Option Value} {mg mb : Str → Option Value} {k dp un : Nat} {gd : Option (List Code)}
    {A₀ : Around} {env : Env} {outer : List Env} {base h₀ : Heap} {L : Addr} {m : Str → Option Value} {news : List (Addr × Obj)} {s : Shared}
    {E Q : Value → Shared → Prop} (l : List Nat) (start : Nat) (block : Bool) (bound : Int) (t1 t2 t3 : Tok) (args : List Value) (kw : List (Str × Value))
    (C : Cx w loose mean mg mb (k + 2) ⟨none, dp, some (env :: outer), gd, un⟩ A₀ env outer base h₀ L m news s)
    (hb : ∀ oc od fd osl, (hd.heap_39 w.params).lookup 99 = some ⟨oc, od, .func fd, osl⟩ → BindsTo s fd ⟨args, kw⟩ [(Str.ofString "src", .str (tx l) t1), (Str.ofString "start_pos", .int start t2), (Str.ofString "block", .bool block), (Str.ofString "max_nested_level", .int bound t3)])
    (hl : l.length ≤ 1000)
    (hret1 : ∀ hr q a ta tb h' tk', hrefS l start block bound = (some (hr, q), q) → Fr h₀ L h' m → News h₀ L h' ((a, tupOf [.str (tx hr) ta, .int q tb, .int q tb]) :: news) → Q (.ref a) { s with heap := h', toks := tk' })
    (hret2 : ∀ q a tb h' tk', hrefS l start block bound = (none, q) → Fr h₀ L h' m → News h₀ L h' ((a, tupOf [.none, .none, .int q tb]) :: news) → Q (.ref a) { s with heap := h', toks := tk' }) :
    wpAny (model PySem.Challenge.pw_br5019_01 w) ⟨none, dp, some (env :: outer), gd, un⟩ (call (.ref 99) args kw) Q E s := by
  refine enter [(Str.ofString "src", .str (tx l) t1), (Str.ofString "start_pos", .int start t2), (Str.ofString "block", .bool block), (Str.ofString "max_nested_level", .int bound t3)] C (by k_is) (by k_is) (hb _ _ _ _ (by k_is)) rfl rfl rfl (by decide) (locs rfl) ?_
  intro g L' h' tk Q' F' N' B' X' T' hd hu hret'
  walk_at "go"
  · dsimp only
    refine hret' _ _ _ _ _ _ (by assumption) (by assumption) fun F2 N2 => ?_
    refine hret2 _ _ _ _ _ ?_ F2 N2
    unfold hrefS
    dsimp only
    rw [if_neg (by omega)]
  · dsimp only
    refine hret' _ _ _ _ _ _ (by assumption) (by assumption) fun F2 N2 => ?_
    refine hret1 _ _ _ _ _ _ _ ?_ F2 (drop2 N2)
    rename angleS _ _ = some _ => e2
    unfold hrefS
    dsimp only
    rw [if_pos (by omega), if_pos (by assumption), e2]
  · dsimp only
    refine hret' _ _ _ _ _ _ (by assumption) (by assumption) fun F2 N2 => ?_
    refine hret2 _ _ _ _ _ ?_ F2 (drop2 N2)
    rename angleS _ _ = none => e2
    unfold hrefS
    dsimp only
    rw [if_pos (by omega), if_pos (by assumption), e2]
  · have e0' : beginW l start < l.length := by omega
    have e1' : (l.getD (beginW l start) 0 == 60) = false := by assumption
    generalize hb : beginW l start = b at *
    (try dsimp only)
    with_reducible (refine cut (h₀ := g) (L := L') (τ := Tok) (fun _ => news) (fun c => [(Str.ofString "src", .str (tx l) t1), (Str.ofString "pos", .int b c), (Str.ofString "max_nested_level", .int bound t3)]) (fun c => (block && isWs (l.getD b 0)) = false) ?_ ?_)
    · intro D hD
      dsimp only at hD ⊢
      walk_at "go"
      · dsimp only
        refine hret' _ _ _ _ _ _ (by assumption) (by assumption) fun F2 N2 => ?_
        refine hret2 _ _ _ _ _ ?_ F2 N2
        unfold hrefS
        dsimp only
        rename block = true => h1
        rw [hb, if_pos e0', e1', if_neg Bool.false_ne_true, if_pos (by rw [h1, show isWs (l.getD b 0) = true from by assumption]; rfl)]
      · refine' hD _ _ _ _ _ (by assumption) (by assumption) (fun _ h => h) ?gL1 ?gP1
        case gL1 => walk_at "look"
        case gP1 => rw [show isWs (l.getD b 0) = false from by assumption, Bool.and_false]
      · refine' hD _ _ _ _ _ (by assumption) (by assumption) (fun _ h => h) ?gL2 ?gP2
        case gL2 => walk_at "look"
        case gP2 => rw [show block = false from by assumption, Bool.false_and]
    · rintro tb u h tk hy F N
      dsimp only at hy F N ⊢
      have hS : ∀ r, bareS bound l b 0 = r → hrefS l start block bound = match r with
          | (true, q, lv) => if lv = 0 then (some ((l.take q).drop b, q), q) else (none, q)
          | (false, q, _) => (none, q) := by
        intro r hr
        unfold hrefS
        dsimp only
        rw [hb, if_pos e0', e1', if_neg Bool.false_ne_true, if_neg (by rw [hy]; exact Bool.false_ne_true), hr]
        all_goals rfl
      walk_at "go"
      refine wh (σ := Nat × Int × Tok × Tok × Tok) (τ := Nat × Int × Tok × Tok × Tok) (fun _ => news) (fun c => [(Str.ofString "src", .str (tx l) t1), (Str.ofString "max_nested_level", .int bound t3), (Str.ofString "start", .int b c.2.2.2.2), (Str.ofString "level", .int c.2.1 c.2.2.2.1), (Str.ofString "pos", .int c.1 c.2.2.1)])
        (fun c => c.1 ≤ l.length ∧ bareS bound l c.1 c.2.1 = bareS bound l b 0) (fun c => l.length - c.1) (b, 0, _, _, _)
        (fun _ => news) (fun c => [(Str.ofString "src", .str (tx l) t1), (Str.ofString "start", .int b c.2.2.2.2), (Str.ofString "level", .int c.2.1 c.2.2.2.1), (Str.ofString "pos", .int c.1 c.2.2.1)])
        (fun c => bareS bound l b 0 = (true, c.1, c.2.1))
        (by assumption) (by assumption) (fun _ h => h) (by walk_at "look") ⟨by dsimp only; omega, rfl⟩ ?_ ?_
      · rintro ⟨p, lv, tkp, tkl, tks⟩ u h tk Q' D hp F N hnext hbrk hr
        dsimp only at hp hnext hbrk F N ⊢
        obtain ⟨hple, hp⟩ := hp
        walk_at "go"
        · dsimp only
          refine (hbrk (p, lv, tkp, tkl, tks) _ _ _ _ (by assumption) (by assumption) (fun _ h => h) (by walk_at "look") ?_).1
          have e : isWs (l.getD p 0) = true := by assumption
          rw [← hp, bare_one (by omega) (ws_noesc e), if_pos e]
        iterate 2
          · refine hr _ _ ?_
            dsimp only
            refine hret' _ _ _ _ _ _ (by assumption) (by assumption) fun F2 N2 => ?_
            refine hret2 _ _ _ _ _ ?_ F2 N2
            refine hS (false, p, lv) ?_
            have e : isWs (l.getD p 0) = false := by assumption
            have e2 : (decide (l.getD p 0 < 32) || l.getD p 0 == 127) = true := by
              first
              | (rw [show (l.getD p 0 == 127) = true from by assumption, Bool.or_true])
              | (rw [show decide (l.getD p 0 < 32) = true from decide_eq_true (Int.ofNat_lt.mp (by assumption)), Bool.true_or])
            rw [← hp, bare_one (by omega) (lo_noesc e2), if_neg (by rw [e]; exact Bool.false_ne_true), if_pos e2]
        · dsimp only
          have e : isWs (l.getD p 0) = false := by assumption
          have e2 : (decide (l.getD p 0 < 32) || l.getD p 0 == 127) = false := by
            rw [show (l.getD p 0 == 127) = false from by assumption, Bool.or_false]
            exact decide_eq_false (fun h => absurd (Int.ofNat_lt.mpr h) (by assumption))
          (try dsimp only)
          with_reducible (refine cut (h₀ := g) (L := L') (τ := Tok) (fun _ => news) (fun c => [(Str.ofString "src", .str (tx l) t1), (Str.ofString "max_nested_level", .int bound t3), (Str.ofString "start", .int b tks), (Str.ofString "level", .int lv tkl), (Str.ofString "pos", .int p tkp), (Str.ofString "c", .str (tx [l.getD p 0]) c)]) (fun _ => ¬ (l.getD p 0 = 92 ∧ p + 1 < l.length ∧ isPu (l.getD (p + 1) 0) = true)) ?_ ?_)
          · intro D hD
            dsimp only at hD ⊢
            walk_at "go"
            · dsimp only
              refine' (hnext (p + 2, lv, _, tkl, tks) _ _ _ _ (by assumption) (by assumption) (fun _ h => h) ?gL3 ?gP3 ?gM3).2
              case gL3 => walk_at "look"
              case gP3 => exact ⟨by dsimp only; omega, by rw [← hp]; exact bare_esc (by omega) (by walk_at "fact") (by walk_at "fact")⟩
              case gM3 => dsimp only; omega
            iterate 3
              · refine' hD _ _ _ _ _ (by assumption) (by assumption) (fun _ h => h) ?gL4 ?gP4
                case gL4 => walk_at "look"
                case gP4 => walk_at "noesc"
          · rintro tc u h tk hne F N
            dsimp only at hne F N ⊢
            have E1 := bare_one (bound := bound) (lv := lv) (show p < l.length by omega) hne
            rw [if_neg (by rw [e]; exact Bool.false_ne_true), if_neg (by rw [e2]; exact Bool.false_ne_true), hp] at E1
            walk_at "go"
            · refine hr _ _ ?_
              dsimp only
              refine hret' _ _ _ _ _ _ (by assumption) (by assumption) fun F2 N2 => ?_
              refine hret2 _ _ _ _ _ ?_ F2 N2
              refine hS (false, p, lv + 1) ?_
              rw [E1, if_pos (by assumption), if_pos (by assumption)]
            · dsimp only
              refine' (hnext (p + 1, lv + 1, _, _, tks) _ _ _ _ (by assumption) (by assumption) (fun _ h => h) ?gL5 ?gP5 ?gM5).1
              case gL5 => walk_at "look"
              case gP5 => exact ⟨by dsimp only; omega, by rw [E1, if_pos (by assumption), if_neg (by assumption)]⟩
              case gM5 => dsimp only; omega
            · dsimp only
              refine (hbrk (p, lv, tkp, tkl, tks) _ _ _ _ (by assumption) (by assumption) (fun _ h => h) (by walk_at "look") ?_).1
              rw [E1, if_neg (by rw [Bool.not_eq_true]; assumption), if_pos (by assumption), if_pos (by assumption)]
            · dsimp only
              refine' (hnext (p + 1, lv - 1, _, _, tks) _ _ _ _ (by assumption) (by assumption) (fun _ h => h) ?gL6 ?gP6 ?gM6).1
              case gL6 => walk_at "look"
              case gP6 => exact ⟨by dsimp only; omega, by rw [E1, if_neg (by rw [Bool.not_eq_true]; assumption), if_pos (by assumption), if_neg (by assumption)]⟩
              case gM6 => dsimp only; omega
            · dsimp only
              refine' (hnext (p + 1, lv, _, tkl, tks) _ _ _ _ (by assumption) (by assumption) (fun _ h => h) ?gL7 ?gP7 ?gM7).1
              case gL7 => walk_at "look"
              case gP7 => exact ⟨by dsimp only; omega, by rw [E1, if_neg (by rw [Bool.not_eq_true]; assumption), if_neg (by rw [Bool.not_eq_true]; assumption)]⟩
              case gM7 => dsimp only; omega
        · have e : bareS bound l b 0 = (true, p, lv) := by rw [← hp, bare_end (by omega), show p = l.length by omega]
          refine (hbrk (p, lv, tkp, tkl, tks) _ _ _ _ (by assumption) (by assumption) (fun _ h => h) (by walk_at "look") e).2
      · rintro ⟨p, lv, tkp, tkl, tks⟩ u h tk hx F N
        dsimp only at hx F N ⊢
        have hS2 := hS _ hx
        dsimp only at hS2
        walk_at "go"
        · dsimp only
          refine hret' _ _ _ _ _ _ (by assumption) (by assumption) fun F2 N2 => ?_
          refine hret2 _ _ _ _ _ ?_ F2 N2
          rw [hS2, if_neg (by assumption)]
        · dsimp only
          refine hret' _ _ _ _ _ _ (by assumption) (by assumption) fun F2 N2 => ?_
          refine hret1 _ _ _ _ _ _ _ ?_ F2 N2
          rw [hS2, if_pos (by assumption)]
          rfl

end Mine
end
noncomputable section
open Lean PySem PySem.W PySem.Spec PySem.Calls PyProof.Rows
set_option maxRecDepth 100000
namespace Mine
theorem fill_F4 : 0 = 0 ∧ 0 = 0 := by
  try walk1
  w_top off
  all_goals first | rfl | exact ⟨rfl, rfl⟩
local macro_rules | `(tactic| walk_at "noloop") => `(tactic| first
  | ((fail_if_success (fail_if_success (with_reducible show wpAny _ _ (execs _ _) _ _ _))); fail_if_success ((with_reducible refine st_execs ?_ ?_); (focus rfl)))
  | ((fail_if_success (fail_if_success (with_reducible show wpAny _ _ (exec _ _) _ _ _))); fail_if_success ((with_reducible refine st_exec ?_ ?_); (focus rfl)))
  | ((fail_if_success (with_reducible show wpAny _ _ (execs _ _) _ _ _)); (fail_if_success (with_reducible show wpAny _ _ (exec _ _) _ _ _)); (fail_if_success (with_reducible show wpAny _ _ (eval (Expr.ListComp _ _ _ _) _) _ _ _)); (fail_if_success (with_reducible show wpAny _ _ (pyIter _) _ _ _)); (fail_if_success (with_reducible show wpAny _ _ (truthy (Value.str (tx _) _)) _ _ _))))
local macro_rules | `(tactic| walk_at "go") => `(tactic| repeat' (first
  | (k_unfold; (try dsimp only))
  | (walk_at "noloop"; walk1)
  | (dsimp only; walk_at "noloop"; walk1)))
local macro_rules | `(tactic| walk_at "look") => `(tactic| ((try dsimp only); repeat' (first | exact List.forall_mem_nil _ | (refine List.forall_mem_cons.mpr ⟨by with_unfolding_all rfl, ?_⟩))))
local macro_rules | `(tactic| walk_at "ix") => `(tactic| first | omega | (simp only [List.length_take, List.length_drop] at *; omega))
local macro_rules | `(tactic| walk_at "subscriptTail Name Name str int") => `(tactic| ((with_reducible show wpAny _ _ (subscriptTail _ _ (Value.str (tx _) _) (Value.int _ _)) _ _ _); refine r_item (by walk_at "ix") (by walk_at "ix") (by walk_at "ix") ?_))
local macro_rules | `(tactic| walk_at "subscriptTail Name BinOp str int") => `(tactic| ((with_reducible show wpAny _ _ (subscriptTail _ _ (Value.str (tx _) _) (Value.int _ _)) _ _ _); refine r_item (by walk_at "ix") (by walk_at "ix") (by walk_at "ix") ?_))
local macro_rules | `(tactic| walk_at "compareOp In str str") => `(tactic| ((with_reducible show wpAny _ _ (compareOp _ (Value.str (tx _) _) (Value.str _ _)) _ _ _); refine r_in ?_))
local macro_rules | `(tactic| walk_at "compareOp NotIn str str") => `(tactic| ((with_reducible show wpAny _ _ (compareOp _ (Value.str (tx _) _) (Value.str _ _)) _ _ _); refine r_notin ?_))
local macro_rules | `(tactic| walk_at "compareOp Eq str str") => `(tactic| ((with_reducible show wpAny _ _ (compareOp _ (Value.str (tx _) _) (Value.str _ _)) _ _ _); refine r_eq ?_))
local macro_rules | `(tactic| walk_at "compareOp NotEq str str") => `(tactic| ((with_reducible show wpAny _ _ (compareOp _ (Value.str (tx _) _) (Value.str _ _)) _ _ _); refine r_ne ?_))
local macro_rules | `(tactic| walk_at "call builtin:ord") => `(tactic| ((with_reducible show wpAny _ _ (call _ [Value.str (tx _) _]) _ _ _); refine r_ord ?_))
local macro_rules | `(tactic| walk_at "call builtin:len") => `(tactic| ((with_reducible show wpAny _ _ (call _ [Value.str (tx _) _]) _ _ _); refine r_len (by walk_at "ix") ?_))
local macro_rules | `(tactic| walk_at "compareOp In str str") => `(tactic| ((with_reducible show wpAny _ _ (compareOp _ (Value.str (tx _) _) (Value.str _ _)) _ _ _); first | refine r_in2 isWs H_ws ?_ | refine r_in2 isBl H_bl ?_ | refine r_in2 isNl H_nl ?_ | refine r_in2 isBad H_bad ?_ | refine r_in2 isPu H_pu ?_))
local macro_rules | `(tactic| walk_at "compareOp NotIn str str") => `(tactic| ((with_reducible show wpAny _ _ (compareOp _ (Value.str (tx _) _) (Value.str _ _)) _ _ _); first | refine r_notin2 isWs H_ws ?_ | refine r_notin2 isPu H_pu ?_))
local macro_rules | `(tactic| walk_at "compareOp Eq str str") => `(tactic| ((with_reducible show wpAny _ _ (compareOp _ (Value.str (tx _) _) (Value.str _ _)) _ _ _); first | refine r_eq1 L_lt ?_ | refine r_eq1 L_gt ?_ | refine r_eq1 L_bs ?_ | refine r_eq1 L_lp ?_ | refine r_eq1 L_rp ?_ | refine r_eq1 L_del ?_ | refine r_eq1 L_nul ?_ | refine r_eq1 L_n ?_ | refine r_eq1 L_r ?_))
local macro_rules | `(tactic| walk_at "compareOp NotEq str str") => `(tactic| ((with_reducible show wpAny _ _ (compareOp _ (Value.str (tx _) _) (Value.str _ _)) _ _ _); first | refine r_ne1 L_rp ?_))
local macro_rules | `(tactic| walk_at "subscriptTail Name Slice str ref") => `(tactic| ((with_reducible show wpAny _ _ (subscriptTail _ (Expr.Slice (some _) (some _) none _) (Value.str (tx _) _) _) _ _ _); (with_reducible rename Fr _ _ _ _ => F'); (with_reducible rename News _ _ _ _ => N'); (refine r_slice (s := ⟨_, _, _, _, _⟩) (by walk_at "ix") (by walk_at "ix") (by walk_at "ix") F' N' ?_); intro _ _ _ _ _))
local macro_rules | `(tactic| walk_at "compareOp Eq str str") => `(tactic| ((with_reducible show wpAny _ _ (compareOp _ (Value.str (tx _) _) (Value.str _ _)) _ _ _); refine r_eqL L_rn ?_))
local macro_rules | `(tactic| walk_at "fact") => `(tactic| first | assumption | exact beq_iff_eq.mp (by assumption) | exact beq_eq_false_iff_ne.mp (by assumption) | omega)
local macro_rules | `(tactic| walk_at "noesc") => `(tactic| (rintro ⟨e1, e2, e3⟩; first | exact absurd e1 (beq_eq_false_iff_ne.mp (by assumption)) | exact Bool.noConfusion (Eq.trans (Eq.symm (show isPu _ = false from by assumption)) e3) | exact absurd (Eq.trans (Eq.symm e1) (beq_iff_eq.mp (show (List.getD _ _ _ == _) = true from by assumption))) (by decide) | omega))
local macro_rules | `(tactic| walk_at "cx") => `(tactic| exact ⟨by k_asm, by k_asm, by k_asm, by k_asm, by k_asm, rfl, rfl, rfl, rfl, (by (show _ + _ < _); omega), (by (show _ + 8 * _ < _); omega)⟩)
local macro_rules | `(tactic| walk_at "call ref") => `(tactic| ((with_reducible show wpAny _ _ (call (Value.ref 137) _ _) _ _ _); refine c_begin _ _ _ _ (by walk_at "cx") (by omega) ?_; intro t9 h9 k9 F9 N9; (try dsimp only)))
local macro_rules | `(tactic| walk_at "call ref") => `(tactic| ((with_reducible show wpAny _ _ (call (Value.ref 144) _ _) _ _ _); refine c_angle _ _ _ _ (by walk_at "cx") (by omega) (by omega) ?_ ?_; (all_goals intros); (all_goals (try dsimp only))))
local macro_rules | `(tactic| walk_at "call builtin:min") => `(tactic| ((with_reducible show wpAny _ _ (call (Value.builtin _) [Value.int _ _, Value.int _ _]) _ _ _); refine r_min (by omega) rfl (by assumption) (by assumption) ?_; intro h9 t9 k9 F9 N9))
local macro_rules | `(tactic| walk_at "retx") => `(tactic| (dsimp only; refine hret' _ _ _ _ _ _ (by assumption) (by assumption) fun F2 N2 => ?_))
local macro_rules | `(tactic| walk_at "upd") => `(tactic| first | exact Upd.head (by assumption) | (refine' Upd.tail ?a ?b; (case a => k_ne); (case b => walk_at "upd")))
local macro_rules | `(tactic| walk_at "sz") => `(tactic| ((try simp only [List.size_toArray, PySem.sizeLine_eq]); omega))
local macro_rules | `(tactic| walk_at "call builtin:list.append") => `(tactic| (k_here; (with_reducible show wpAny _ _ (call (Value.builtin _) [Value.ref _, _]) _ _ _); (refine' append_K ?k1 ?k2 ?k3 ?_ ?z; (case k1 => k_asm); (case k2 => k_asm); (case k3 => walk_at "upd"); (case z => walk_at "sz"); k_whole); intro h' F' N'; (try simp only [List.push_toArray] at N'); (try k_sweep)))
local macro_rules | `(tactic| walk_at "call ref") => `(tactic| ((with_reducible show wpAny _ _ (call (Value.ref 192) _ _) _ _ _); refine c_lbegin _ _ _ _ (by walk_at "cx") (by omega) ?_; intro t9 h9 k9 F9 N9; (try dsimp only)))
local macro_rules | `(tactic| walk_at "call ref") => `(tactic| ((with_reducible show wpAny _ _ (call (Value.ref 166) _ _) _ _ _); refine c_units _ _ _ _ _ _ (by walk_at "cx") (by walk_at "ix") (by walk_at "ix") ?_; intro a9 n9 vs9 tl9 h9 k9 U9 F9 N9 d9; (try dsimp only)))
local macro_rules | `(tactic| walk_at "subscriptTail Name Constant ref int") => `(tactic| ((with_reducible show wpAny _ _ (subscriptTail _ _ (Value.ref _) (Value.int _ _)) _ _ _); (with_unfolding_all refine' item_litK ?k1 ?k2 ?k3 ?k4 ?_ ?k6; (case k1 => exact News.isList (by k_asm) (by first | k_mem | walk_at "mem")); (case k2 => decide); (case k3 => decide); (case k4 => rfl); (case k6 => with_unfolding_all rfl); k_whole)))
local macro_rules | `(tactic| walk_at "offx") => `(tactic| (intro _; repeat' (first | exact List.forall_mem_nil _ | (refine List.forall_mem_cons.mpr ⟨by (show Str.ofString _ ≠ Str.ofString _); decide, ?_⟩))))
local macro_rules | `(tactic| walk_at "sub") => `(tactic| (intro q hq; (try simp only [List.cons_append, List.append_assoc, List.mem_cons, List.mem_append, List.not_mem_nil, or_false, or_assoc] at hq ⊢); (repeat' (first | exact hq | (refine Or.elim hq (fun hq => ?_) (fun hq => ?_)) | exact Or.inl hq | (refine Or.inr ?_)))))
local macro_rules | `(tactic| walk_at "mem") => `(tactic| first | assumption | exact List.mem_cons_self | (refine List.mem_cons_of_mem _ ?_; walk_at "mem") | (refine List.mem_append_left _ ?_; walk_at "mem") | (refine List.mem_append_right _ ?_; walk_at "mem"))
local macro_rules | `(tactic| walk_at "subscriptTail Name Name ref int") => `(tactic| ((with_reducible show wpAny _ _ (subscriptTail _ _ (Value.ref _) (Value.int _ _)) _ _ _); (with_unfolding_all refine' r_unit ?k1 ?k2 ?k3 ?k4 ?k5 ?k6 ?_ ?k7; (case k1 => k_asm); (case k2 => walk_at "mem"); (case k3 => assumption); (case k4 => omega); (case k5 => omega); (case k6 => omega); (case k7 => with_unfolding_all rfl)); intro a8 t8 t7 n8 m8))
local macro_rules | `(tactic| walk_at "subscriptTail Subscript") => `(tactic| with_reducible refine r_turn ?_)
local macro_rules | `(tactic| walk_at "compareOp Eq str str") => `(tactic| ((with_reducible show wpAny _ _ (compareOp _ (Value.str (tx _) _) (Value.str (tx _) _)) _ _ _); refine r_eqT ?_))
local macro_rules | `(tactic| walk_at "compareOp NotEq str str") => `(tactic| ((with_reducible show wpAny _ _ (compareOp _ (Value.str (tx _) _) (Value.str (tx _) _)) _ _ _); refine r_neT ?_))
local macro_rules | `(tactic| walk_at "compareOp NotIn str str") => `(tactic| ((with_reducible show wpAny _ _ (compareOp _ (Value.str (tx _) _) (Value.str _ _)) _ _ _); refine r_notin2 isOp H_open ?_))
local macro_rules | `(tactic| walk_at "eval Constant str") => `(tactic| with_reducible (first | refine r_const E_rp ?_ | refine r_const E_nil ?_))
local macro_rules | `(tactic| walk_at "binaryOp Add str str") => `(tactic| ((with_reducible show wpAny _ _ (binaryOp _ (Value.str (tx _) _) (Value.str (tx _) _)) _ _ _); refine r_cat (by first | omega | (simp only [List.length_append, List.length_cons, List.length_nil]; omega)) ?_; intro t9 k9))
local macro_rules | `(tactic| walk_at "call builtin:len") => `(tactic| ((with_reducible show wpAny _ _ (call (Value.builtin "len") [Value.ref _]) _ _ _); refine r_lenU (by k_asm) (by walk_at "mem") (by assumption) (by omega) ?_; intro t9 k9))
local macro_rules | `(tactic| walk_at "eval Name") => `(tactic| first
  | ((with_reducible refine' ld ?k1 ?k2 ?_ ?k3 ?k4 ?k5); (case k4 => kernel_rfl!); (case k1 => k_asm); (case k2 => k_dflt (exact rfl)); (case k3 => k_dflt (exact rfl)); (case k5 => decide); k_whole)
  | ((with_reducible refine' name_K ?k0 ?k1 ?k2 ?k3 ?_ ?k4 ?k5 ?k6); (case k5 => kernel_rfl!); (case k0 => k_asm); (case k1 => k_asm); (case k2 => k_asm); (case k3 => k_dflt k_is); (case k4 => k_dflt (exact rfl)); (case k6 => decide); k_whole))
local macro_rules | `(tactic| walk_at "ite") => `(tactic| first | with_reducible refine ite_tt ?_ | with_reducible refine ite_ff ?_ | with_reducible refine ite_True_then ?_ | with_reducible refine ite_False_else ?_ | (k_openite; first | refine ite_pos (by with_reducible assumption) ?_ | refine ite_neg (by with_reducible assumption) ?_ | refine ite_isFalse (by with_reducible assumption) ?_ | (with_reducible refine split_ine ?_ ?_ <;> intro _) | (with_reducible refine split_ieq ?_ ?_ <;> intro _) | with_reducible refine split_not ?_ | (refine split_dec ?_ ?_ <;> intro _) | (refine split_bool ?_ ?_ <;> intro _)))
local macro_rules | `(tactic| walk_at "callWith ref") => `(tactic| first
  | ((with_reducible refine' callWith_K ?k1 ?k2 ?_ ?k3 ?k4); (case k1 => k_asm); (case k2 => k_dflt k_is); (case k3 => k_dflt (exact rfl)); (case k4 => k_dflt (exact rfl)); k_whole)
  | ((with_reducible refine' callWith_K0 ?k1 ?k2 ?_); (case k1 => k_dflt k_in); (case k2 => k_dflt k_is); k_whole)
  | ((with_reducible refine' callWith_KW ?k1 ?k2 ?k3 ?_ ?k4 ?k5); (case k1 => k_asm); (case k2 => k_dflt k_is); (case k3 => k_dflt (exact rfl)); (case k4 => k_dflt (exact rfl)); (case k5 => k_dflt (exact rfl)); k_whole))
set_option maxHeartbeats 4000000 in
theorem c_units {w : World} {loose : List Str} {mean : ExcName → Option Value} {mg mb : Str → Option Value} {k dp un : Nat} {gd : Option (List Code)}
    {A₀ : Around} {env : Env} {outer : List Env} {base h₀ : Heap} {L : Addr} {m : Str → Option Value} {news : List (Addr × Obj)} {s : Shared}
    {E Q : Value → Shared → Prop} (l : List Nat) (k0 lim : Nat) (t1 t2 t3 : Tok)
    (C : Cx w loose mean mg mb (k + 1) ⟨none, dp, some (env :: outer), gd, un⟩ A₀ env outer base h₀ L m news s)
    (hl : l.length ≤ 1000) (hlim : lim ≤ l.length)
    (hret : ∀ a n vs tl h' tk', UnitsIn tl vs (units ((l.take lim).drop k0) k0) → Fr h₀ L h' m → News h₀ L h' ((a, listOf vs.toArray n) :: (tl ++ news)) → (∀ p ∈ tl ++ news, p.1 ≠ a) → Q (.ref a) { s with heap := h', toks := tk' }) :
    wpAny (model PySem.Challenge.pw_br5019_01 w) ⟨none, dp, some (env :: outer), gd, un⟩ (call (.ref 166) [.str (tx l) t1, .int k0 t2, .int lim t3]) Q E s := by
  refine enter [(Str.ofString "text", .str (tx l) t1), (Str.ofString "k", .int k0 t2), (Str.ofString "limit", .int lim t3)] C (by k_is) (by k_is) (BindsTo.of_eq rfl) rfl rfl rfl (by decide) (locs rfl) ?_
  intro g L' h' tk Q' F' N' B' X' T' hd hu hret'
  walk_at "go"
  rename_i D9 h8 l9 h9 F9 N9
  have hne : ∀ p ∈ news, p.1 ≠ D9 := fun p hp => Nat.ne_of_lt (l9 p hp)
  refine wh (σ := Nat × Tok × List Value × Nat × List (Addr × Obj)) (τ := Nat × List Value × List (Addr × Obj)) (fun c => (D9, listOf c.2.2.1.toArray c.2.2.2.1) :: (c.2.2.2.2 ++ news))
    (fun c => [(Str.ofString "text", .str (tx l) t1), (Str.ofString "limit", .int lim t3), (Str.ofString "units", .ref D9), (Str.ofString "k", .int c.1 c.2.1)])
    (fun c => (∀ p ∈ c.2.2.2.2, p.1 ≠ D9) ∧ ∃ us, UnitsIn c.2.2.2.2 c.2.2.1 us ∧ us.length ≤ c.1 ∧ us ++ units ((l.take lim).drop c.1) c.1 = units ((l.take lim).drop k0) k0) (fun c => lim - c.1) (k0, _, [], _, [])
    (fun c => (D9, listOf c.2.1.toArray c.1) :: (c.2.2 ++ news)) (fun c => [(Str.ofString "units", .ref D9)]) (fun c => (∀ p ∈ c.2.2, p.1 ≠ D9) ∧ UnitsIn c.2.2 c.2.1 (units ((l.take lim).drop k0) k0))
    (by assumption) (by assumption) (fun _ h => h) (by walk_at "look") ⟨(fun _ h => (nomatch h)), [], UnitsIn.nil, Nat.zero_le _, rfl⟩ ?_ ?_
  · rintro ⟨p, tkp, vs, n, tl⟩ u h tk Q' D ⟨hfr, us, hU, hus, hp⟩ F N hnext hbrk hr
    dsimp only at hfr hU hus hp hnext hbrk F N ⊢
    have hall : ∀ q ∈ tl ++ news, q.1 ≠ D9 := fun q hq => (List.mem_append.mp hq).elim (hfr q) (hne q)
    have hvl := hU.length
    walk_at "go"
    · (try dsimp only)
      (try dsimp only)
      with_reducible (refine ifm (h₀ := g) (L := L') (τ := Unit) (fun _ => (D9, listOf vs.toArray n) :: (tl ++ news)) (fun _ => [(Str.ofString "text", .str (tx l) t1), (Str.ofString "limit", .int lim t3), (Str.ofString "units", .ref D9), (Str.ofString "k", .int p tkp)]) (fun b _ => b = true ↔ (l.getD p 0 = 92 ∧ p + 1 < lim ∧ isPu (l.getD (p + 1) 0) = true)) ?_ ?_ ?_)
      · intro D hD
        dsimp only at hD ⊢
        walk_at "go"
        all_goals
          refine hD _ () _ _ _ _ (by assumption) (by assumption) (fun _ h => h) (by walk_at "look") ?_
        · exact ⟨fun _ => ⟨by walk_at "fact", by omega, by walk_at "fact"⟩, fun _ => rfl⟩
        all_goals (refine ⟨fun e => absurd e Bool.false_ne_true, fun e => ?_⟩; exfalso; revert e; walk_at "noesc")
      · rintro ⟨⟩ u h tk hc F N
        dsimp only at F N ⊢
        obtain ⟨c1, c2, c3⟩ := hc.mp rfl
        walk_at "go"
        rename_i a9 _ l8 _ _ F8 N8
        refine' (hnext (p + 2, _, vs ++ [.ref a9], n + 1, (a9, _) :: tl) _ _ _ _ F8 N8 sw_mem ?gL1 ?gP1 ?gM1).1
        case gL1 => walk_at "look"
        case gP1 =>
          refine ⟨?_, us ++ [(l.getD (p + 1) 0, true, p)], ?_, ?_, ?_⟩
          · intro q hq
            rcases List.mem_cons.mp hq with rfl | hq
            · exact Nat.ne_of_gt l8.1
            · exact hfr q hq
          · exact (hU.mono fun q hq => List.mem_cons_of_mem _ hq).snoc (u := (l.getD (p + 1) 0, true, p)) (.head _)
          · simp only [List.length_append, List.length_cons, List.length_nil]; omega
          · rw [← hp, List.append_assoc, units_esc (t := l.take lim) (p := p) (by walk_at "ix") (by rw [take_get (by omega)]; exact c1) (by rw [take_get (by omega)]; exact c3), take_get (by omega)]
            rfl
        case gM1 => dsimp only; omega
      · rintro ⟨⟩ u h tk hc F N
        dsimp only at F N ⊢
        have hc' : ¬ ((l.take lim).getD p 0 = 92 ∧ p + 1 < (l.take lim).length ∧ isPu ((l.take lim).getD (p + 1) 0) = true) := by
          rintro ⟨e1, e2, e3⟩
          rw [List.length_take] at e2
          rw [take_get (by omega)] at e1 e3
          exact Bool.false_ne_true (hc.mpr ⟨e1, by omega, e3⟩)
        walk_at "go"
        rename_i a9 _ l8 _ _ F8 N8
        refine' (hnext (p + 1, _, vs ++ [.ref a9], n + 1, (a9, _) :: tl) _ _ _ _ F8 N8 sw_mem ?gL2 ?gP2 ?gM2).1
        case gL2 => walk_at "look"
        case gP2 =>
          refine ⟨?_, us ++ [(l.getD p 0, false, p)], ?_, ?_, ?_⟩
          · intro q hq
            rcases List.mem_cons.mp hq with rfl | hq
            · exact Nat.ne_of_gt l8.1
            · exact hfr q hq
          · exact (hU.mono fun q hq => List.mem_cons_of_mem _ hq).snoc (u := (l.getD p 0, false, p)) (.head _)
          · simp only [List.length_append, List.length_cons, List.length_nil]; omega
          · rw [← hp, List.append_assoc, units_one (t := l.take lim) (p := p) (by walk_at "ix") hc', take_get (by omega)]
            rfl
        case gM2 => dsimp only; omega
    · refine (hbrk (n, vs, tl) _ _ _ _ (by assumption) (by assumption) (fun _ h => h) (by walk_at "look") ⟨hfr, ?_⟩).2
      rw [← hp, units_nil (by walk_at "ix"), List.append_nil]
      exact hU
  · rintro ⟨n, vs, tl⟩ u h tk ⟨hx, hU⟩ F N
    dsimp only at hx hU F N ⊢
    walk_at "go"
    dsimp only
    refine hret' _ _ _ _ _ _ (by assumption) (by assumption) fun F2 N2 => ?_
    exact hret _ _ _ _ _ _ hU F2 N2 fun q hq => (List.mem_append.mp hq).elim (hx q) (hne q)

end Mine
end
noncomputable section
open Lean PySem PySem.W PySem.Spec PySem.Calls PyProof.Rows
set_option maxRecDepth 100000
namespace Mine
theorem fill_F5 : 0 = 0 ∧ 0 = 0 := by
  try walk1
  w_top off
  all_goals first | rfl | exact ⟨rfl, rfl⟩
local macro_rules | `(tactic| walk_at "noloop") => `(tactic| first
  | ((fail_if_success (fail_if_success (with_reducible show wpAny _ _ (execs _ _) _ _ _))); fail_if_success ((with_reducible refine st_execs ?_ ?_); (focus rfl)))
  | ((fail_if_success (fail_if_success (with_reducible show wpAny _ _ (exec _ _) _ _ _))); fail_if_success ((with_reducible refine st_exec ?_ ?_); (focus rfl)))
  | ((fail_if_success (with_reducible show wpAny _ _ (execs _ _) _ _ _)); (fail_if_success (with_reducible show wpAny _ _ (exec _ _) _ _ _)); (fail_if_success (with_reducible show wpAny _ _ (eval (Expr.ListComp _ _ _ _) _) _ _ _)); (fail_if_success (with_reducible show wpAny _ _ (pyIter _) _ _ _)); (fail_if_success (with_reducible show wpAny _ _ (truthy (Value.str (tx _) _)) _ _ _))))
local macro_rules | `(tactic| walk_at "go") => `(tactic| repeat' (first
  | (k_unfold; (try dsimp only))
  | (walk_at "noloop"; walk1)
  | (dsimp only; walk_at "noloop"; walk1)))
local macro_rules | `(tactic| walk_at "look") => `(tactic| ((try dsimp only); repeat' (first | exact List.forall_mem_nil _ | (refine List.forall_mem_cons.mpr ⟨by with_unfolding_all rfl, ?_⟩))))
local macro_rules | `(tactic| walk_at "ix") => `(tactic| first | omega | (simp only [List.length_take, List.length_drop] at *; omega))
local macro_rules | `(tactic| walk_at "subscriptTail Name Name str int") => `(tactic| ((with_reducible show wpAny _ _ (subscriptTail _ _ (Value.str (tx _) _) (Value.int _ _)) _ _ _); refine r_item (by walk_at "ix") (by walk_at "ix") (by walk_at "ix") ?_))
local macro_rules | `(tactic| walk_at "subscriptTail Name BinOp str int") => `(tactic| ((with_reducible show wpAny _ _ (subscriptTail _ _ (Value.str (tx _) _) (Value.int _ _)) _ _ _); refine r_item (by walk_at "ix") (by walk_at "ix") (by walk_at "ix") ?_))
local macro_rules | `(tactic| walk_at "compareOp In str str") => `(tactic| ((with_reducible show wpAny _ _ (compareOp _ (Value.str (tx _) _) (Value.str _ _)) _ _ _); refine r_in ?_))
local macro_rules | `(tactic| walk_at "compareOp NotIn str str") => `(tactic| ((with_reducible show wpAny _ _ (compareOp _ (Value.str (tx _) _) (Value.str _ _)) _ _ _); refine r_notin ?_))
local macro_rules | `(tactic| walk_at "compareOp Eq str str") => `(tactic| ((with_reducible show wpAny _ _ (compareOp _ (Value.str (tx _) _) (Value.str _ _)) _ _ _); refine r_eq ?_))
local macro_rules | `(tactic| walk_at "compareOp NotEq str str") => `(tactic| ((with_reducible show wpAny _ _ (compareOp _ (Value.str (tx _) _) (Value.str _ _)) _ _ _); refine r_ne ?_))
local macro_rules | `(tactic| walk_at "call builtin:ord") => `(tactic| ((with_reducible show wpAny _ _ (call _ [Value.str (tx _) _]) _ _ _); refine r_ord ?_))
local macro_rules | `(tactic| walk_at "call builtin:len") => `(tactic| ((with_reducible show wpAny _ _ (call _ [Value.str (tx _) _]) _ _ _); refine r_len (by walk_at "ix") ?_))
local macro_rules | `(tactic| walk_at "compareOp In str str") => `(tactic| ((with_reducible show wpAny _ _ (compareOp _ (Value.str (tx _) _) (Value.str _ _)) _ _ _); first | refine r_in2 isWs H_ws ?_ | refine r_in2 isBl H_bl ?_ | refine r_in2 isNl H_nl ?_ | refine r_in2 isBad H_bad ?_ | refine r_in2 isPu H_pu ?_))
local macro_rules | `(tactic| walk_at "compareOp NotIn str str") => `(tactic| ((with_reducible show wpAny _ _ (compareOp _ (Value.str (tx _) _) (Value.str _ _)) _ _ _); first | refine r_notin2 isWs H_ws ?_ | refine r_notin2 isPu H_pu ?_))
local macro_rules | `(tactic| walk_at "compareOp Eq str str") => `(tactic| ((with_reducible show wpAny _ _ (compareOp _ (Value.str (tx _) _) (Value.str _ _)) _ _ _); first | refine r_eq1 L_lt ?_ | refine r_eq1 L_gt ?_ | refine r_eq1 L_bs ?_ | refine r_eq1 L_lp ?_ | refine r_eq1 L_rp ?_ | refine r_eq1 L_del ?_ | refine r_eq1 L_nul ?_ | refine r_eq1 L_n ?_ | refine r_eq1 L_r ?_))
local macro_rules | `(tactic| walk_at "compareOp NotEq str str") => `(tactic| ((with_reducible show wpAny _ _ (compareOp _ (Value.str (tx _) _) (Value.str _ _)) _ _ _); first | refine r_ne1 L_rp ?_))
local macro_rules | `(tactic| walk_at "subscriptTail Name Slice str ref") => `(tactic| ((with_reducible show wpAny _ _ (subscriptTail _ (Expr.Slice (some _) (some _) none _) (Value.str (tx _) _) _) _ _ _); (with_reducible rename Fr _ _ _ _ => F'); (with_reducible rename News _ _ _ _ => N'); (refine r_slice (s := ⟨_, _, _, _, _⟩) (by walk_at "ix") (by walk_at "ix") (by walk_at "ix") F' N' ?_); intro _ _ _ _ _))
local macro_rules | `(tactic| walk_at "compareOp Eq str str") => `(tactic| ((with_reducible show wpAny _ _ (compareOp _ (Value.str (tx _) _) (Value.str _ _)) _ _ _); refine r_eqL L_rn ?_))
local macro_rules | `(tactic| walk_at "fact") => `(tactic| first | assumption | exact beq_iff_eq.mp (by assumption) | exact beq_eq_false_iff_ne.mp (by assumption) | omega)
local macro_rules | `(tactic| walk_at "noesc") => `(tactic| (rintro ⟨e1, e2, e3⟩; first | exact absurd e1 (beq_eq_false_iff_ne.mp (by assumption)) | exact Bool.noConfusion (Eq.trans (Eq.symm (show isPu _ = false from by assumption)) e3) | exact absurd (Eq.trans (Eq.symm e1) (beq_iff_eq.mp (show (List.getD _ _ _ == _) = true from by assumption))) (by decide) | omega))
local macro_rules | `(tactic| walk_at "cx") => `(tactic| exact ⟨by k_asm, by k_asm, by k_asm, by k_asm, by k_asm, rfl, rfl, rfl, rfl, (by (show _ + _ < _); omega), (by (show _ + 8 * _ < _); omega)⟩)
local macro_rules | `(tactic| walk_at "call ref") => `(tactic| ((with_reducible show wpAny _ _ (call (Value.ref 137) _ _) _ _ _); refine c_begin _ _ _ _ (by walk_at "cx") (by omega) ?_; intro t9 h9 k9 F9 N9; (try dsimp only)))
local macro_rules | `(tactic| walk_at "call ref") => `(tactic| ((with_reducible show wpAny _ _ (call (Value.ref 144) _ _) _ _ _); refine c_angle _ _ _ _ (by walk_at "cx") (by omega) (by omega) ?_ ?_; (all_goals intros); (all_goals (try dsimp only))))
local macro_rules | `(tactic| walk_at "call builtin:min") => `(tactic| ((with_reducible show wpAny _ _ (call (Value.builtin _) [Value.int _ _, Value.int _ _]) _ _ _); refine r_min (by omega) rfl (by assumption) (by assumption) ?_; intro h9 t9 k9 F9 N9))
local macro_rules | `(tactic| walk_at "retx") => `(tactic| (dsimp only; refine hret' _ _ _ _ _ _ (by assumption) (by assumption) fun F2 N2 => ?_))
local macro_rules | `(tactic| walk_at "upd") => `(tactic| first | exact Upd.head (by assumption) | (refine' Upd.tail ?a ?b; (case a => k_ne); (case b => walk_at "upd")))
local macro_rules | `(tactic| walk_at "sz") => `(tactic| ((try simp only [List.size_toArray, PySem.sizeLine_eq]); omega))
local macro_rules | `(tactic| walk_at "call builtin:list.append") => `(tactic| (k_here; (with_reducible show wpAny _ _ (call (Value.builtin _) [Value.ref _, _]) _ _ _); (refine' append_K ?k1 ?k2 ?k3 ?_ ?z; (case k1 => k_asm); (case k2 => k_asm); (case k3 => walk_at "upd"); (case z => walk_at "sz"); k_whole); intro h' F' N'; (try simp only [List.push_toArray] at N'); (try k_sweep)))
local macro_rules | `(tactic| walk_at "call ref") => `(tactic| ((with_reducible show wpAny _ _ (call (Value.ref 192) _ _) _ _ _); refine c_lbegin _ _ _ _ (by walk_at "cx") (by omega) ?_; intro t9 h9 k9 F9 N9; (try dsimp only)))
local macro_rules | `(tactic| walk_at "call ref") => `(tactic| ((with_reducible show wpAny _ _ (call (Value.ref 166) _ _) _ _ _); refine c_units _ _ _ _ _ _ (by walk_at "cx") (by walk_at "ix") (by walk_at "ix") ?_; intro a9 n9 vs9 tl9 h9 k9 U9 F9 N9 d9; (try dsimp only)))
local macro_rules | `(tactic| walk_at "subscriptTail Name Constant ref int") => `(tactic| ((with_reducible show wpAny _ _ (subscriptTail _ _ (Value.ref _) (Value.int _ _)) _ _ _); (with_unfolding_all refine' item_litK ?k1 ?k2 ?k3 ?k4 ?_ ?k6; (case k1 => exact News.isList (by k_asm) (by first | k_mem | walk_at "mem")); (case k2 => decide); (case k3 => decide); (case k4 => rfl); (case k6 => with_unfolding_all rfl); k_whole)))
local macro_rules | `(tactic| walk_at "offx") => `(tactic| (intro _; repeat' (first | exact List.forall_mem_nil _ | (refine List.forall_mem_cons.mpr ⟨by (show Str.ofString _ ≠ Str.ofString _); decide, ?_⟩))))
local macro_rules | `(tactic| walk_at "sub") => `(tactic| (intro q hq; (try simp only [List.cons_append, List.append_assoc, List.mem_cons, List.mem_append, List.not_mem_nil, or_false, or_assoc] at hq ⊢); (repeat' (first | exact hq | (refine Or.elim hq (fun hq => ?_) (fun hq => ?_)) | exact Or.inl hq | (refine Or.inr ?_)))))
local macro_rules | `(tactic| walk_at "mem") => `(tactic| first | assumption | exact List.mem_cons_self | (refine List.mem_cons_of_mem _ ?_; walk_at "mem") | (refine List.mem_append_left _ ?_; walk_at "mem") | (refine List.mem_append_right _ ?_; walk_at "mem"))
local macro_rules | `(tactic| walk_at "subscriptTail Name Name ref int") => `(tactic| ((with_reducible show wpAny _ _ (subscriptTail _ _ (Value.ref _) (Value.int _ _)) _ _ _); (with_unfolding_all refine' r_unit ?k1 ?k2 ?k3 ?k4 ?k5 ?k6 ?_ ?k7; (case k1 => k_asm); (case k2 => walk_at "mem"); (case k3 => assumption); (case k4 => omega); (case k5 => omega); (case k6 => omega); (case k7 => with_unfolding_all rfl)); intro a8 t8 t7 n8 m8))
local macro_rules | `(tactic| walk_at "subscriptTail Subscript") => `(tactic| with_reducible refine r_turn ?_)
local macro_rules | `(tactic| walk_at "compareOp Eq str str") => `(tactic| ((with_reducible show wpAny _ _ (compareOp _ (Value.str (tx _) _) (Value.str (tx _) _)) _ _ _); refine r_eqT ?_))
local macro_rules | `(tactic| walk_at "compareOp NotEq str str") => `(tactic| ((with_reducible show wpAny _ _ (compareOp _ (Value.str (tx _) _) (Value.str (tx _) _)) _ _ _); refine r_neT ?_))
local macro_rules | `(tactic| walk_at "compareOp NotIn str str") => `(tactic| ((with_reducible show wpAny _ _ (compareOp _ (Value.str (tx _) _) (Value.str _ _)) _ _ _); refine r_notin2 isOp H_open ?_))
local macro_rules | `(tactic| walk_at "eval Constant str") => `(tactic| with_reducible (first | refine r_const E_rp ?_ | refine r_const E_nil ?_))
local macro_rules | `(tactic| walk_at "binaryOp Add str str") => `(tactic| ((with_reducible show wpAny _ _ (binaryOp _ (Value.str (tx _) _) (Value.str (tx _) _)) _ _ _); refine r_cat (by first | omega | (simp only [List.length_append, List.length_cons, List.length_nil]; omega)) ?_; intro t9 k9))
local macro_rules | `(tactic| walk_at "call builtin:len") => `(tactic| ((with_reducible show wpAny _ _ (call (Value.builtin "len") [Value.ref _]) _ _ _); refine r_lenU (by k_asm) (by walk_at "mem") (by assumption) (by omega) ?_; intro t9 k9))
local macro_rules | `(tactic| walk_at "eval Name") => `(tactic| first
  | ((with_reducible refine' ld ?k1 ?k2 ?_ ?k3 ?k4 ?k5); (case k4 => kernel_rfl!); (case k1 => k_asm); (case k2 => k_dflt (exact rfl)); (case k3 => k_dflt (exact rfl)); (case k5 => decide); k_whole)
  | ((with_reducible refine' name_K ?k0 ?k1 ?k2 ?k3 ?_ ?k4 ?k5 ?k6); (case k5 => kernel_rfl!); (case k0 => k_asm); (case k1 => k_asm); (case k2 => k_asm); (case k3 => k_dflt k_is); (case k4 => k_dflt (exact rfl)); (case k6 => decide); k_whole))
local macro_rules | `(tactic| walk_at "ite") => `(tactic| first | with_reducible refine ite_tt ?_ | with_reducible refine ite_ff ?_ | with_reducible refine ite_True_then ?_ | with_reducible refine ite_False_else ?_ | (k_openite; first | refine ite_pos (by with_reducible assumption) ?_ | refine ite_neg (by with_reducible assumption) ?_ | refine ite_isFalse (by with_reducible assumption) ?_ | (with_reducible refine split_ine ?_ ?_ <;> intro _) | (with_reducible refine split_ieq ?_ ?_ <;> intro _) | with_reducible refine split_not ?_ | (refine split_dec ?_ ?_ <;> intro _) | (refine split_bool ?_ ?_ <;> intro _)))
local macro_rules | `(tactic| walk_at "callWith ref") => `(tactic| first
  | ((with_reducible refine' callWith_K ?k1 ?k2 ?_ ?k3 ?k4); (case k1 => k_asm); (case k2 => k_dflt k_is); (case k3 => k_dflt (exact rfl)); (case k4 => k_dflt (exact rfl)); k_whole)
  | ((with_reducible refine' callWith_K0 ?k1 ?k2 ?_); (case k1 => k_dflt k_in); (case k2 => k_dflt k_is); k_whole)
  | ((with_reducible refine' callWith_KW ?k1 ?k2 ?k3 ?_ ?k4 ?k5); (case k1 => k_asm); (case k2 => k_dflt k_is); (case k3 => k_dflt (exact rfl)); (case k4 => k_dflt (exact rfl)); (case k5 => k_dflt (exact rfl)); k_whole))
set_option maxHeartbeats 4000000 in
theorem c_lhref {w : World} {loose : List Str} {mean : ExcName → Option Value} {mg mb : Str → Option Value} {k dp un : Nat} {gd : Option (List Code)}
    {A₀ : Around} {env : Env} {outer : List Env} {base h₀ : Heap} {L : Addr} {m : Str → Option Value} {news : List (Addr × Obj)} {s : Shared}
    {E Q : Value → Shared → Prop} (l : List Nat) (start : Nat) (block : Bool) (bound : Int) (t1 t2 t3 : Tok)
    (C : Cx w loose mean mg mb (k + 2) ⟨none, dp, some (env :: outer), gd, un⟩ A₀ env outer base h₀ L m news s)
    (hl : l.length ≤ 1000)
    (hret1 : ∀ hr q a ta tb tc h' tk', hrefS l start block bound = (some (hr, q), q) → Fr h₀ L h' m → News h₀ L h' ((a, tupOf [.str (tx hr) ta, .int q tb, .int q tc]) :: news) → Q (.ref a) { s with heap := h', toks := tk' })
    (hret2 : ∀ q a tb h' tk', hrefS l start block bound = (none, q) → Fr h₀ L h' m → News h₀ L h' ((a, tupOf [.none, .none, .int q tb]) :: news) → Q (.ref a) { s with heap := h', toks := tk' }) :
    wpAny (model PySem.Challenge.pw_br5019_01 w) ⟨none, dp, some (env :: outer), gd, un⟩ (call (.ref 199) [.str (tx l) t1, .int start t2, .bool block, .int bound t3]) Q E s := by
  refine enter [(Str.ofString "text", .str (tx l) t1), (Str.ofString "start", .int start t2), (Str.ofString "block", .bool block), (Str.ofString "bound", .int bound t3)] C (by k_is) (by k_is) (BindsTo.of_eq rfl) rfl rfl rfl (by decide) (locs rfl) ?_
  intro g L' h' tk Q' F' N' B' X' T' hd hu hret'
  walk_at "go"
  · dsimp only
    refine hret' _ _ _ _ _ _ (by assumption) (by assumption) fun F2 N2 => ?_
    refine hret2 _ _ _ _ _ ?_ F2 N2
    unfold hrefS
    dsimp only
    rw [if_neg (by omega)]
  · refine For_invVF (h₀ := g) (by assumption) rfl rfl ?_
    walk_at "go"
    rename_i a9 n9 vs9 tl9 h9 k9 U9 F9 N9 d9
    rw [List.take_length] at U9
    refine fr (σ := Tok) (τ := Tok) vs9 n9 (fun _ => (a9, listOf vs9.toArray n9) :: (tl9 ++ news)) (fun c => [(Str.ofString "text", .str (tx l) t1), (Str.ofString "k", .int (beginW l start : Nat) c)])
      (fun i _ => angleU ((units (l.drop (beginW l start + 1)) (beginW l start + 1)).drop i) = angleS l (beginW l start + 1)) _
      (fun _ => news) (fun c => [(Str.ofString "k", .int (beginW l start : Nat) c)]) (fun _ => angleS l (beginW l start + 1) = none)
      rfl (by walk_at "offx") (fun _ => .head _) (by assumption) (by assumption) (fun _ h => h) (by walk_at "look") rfl ?_ ?_ ?_
    · intro i v tkk u h tk own Q' hv hown hp F N hnext hbrk hr
      obtain ⟨c, e, p, a, t3, t4, n, hd1, rfl, hm⟩ := U9.at hv
      have N2 := dupN N (List.mem_append_left _ (List.mem_cons_of_mem _ (List.mem_append_left _ hm)))
      clear N
      dsimp only at hp hnext hbrk F N2 ⊢
      rw [hd1] at hp
      simp only [angleU] at hp
      walk_at "go"
      · rename e = true => he
        subst he
        refine' (hnext tkk _ _ _ _ (by assumption) N2 ?gA1 ?gB1 hown ?gL1 ?gP1).1
        case gA1 => walk_at "sub"
        case gB1 => walk_at "sub"
        case gL1 => walk_at "look"
        case gP1 => exact hp
      all_goals
        rename e = false => he
        subst he
      · refine hr _ _ ?_
        dsimp only
        refine hret' _ _ _ _ _ _ (by assumption) (by assumption) fun F2 N3 => ?_
        refine hret1 _ _ _ _ _ _ _ _ ?_ F2 (subN N3 (by walk_at "sub"))
        rw [show (c == 62) = true from by assumption] at hp
        unfold hrefS
        dsimp only
        rw [if_pos (by omega), if_pos (by assumption), ← hp]
        rfl
      · refine hr _ _ ?_
        dsimp only
        refine hret' _ _ _ _ _ _ (by assumption) (by assumption) fun F2 N3 => ?_
        refine hret2 _ _ _ _ _ ?_ F2 (subN N3 (by walk_at "sub"))
        rw [show (c == 62) = false from by assumption, show isBad c = true from by assumption] at hp
        unfold hrefS
        dsimp only
        rw [if_pos (by omega), if_pos (by assumption), ← hp]
        rfl
      · refine' (hnext tkk _ _ _ _ (by assumption) N2 ?gA2 ?gB2 hown ?gL2 ?gP2).1
        case gA2 => walk_at "sub"
        case gB2 => walk_at "sub"
        case gL2 => walk_at "look"
        case gP2 =>
          rw [show (c == 62) = false from by assumption, show isBad c = false from by assumption] at hp
          exact hp
    · intro tkk hp
      refine ⟨tkk, by walk_at "sub", by walk_at "sub", ?_⟩
      rw [U9.length, List.drop_length] at hp
      exact hp.symm
    · intro tkk u h tk hx F N
      dsimp only at hx F N ⊢
      walk_at "go"
      dsimp only
      refine hret' _ _ _ _ _ _ (by assumption) (by assumption) fun F2 N3 => ?_
      refine hret2 _ _ _ _ _ ?_ F2 N3
      unfold hrefS
      dsimp only
      rw [if_pos (by omega), if_pos (by assumption), hx]
  · have e0' : beginW l start < l.length := by omega
    have e1' : (l.getD (beginW l start) 0 == 60) = false := by assumption
    generalize hb : beginW l start = b at *
    (try dsimp only)
    (try dsimp only)
    with_reducible (refine cut (h₀ := g) (L := L') (τ := Tok) (fun _ => news) (fun c => [(Str.ofString "text", .str (tx l) t1), (Str.ofString "k", .int b c), (Str.ofString "bound", .int bound t3)]) (fun c => (block && isWs (l.getD b 0)) = false) ?_ ?_)
    · intro D hD
      dsimp only at hD ⊢
      walk_at "go"
      · dsimp only
        refine hret' _ _ _ _ _ _ (by assumption) (by assumption) fun F2 N2 => ?_
        refine hret2 _ _ _ _ _ ?_ F2 N2
        unfold hrefS
        dsimp only
        rename block = true => h1
        rw [hb, if_pos e0', e1', if_neg Bool.false_ne_true, if_pos (by rw [h1, show isWs (l.getD b 0) = true from by assumption]; rfl)]
      · refine' hD _ _ _ _ _ (by assumption) (by assumption) (fun _ h => h) ?gL3 ?gP3
        case gL3 => walk_at "look"
        case gP3 => rw [show isWs (l.getD b 0) = false from by assumption, Bool.and_false]
      · refine' hD _ _ _ _ _ (by assumption) (by assumption) (fun _ h => h) ?gL4 ?gP4
        case gL4 => walk_at "look"
        case gP4 => rw [show block = false from by assumption, Bool.false_and]
    · rintro tb u h tk hy F N
      dsimp only at hy F N ⊢
      have hS : ∀ r, bareS bound l b 0 = r → hrefS l start block bound = match r with
          | (true, q, lv) => if lv = 0 then (some ((l.take q).drop b, q), q) else (none, q)
          | (false, q, _) => (none, q) := by
        intro r hr
        unfold hrefS
        dsimp only
        rw [hb, if_pos e0', e1', if_neg Bool.false_ne_true, if_neg (by rw [hy]; exact Bool.false_ne_true), hr]
        all_goals rfl
      walk_at "go"
      refine For_invVF (h₀ := g) (by assumption) rfl rfl ?_
      walk_at "go"
      rename_i a9 n9 vs9 tl9 h9 k9 U9 F9 N9 d9
      rw [List.take_length] at U9
      refine fr (σ := Int × Tok × Tok × Tok) (τ := Nat × Int × Tok × Tok × Tok) vs9 n9 (fun _ => (a9, listOf vs9.toArray n9) :: (tl9 ++ news)) (fun c => [(Str.ofString "text", .str (tx l) t1), (Str.ofString "bound", .int bound t3), (Str.ofString "k", .int b tb), (Str.ofString "level", .int c.1 c.2.1), (Str.ofString "stop", .int l.length c.2.2.1)])
        (fun i c => bareU bound ((units (l.drop b) b).drop i) c.1 l.length = bareS bound l b 0) (0, _, _, 0)
        (fun _ => news) (fun c => [(Str.ofString "text", .str (tx l) t1), (Str.ofString "k", .int b tb), (Str.ofString "level", .int c.2.1 c.2.2.1), (Str.ofString "stop", .int c.1 c.2.2.2.1)]) (fun c => bareS bound l b 0 = (true, c.1, c.2.1))
        rfl (by walk_at "offx") (fun _ => .head _) (by assumption) (by assumption) (fun _ h => h) (by walk_at "look") rfl ?_ ?_ ?_
      · rintro i v ⟨lv, tkl, tks, z9⟩ u h tk own Q' hv hown hp F N hnext hbrk hr
        obtain ⟨c, e, p, a, t3, t4, n, hd1, rfl, hm⟩ := U9.at hv
        have N2 := dupN N (List.mem_append_left _ (List.mem_cons_of_mem _ (List.mem_append_left _ hm)))
        clear N
        dsimp only at hp hnext hbrk F N2 ⊢
        rw [hd1] at hp
        simp only [bareU] at hp
        walk_at "go"
        · refine' (hnext (lv, tkl, tks, z9) _ _ _ _ (by assumption) (by assumption) ?gA5 ?gB5 hown ?gL5 ?gP5).1
          case gA5 => walk_at "sub"
          case gB5 => walk_at "sub"
          case gL5 => walk_at "look"
          case gP5 => rename e = true => he; subst he; exact hp
        all_goals
          rename e = false => he
          subst he
          simp only [Bool.false_eq_true, if_false] at hp
        · dsimp only
          refine' hbrk (p, lv, tkl, _, z9) _ _ _ _ (by assumption) (by assumption) ?gA6 ?gL6 ?gX6
          case gA6 => walk_at "sub"
          case gL6 => walk_at "look"
          case gX6 => (rw [if_pos (show isWs c = true from by assumption)] at hp); exact hp.symm
        · refine hr _ _ ?_
          dsimp only
          refine hret' _ _ _ _ _ _ (by assumption) (by assumption) fun F2 N3 => ?_
          refine hret2 _ _ _ _ _ ?_ F2 (subN N3 (by walk_at "sub"))
          refine hS (false, p, lv) ?_
          rw [if_neg (by rw [Bool.not_eq_true]; assumption : ¬ isWs c = true)] at hp
          rw [if_pos (by rw [show decide (c < 32) = true from decide_eq_true (Int.ofNat_lt.mp (by assumption)), Bool.true_or] : (decide (c < 32) || c == 127) = true)] at hp
          exact hp.symm
        · refine hr _ _ ?_
          dsimp only
          refine hret' _ _ _ _ _ _ (by assumption) (by assumption) fun F2 N3 => ?_
          refine hret2 _ _ _ _ _ ?_ F2 (subN N3 (by walk_at "sub"))
          refine hS (false, p, lv) ?_
          rw [if_neg (by rw [Bool.not_eq_true]; assumption : ¬ isWs c = true)] at hp
          rw [if_pos (by rw [show (c == 127) = true from by assumption, Bool.or_true] : (decide (c < 32) || c == 127) = true)] at hp
          exact hp.symm
        · refine hr _ _ ?_
          dsimp only
          refine hret' _ _ _ _ _ _ (by assumption) (by assumption) fun F2 N3 => ?_
          refine hret2 _ _ _ _ _ ?_ F2 (subN N3 (by walk_at "sub"))
          refine hS (false, p, lv + 1) ?_
          rw [if_neg (by rw [Bool.not_eq_true]; assumption : ¬ isWs c = true)] at hp
          rw [if_neg (by rw [show (c == 127) = false from by assumption, Bool.or_false, decide_eq_true_eq]; intro h; exact absurd (Int.ofNat_lt.mpr h) (by assumption) : ¬ (decide (c < 32) || c == 127) = true)] at hp
          rw [if_pos (show (c == 40) = true from by assumption)] at hp
          rw [if_pos (show lv + 1 > bound from by assumption)] at hp
          exact hp.symm
        · exfalso
          have e1 := beq_iff_eq.mp (show (c == 40) = true from by assumption)
          have e2 := beq_iff_eq.mp (show (c == 41) = true from by assumption)
          omega
        · exfalso
          have e1 := beq_iff_eq.mp (show (c == 40) = true from by assumption)
          have e2 := beq_iff_eq.mp (show (c == 41) = true from by assumption)
          omega
        · refine' (hnext (lv + 1, _, tks, z9) _ _ _ _ (by assumption) (by assumption) ?gA7 ?gB7 hown ?gL7 ?gP7).1
          case gA7 => walk_at "sub"
          case gB7 => walk_at "sub"
          case gL7 => walk_at "look"
          case gP7 => (rw [if_neg (by rw [Bool.not_eq_true]; assumption : ¬ isWs c = true)] at hp); (rw [if_neg (by rw [show (c == 127) = false from by assumption, Bool.or_false, decide_eq_true_eq]; intro h; exact absurd (Int.ofNat_lt.mpr h) (by assumption) : ¬ (decide (c < 32) || c == 127) = true)] at hp); (rw [if_pos (show (c == 40) = true from by assumption)] at hp); (rw [if_neg (show ¬ lv + 1 > bound from by assumption)] at hp); exact hp
        · dsimp only
          refine' hbrk (p, lv, tkl, _, z9) _ _ _ _ (by assumption) (by assumption) ?gA8 ?gL8 ?gX8
          case gA8 => walk_at "sub"
          case gL8 => walk_at "look"
          case gX8 => (rw [if_neg (by rw [Bool.not_eq_true]; assumption : ¬ isWs c = true)] at hp); (rw [if_neg (by rw [show (c == 127) = false from by assumption, Bool.or_false, decide_eq_true_eq]; intro h; exact absurd (Int.ofNat_lt.mpr h) (by assumption) : ¬ (decide (c < 32) || c == 127) = true)] at hp); (rw [if_neg (by rw [Bool.not_eq_true]; assumption : ¬ (c == 40) = true)] at hp); (rw [if_pos (show (c == 41) = true from by assumption)] at hp); (rw [if_pos (show lv = 0 from by assumption)] at hp); exact hp.symm
        · refine' (hnext (lv - 1, _, tks, z9) _ _ _ _ (by assumption) (by assumption) ?gA9 ?gB9 hown ?gL9 ?gP9).1
          case gA9 => walk_at "sub"
          case gB9 => walk_at "sub"
          case gL9 => walk_at "look"
          case gP9 => (rw [if_neg (by rw [Bool.not_eq_true]; assumption : ¬ isWs c = true)] at hp); (rw [if_neg (by rw [show (c == 127) = false from by assumption, Bool.or_false, decide_eq_true_eq]; intro h; exact absurd (Int.ofNat_lt.mpr h) (by assumption) : ¬ (decide (c < 32) || c == 127) = true)] at hp); (rw [if_neg (by rw [Bool.not_eq_true]; assumption : ¬ (c == 40) = true)] at hp); (rw [if_pos (show (c == 41) = true from by assumption)] at hp); (rw [if_neg (show ¬ lv = 0 from by assumption)] at hp); exact hp
        · refine' (hnext (lv, tkl, tks, z9) _ _ _ _ (by assumption) (by assumption) ?gA10 ?gB10 hown ?gL10 ?gP10).1
          case gA10 => walk_at "sub"
          case gB10 => walk_at "sub"
          case gL10 => walk_at "look"
          case gP10 => (rw [if_neg (by rw [Bool.not_eq_true]; assumption : ¬ isWs c = true)] at hp); (rw [if_neg (by rw [show (c == 127) = false from by assumption, Bool.or_false, decide_eq_true_eq]; intro h; exact absurd (Int.ofNat_lt.mpr h) (by assumption) : ¬ (decide (c < 32) || c == 127) = true)] at hp); (rw [if_neg (by rw [Bool.not_eq_true]; assumption : ¬ (c == 40) = true)] at hp); (rw [if_neg (by rw [Bool.not_eq_true]; assumption : ¬ (c == 41) = true)] at hp); exact hp
      · rintro ⟨lv, tkl, tks, z9⟩ hp
        refine ⟨(l.length, lv, tkl, tks, 0), by walk_at "sub", by walk_at "sub", ?_⟩
        rw [U9.length, List.drop_length] at hp
        exact hp.symm
      · rintro ⟨p, lv, tkl, tks, z9⟩ u h tk hx F N
        dsimp only at hx F N ⊢
        have hS2 := hS _ hx
        dsimp only at hS2
        walk_at "go"
        · dsimp only
          refine hret' _ _ _ _ _ _ (by assumption) (by assumption) fun F2 N2 => ?_
          refine hret2 _ _ _ _ _ ?_ F2 N2
          rw [hS2, if_neg (by assumption)]
        · dsimp only
          refine hret' _ _ _ _ _ _ (by assumption) (by assumption) fun F2 N2 => ?_
          refine hret1 _ _ _ _ _ _ _ _ ?_ F2 N2
          rw [hS2, if_pos (by assumption)]
          rfl

end Mine
end
noncomputable section
open Lean PySem PySem.W PySem.Spec PySem.Calls PyProof.Rows
set_option maxRecDepth 100000
namespace Mine
theorem fill_F6 : 0 = 0 ∧ 0 = 0 := by
  try walk1
  w_top off
  all_goals first | rfl | exact ⟨rfl, rfl⟩
local macro_rules | `(tactic| walk_at "noloop") => `(tactic| first
  | ((fail_if_success (fail_if_success (with_reducible show wpAny _ _ (execs _ _) _ _ _))); fail_if_success ((with_reducible refine st_execs ?_ ?_); (focus rfl)))
  | ((fail_if_success (fail_if_success (with_reducible show wpAny _ _ (exec _ _) _ _ _))); fail_if_success ((with_reducible refine st_exec ?_ ?_); (focus rfl)))
  | ((fail_if_success (with_reducible show wpAny _ _ (execs _ _) _ _ _)); (fail_if_success (with_reducible show wpAny _ _ (exec _ _) _ _ _)); (fail_if_success (with_reducible show wpAny _ _ (eval (Expr.ListComp _ _ _ _) _) _ _ _)); (fail_if_success (with_reducible show wpAny _ _ (pyIter _) _ _ _)); (fail_if_success (with_reducible show wpAny _ _ (truthy (Value.str (tx _) _)) _ _ _))))
local macro_rules | `(tactic| walk_at "go") => `(tactic| repeat' (first
  | (k_unfold; (try dsimp only))
  | (walk_at "noloop"; walk1)
  | (dsimp only; walk_at "noloop"; walk1)))
local macro_rules | `(tactic| walk_at "look") => `(tactic| ((try dsimp only); repeat' (first | exact List.forall_mem_nil _ | (refine List.forall_mem_cons.mpr ⟨by with_unfolding_all rfl, ?_⟩))))
local macro_rules | `(tactic| walk_at "ix") => `(tactic| first | omega | (simp only [List.length_take, List.length_drop] at *; omega))
local macro_rules | `(tactic| walk_at "subscriptTail Name Name str int") => `(tactic| ((with_reducible show wpAny _ _ (subscriptTail _ _ (Value.str (tx _) _) (Value.int _ _)) _ _ _); refine r_item (by walk_at "ix") (by walk_at "ix") (by walk_at "ix") ?_))
local macro_rules | `(tactic| walk_at "subscriptTail Name BinOp str int") => `(tactic| ((with_reducible show wpAny _ _ (subscriptTail _ _ (Value.str (tx _) _) (Value.int _ _)) _ _ _); refine r_item (by walk_at "ix") (by walk_at "ix") (by walk_at "ix") ?_))
local macro_rules | `(tactic| walk_at "compareOp In str str") => `(tactic| ((with_reducible show wpAny _ _ (compareOp _ (Value.str (tx _) _) (Value.str _ _)) _ _ _); refine r_in ?_))
local macro_rules | `(tactic| walk_at "compareOp NotIn str str") => `(tactic| ((with_reducible show wpAny _ _ (compareOp _ (Value.str (tx _) _) (Value.str _ _)) _ _ _); refine r_notin ?_))
local macro_rules | `(tactic| walk_at "compareOp Eq str str") => `(tactic| ((with_reducible show wpAny _ _ (compareOp _ (Value.str (tx _) _) (Value.str _ _)) _ _ _); refine r_eq ?_))
local macro_rules | `(tactic| walk_at "compareOp NotEq str str") => `(tactic| ((with_reducible show wpAny _ _ (compareOp _ (Value.str (tx _) _) (Value.str _ _)) _ _ _); refine r_ne ?_))
local macro_rules | `(tactic| walk_at "call builtin:ord") => `(tactic| ((with_reducible show wpAny _ _ (call _ [Value.str (tx _) _]) _ _ _); refine r_ord ?_))
local macro_rules | `(tactic| walk_at "call builtin:len") => `(tactic| ((with_reducible show wpAny _ _ (call _ [Value.str (tx _) _]) _ _ _); refine r_len (by walk_at "ix") ?_))
local macro_rules | `(tactic| walk_at "compareOp In str str") => `(tactic| ((with_reducible show wpAny _ _ (compareOp _ (Value.str (tx _) _) (Value.str _ _)) _ _ _); first | refine r_in2 isWs H_ws ?_ | refine r_in2 isBl H_bl ?_ | refine r_in2 isNl H_nl ?_ | refine r_in2 isBad H_bad ?_ | refine r_in2 isPu H_pu ?_))
local macro_rules | `(tactic| walk_at "compareOp NotIn str str") => `(tactic| ((with_reducible show wpAny _ _ (compareOp _ (Value.str (tx _) _) (Value.str _ _)) _ _ _); first | refine r_notin2 isWs H_ws ?_ | refine r_notin2 isPu H_pu ?_))
local macro_rules | `(tactic| walk_at "compareOp Eq str str") => `(tactic| ((with_reducible show wpAny _ _ (compareOp _ (Value.str (tx _) _) (Value.str _ _)) _ _ _); first | refine r_eq1 L_lt ?_ | refine r_eq1 L_gt ?_ | refine r_eq1 L_bs ?_ | refine r_eq1 L_lp ?_ | refine r_eq1 L_rp ?_ | refine r_eq1 L_del ?_ | refine r_eq1 L_nul ?_ | refine r_eq1 L_n ?_ | refine r_eq1 L_r ?_))
local macro_rules | `(tactic| walk_at "compareOp NotEq str str") => `(tactic| ((with_reducible show wpAny _ _ (compareOp _ (Value.str (tx _) _) (Value.str _ _)) _ _ _); first | refine r_ne1 L_rp ?_))
local macro_rules | `(tactic| walk_at "subscriptTail Name Slice str ref") => `(tactic| ((with_reducible show wpAny _ _ (subscriptTail _ (Expr.Slice (some _) (some _) none _) (Value.str (tx _) _) _) _ _ _); (with_reducible rename Fr _ _ _ _ => F'); (with_reducible rename News _ _ _ _ => N'); (refine r_slice (s := ⟨_, _, _, _, _⟩) (by walk_at "ix") (by walk_at "ix") (by walk_at "ix") F' N' ?_); intro _ _ _ _ _))
local macro_rules | `(tactic| walk_at "compareOp Eq str str") => `(tactic| ((with_reducible show wpAny _ _ (compareOp _ (Value.str (tx _) _) (Value.str _ _)) _ _ _); refine r_eqL L_rn ?_))
local macro_rules | `(tactic| walk_at "fact") => `(tactic| first | assumption | exact beq_iff_eq.mp (by assumption) | exact beq_eq_false_iff_ne.mp (by assumption) | omega)
local macro_rules | `(tactic| walk_at "noesc") => `(tactic| (rintro ⟨e1, e2, e3⟩; first | exact absurd e1 (beq_eq_false_iff_ne.mp (by assumption)) | exact Bool.noConfusion (Eq.trans (Eq.symm (show isPu _ = false from by assumption)) e3) | exact absurd (Eq.trans (Eq.symm e1) (beq_iff_eq.mp (show (List.getD _ _ _ == _) = true from by assumption))) (by decide) | omega))
local macro_rules | `(tactic| walk_at "cx") => `(tactic| exact ⟨by k_asm, by k_asm, by k_asm, by k_asm, by k_asm, rfl, rfl, rfl, rfl, (by (show _ + _ < _); omega), (by (show _ + 8 * _ < _); omega)⟩)
local macro_rules | `(tactic| walk_at "call ref") => `(tactic| ((with_reducible show wpAny _ _ (call (Value.ref 137) _ _) _ _ _); refine c_begin _ _ _ _ (by walk_at "cx") (by omega) ?_; intro t9 h9 k9 F9 N9; (try dsimp only)))
local macro_rules | `(tactic| walk_at "call ref") => `(tactic| ((with_reducible show wpAny _ _ (call (Value.ref 144) _ _) _ _ _); refine c_angle _ _ _ _ (by walk_at "cx") (by omega) (by omega) ?_ ?_; (all_goals intros); (all_goals (try dsimp only))))
local macro_rules | `(tactic| walk_at "call builtin:min") => `(tactic| ((with_reducible show wpAny _ _ (call (Value.builtin _) [Value.int _ _, Value.int _ _]) _ _ _); refine r_min (by omega) rfl (by assumption) (by assumption) ?_; intro h9 t9 k9 F9 N9))
local macro_rules | `(tactic| walk_at "retx") => `(tactic| (dsimp only; refine hret' _ _ _ _ _ _ (by assumption) (by assumption) fun F2 N2 => ?_))
local macro_rules | `(tactic| walk_at "upd") => `(tactic| first | exact Upd.head (by assumption) | (refine' Upd.tail ?a ?b; (case a => k_ne); (case b => walk_at "upd")))
local macro_rules | `(tactic| walk_at "sz") => `(tactic| ((try simp only [List.size_toArray, PySem.sizeLine_eq]); omega))
local macro_rules | `(tactic| walk_at "call builtin:list.append") => `(tactic| (k_here; (with_reducible show wpAny _ _ (call (Value.builtin _) [Value.ref _, _]) _ _ _); (refine' append_K ?k1 ?k2 ?k3 ?_ ?z; (case k1 => k_asm); (case k2 => k_asm); (case k3 => walk_at "upd"); (case z => walk_at "sz"); k_whole); intro h' F' N'; (try simp only [List.push_toArray] at N'); (try k_sweep)))
local macro_rules | `(tactic| walk_at "call ref") => `(tactic| ((with_reducible show wpAny _ _ (call (Value.ref 192) _ _) _ _ _); refine c_lbegin _ _ _ _ (by walk_at "cx") (by omega) ?_; intro t9 h9 k9 F9 N9; (try dsimp only)))
local macro_rules | `(tactic| walk_at "call ref") => `(tactic| ((with_reducible show wpAny _ _ (call (Value.ref 166) _ _) _ _ _); refine c_units _ _ _ _ _ _ (by walk_at "cx") (by walk_at "ix") (by walk_at "ix") ?_; intro a9 n9 vs9 tl9 h9 k9 U9 F9 N9 d9; (try dsimp only)))
local macro_rules | `(tactic| walk_at "subscriptTail Name Constant ref int") => `(tactic| ((with_reducible show wpAny _ _ (subscriptTail _ _ (Value.ref _) (Value.int _ _)) _ _ _); (with_unfolding_all refine' item_litK ?k1 ?k2 ?k3 ?k4 ?_ ?k6; (case k1 => exact News.isList (by k_asm) (by first | k_mem | walk_at "mem")); (case k2 => decide); (case k3 => decide); (case k4 => rfl); (case k6 => with_unfolding_all rfl); k_whole)))
local macro_rules | `(tactic| walk_at "offx") => `(tactic| (intro _; repeat' (first | exact List.forall_mem_nil _ | (refine List.forall_mem_cons.mpr ⟨by (show Str.ofString _ ≠ Str.ofString _); decide, ?_⟩))))
local macro_rules | `(tactic| walk_at "sub") => `(tactic| (intro q hq; (try simp only [List.cons_append, List.append_assoc, List.mem_cons, List.mem_append, List.not_mem_nil, or_false, or_assoc] at hq ⊢); (repeat' (first | exact hq | (refine Or.elim hq (fun hq => ?_) (fun hq => ?_)) | exact Or.inl hq | (refine Or.inr ?_)))))
local macro_rules | `(tactic| walk_at "mem") => `(tactic| first | assumption | exact List.mem_cons_self | (refine List.mem_cons_of_mem _ ?_; walk_at "mem") | (refine List.mem_append_left _ ?_; walk_at "mem") | (refine List.mem_append_right _ ?_; walk_at "mem"))
local macro_rules | `(tactic| walk_at "subscriptTail Name Name ref int") => `(tactic| ((with_reducible show wpAny _ _ (subscriptTail _ _ (Value.ref _) (Value.int _ _)) _ _ _); (with_unfolding_all refine' r_unit ?k1 ?k2 ?k3 ?k4 ?k5 ?k6 ?_ ?k7; (case k1 => k_asm); (case k2 => walk_at "mem"); (case k3 => assumption); (case k4 => omega); (case k5 => omega); (case k6 => omega); (case k7 => with_unfolding_all rfl)); intro a8 t8 t7 n8 m8))
local macro_rules | `(tactic| walk_at "subscriptTail Subscript") => `(tactic| with_reducible refine r_turn ?_)
local macro_rules | `(tactic| walk_at "compareOp Eq str str") => `(tactic| ((with_reducible show wpAny _ _ (compareOp _ (Value.str (tx _) _) (Value.str (tx _) _)) _ _ _); refine r_eqT ?_))
local macro_rules | `(tactic| walk_at "compareOp NotEq str str") => `(tactic| ((with_reducible show wpAny _ _ (compareOp _ (Value.str (tx _) _) (Value.str (tx _) _)) _ _ _); refine r_neT ?_))
local macro_rules | `(tactic| walk_at "compareOp NotIn str str") => `(tactic| ((with_reducible show wpAny _ _ (compareOp _ (Value.str (tx _) _) (Value.str _ _)) _ _ _); refine r_notin2 isOp H_open ?_))
local macro_rules | `(tactic| walk_at "eval Constant str") => `(tactic| with_reducible (first | refine r_const E_rp ?_ | refine r_const E_nil ?_))
local macro_rules | `(tactic| walk_at "binaryOp Add str str") => `(tactic| ((with_reducible show wpAny _ _ (binaryOp _ (Value.str (tx _) _) (Value.str (tx _) _)) _ _ _); refine r_cat (by first | omega | (simp only [List.length_append, List.length_cons, List.length_nil]; omega)) ?_; intro t9 k9))
local macro_rules | `(tactic| walk_at "call builtin:len") => `(tactic| ((with_reducible show wpAny _ _ (call (Value.builtin "len") [Value.ref _]) _ _ _); refine r_lenU (by k_asm) (by walk_at "mem") (by assumption) (by omega) ?_; intro t9 k9))
local macro_rules | `(tactic| walk_at "eval Name") => `(tactic| first
  | ((with_reducible refine' ld ?k1 ?k2 ?_ ?k3 ?k4 ?k5); (case k4 => kernel_rfl!); (case k1 => k_asm); (case k2 => k_dflt (exact rfl)); (case k3 => k_dflt (exact rfl)); (case k5 => decide); k_whole)
  | ((with_reducible refine' name_K ?k0 ?k1 ?k2 ?k3 ?_ ?k4 ?k5 ?k6); (case k5 => kernel_rfl!); (case k0 => k_asm); (case k1 => k_asm); (case k2 => k_asm); (case k3 => k_dflt k_is); (case k4 => k_dflt (exact rfl)); (case k6 => decide); k_whole))
local macro_rules | `(tactic| walk_at "ite") => `(tactic| first | with_reducible refine ite_tt ?_ | with_reducible refine ite_ff ?_ | with_reducible refine ite_True_then ?_ | with_reducible refine ite_False_else ?_ | (k_openite; first | refine ite_pos (by with_reducible assumption) ?_ | refine ite_neg (by with_reducible assumption) ?_ | refine ite_isFalse (by with_reducible assumption) ?_ | (with_reducible refine split_ine ?_ ?_ <;> intro _) | (with_reducible refine split_ieq ?_ ?_ <;> intro _) | with_reducible refine split_not ?_ | (refine split_dec ?_ ?_ <;> intro _) | (refine split_bool ?_ ?_ <;> intro _)))
local macro_rules | `(tactic| walk_at "callWith ref") => `(tactic| first
  | ((with_reducible refine' callWith_K ?k1 ?k2 ?_ ?k3 ?k4); (case k1 => k_asm); (case k2 => k_dflt k_is); (case k3 => k_dflt (exact rfl)); (case k4 => k_dflt (exact rfl)); k_whole)
  | ((with_reducible refine' callWith_K0 ?k1 ?k2 ?_); (case k1 => k_dflt k_in); (case k2 => k_dflt k_is); k_whole)
  | ((with_reducible refine' callWith_KW ?k1 ?k2 ?k3 ?_ ?k4 ?k5); (case k1 => k_asm); (case k2 => k_dflt k_is); (case k3 => k_dflt (exact rfl)); (case k4 => k_dflt (exact rfl)); (case k5 => k_dflt (exact rfl)); k_whole))
set_option maxHeartbeats 4000000 in
theorem c_ltitle {w : World} {loose : List Str} {mean : ExcName → Option Value} {mg mb : Str → Option Value} {k dp un : Nat} {gd : Option (List Code)}
    {A₀ : Around} {env : Env} {outer : List Env} {base h₀ : Heap} {L : Addr} {m : Str → Option Value} {news : List (Addr × Obj)} {s : Shared}
    {E Q : Value → Shared → Prop} (l : List Nat) (start lim : Nat) (t1 t2 t3 : Tok)
    (C : Cx w loose mean mg mb (k + 2) ⟨none, dp, some (env :: outer), gd, un⟩ A₀ env outer base h₀ L m news s)
    (hl : l.length ≤ 1000) (hlim : lim ≤ l.length)
    (hret1 : ∀ tt e a ta tb h' tk', titleS l start lim = some (tt, e) → Fr h₀ L h' m → News h₀ L h' ((a, tupOf [.str (tx tt) ta, .int (e : Nat) tb]) :: news) → Q (.ref a) { s with heap := h', toks := tk' })
    (hret2 : ∀ a h' tk', titleS l start lim = none → Fr h₀ L h' m → News h₀ L h' ((a, tupOf [.none, .none]) :: news) → Q (.ref a) { s with heap := h', toks := tk' }) :
    wpAny (model PySem.Challenge.pw_br5019_01 w) ⟨none, dp, some (env :: outer), gd, un⟩ (call (.ref 185) [.str (tx l) t1, .int start t2, .int lim t3]) Q E s := by
  refine enter [(Str.ofString "text", .str (tx l) t1), (Str.ofString "start", .int start t2), (Str.ofString "limit", .int lim t3)] C (by k_is) (by k_is) (BindsTo.of_eq rfl) rfl rfl rfl (by decide) (locs rfl) ?_
  intro g L' h' tk Q' F' N' B' X' T' hd hu hret'
  walk_at "go"
  rename_i a9 n9 vs9 tl9 h9 k9 U9 d9 h8 h7 F9 N9
  have hul := units_length ((l.take lim).drop start) start
  have hul2 : (units ((l.take lim).drop start) start).length ≤ 1000 := by
    refine Nat.le_trans hul ?_
    simp only [List.length_drop, List.length_take]
    omega
  clear hul
  have hS : titleS l start lim = if skipU isWs (units ((l.take lim).drop start) start) 0 ≠ 0 ∧ skipU isWs (units ((l.take lim).drop start) start) 0 < (units ((l.take lim).drop start) start).length ∧ ((units ((l.take lim).drop start) start).getD (skipU isWs (units ((l.take lim).drop start) start) 0) uD).2.1 = false ∧ isOp ((units ((l.take lim).drop start) start).getD (skipU isWs (units ((l.take lim).drop start) start) 0) uD).1 = true then titleU ((units ((l.take lim).drop start) start).getD (skipU isWs (units ((l.take lim).drop start) start) 0) uD).1 ((units ((l.take lim).drop start) start).drop (skipU isWs (units ((l.take lim).drop start) start) 0 + 1)) [] else none := rfl
  generalize hus : units ((l.take lim).drop start) start = us at *
  refine wh (σ := Nat × Tok) (τ := Nat × Tok) (fun _ => (a9, listOf vs9.toArray n9) :: (tl9 ++ news)) (fun c => [(Str.ofString "units", .ref a9), (Str.ofString "k", .int c.1 c.2)])
    (fun c => skipU isWs (us.drop c.1) c.1 = skipU isWs us 0) (fun c => us.length - c.1) (0, _)
    (fun _ => (a9, listOf vs9.toArray n9) :: (tl9 ++ news)) (fun c => [(Str.ofString "units", .ref a9), (Str.ofString "k", .int c.1 c.2)]) (fun c => c.1 = skipU isWs us 0)
    (by assumption) (by assumption) (fun _ h => h) (by walk_at "look") rfl ?_ ?_
  · rintro ⟨k1, tk1⟩ u h tk Q' D hp F N hnext hbrk hr
    dsimp only at hp hnext hbrk F N ⊢
    walk_at "go"
    · refine (hbrk (k1, tk1) _ _ _ _ (by assumption) (by assumption) (fun _ h => h) (by walk_at "look") ?_).2
      rw [← hp]; exact skipU_g (by omega) (by assumption)
    · refine' (hnext (k1 + 1, _) _ _ _ _ (by assumption) (by assumption) (fun _ h => h) ?gL1 ?gP1 ?gM1).1
      case gL1 => walk_at "look"
      case gP1 => rw [← hp]; exact skipU_t (by omega) (by assumption) (by assumption)
      case gM1 => dsimp only; omega
    · refine (hbrk (k1, tk1) _ _ _ _ (by assumption) (by assumption) (fun _ h => h) (by walk_at "look") ?_).2
      rw [← hp]; exact skipU_f (by omega) (by assumption)
    · refine (hbrk (k1, tk1) _ _ _ _ (by assumption) (by assumption) (fun _ h => h) (by walk_at "look") ?_).2
      rw [← hp]; exact skipU_e (by omega)
  · rintro ⟨k1, tk1⟩ u h tk hx F N
    dsimp only at hx F N ⊢
    rw [← hx] at hS
    have hkl : k1 ≤ us.length := by rw [hx]; exact skipU_le us
    walk_at "go"
    (try dsimp only)
    with_reducible (refine ifm (h₀ := g) (L := L') (τ := Unit) (fun _ => (a9, listOf vs9.toArray n9) :: (tl9 ++ news)) (fun _ => [(Str.ofString "units", .ref a9), (Str.ofString "k", .int k1 tk1)]) (fun b _ => b = false ↔ (k1 ≠ 0 ∧ k1 < us.length ∧ (us.getD k1 uD).2.1 = false ∧ isOp (us.getD k1 uD).1 = true)) ?_ ?_ ?_)
    · intro D hD
      dsimp only at hD ⊢
      walk_at "go"
      all_goals
        refine hD _ () _ _ _ _ (by assumption) (by assumption) (fun _ h => h) (by walk_at "look") ?_
      iterate 3
        · refine ⟨fun e => Bool.noConfusion e, ?_⟩
          rintro ⟨e0, e1, e2, e3⟩
          exfalso
          first
          | omega
          | exact Bool.noConfusion (Eq.trans (Eq.symm (show (List.getD us k1 uD).2.1 = true from by assumption)) e2)
      · exact ⟨fun _ => ⟨by omega, by omega, by assumption, by assumption⟩, fun _ => rfl⟩
      · refine ⟨fun e => Bool.noConfusion e, ?_⟩
        rintro ⟨e0, e1, e2, e3⟩
        exact Bool.noConfusion (Eq.trans (Eq.symm (show isOp _ = false from by assumption)) e3)
    · rintro ⟨⟩ u h tk hc F N
      dsimp only at hc F N ⊢
      walk_at "go"
      dsimp only
      refine hret' _ _ _ _ _ _ (by assumption) (by assumption) fun F2 N3 => ?_
      refine hret2 _ _ _ ?_ F2 (subN N3 (by walk_at "sub"))
      rw [hS, if_neg (fun e => Bool.noConfusion (hc.mpr e))]
    · rintro ⟨⟩ u h tk hc F N
      obtain ⟨hk0, hk1, he1, ho1⟩ := hc.mp rfl
      rw [if_pos ⟨hk0, hk1, he1, ho1⟩] at hS
      dsimp only at F N ⊢
      walk_at "go"
      (try dsimp only)
      (try dsimp only)
      with_reducible (refine cut (h₀ := g) (L := L') (τ := Nat × Tok × Tok) (fun _ => (a9, listOf vs9.toArray n9) :: (tl9 ++ news)) (fun c => [(Str.ofString "units", .ref a9), (Str.ofString "k", .int k1 tk1), (Str.ofString "opener", .str (tx [(us.getD k1 uD).1]) c.2.1), (Str.ofString "closer", .str (tx [c.1]) c.2.2)]) (fun c => c.1 = clOf (us.getD k1 uD).1) ?_ ?_)
      · intro D hD
        dsimp only at hD ⊢
        walk_at "go"
        · refine' hD (41, _, _) _ _ _ _ (by assumption) (by assumption) (fun _ h => h) ?gL2 ?gP2
          case gL2 => walk_at "look"
          case gP2 => unfold clOf; rw [if_pos (by assumption)]
        · refine' hD ((us.getD k1 uD).1, _, _) _ _ _ _ (by assumption) (by assumption) (fun _ h => h) ?gL3 ?gP3
          case gL3 => walk_at "look"
          case gP3 => unfold clOf; rw [if_neg (by rw [Bool.not_eq_true]; assumption)]
      · rintro ⟨cl, to, tc⟩ u h tk hcl F N
        dsimp only at hcl F N ⊢
        obtain ⟨op, hop⟩ : ∃ op, op = (us.getD k1 uD).1 := ⟨_, rfl⟩
        rw [← hop] at hcl hS F
        walk_at "go"
        refine wh (σ := Nat × List Nat × Tok × Tok) (τ := Unit) (fun _ => (a9, listOf vs9.toArray n9) :: (tl9 ++ news)) (fun c => [(Str.ofString "units", .ref a9), (Str.ofString "opener", .str (tx [op]) to), (Str.ofString "closer", .str (tx [cl]) tc), (Str.ofString "told", .str (tx c.2.1) c.2.2.1), (Str.ofString "k", .int c.1 c.2.2.2)])
          (fun c => c.2.1.length ≤ c.1 ∧ c.1 ≤ us.length ∧ titleU op (us.drop c.1) c.2.1 = titleS l start lim) (fun c => us.length - c.1) (k1 + 1, [], _, _)
          (fun _ => (a9, listOf vs9.toArray n9) :: (tl9 ++ news)) (fun c => []) (fun c => titleS l start lim = none)
          (by assumption) (by assumption) (fun _ h => h) (by walk_at "look") ⟨Nat.zero_le _, hk1, hS.symm⟩ ?_ ?_
        · rintro ⟨k2, acc, tt, tk2⟩ u h tk Q' D ⟨hal, hkl2, hp⟩ F N hnext hbrk hr
          dsimp only at hal hkl2 hp hnext hbrk F N ⊢
          walk_at "go"
          · (try dsimp only)
            have hk2 : k2 < us.length := by omega
            rw [title_if hk2] at hp
            (try dsimp only)
            with_reducible (refine cut (h₀ := g) (L := L') (τ := Tok) (fun _ => (a9, listOf vs9.toArray n9) :: (tl9 ++ news)) (fun c => [(Str.ofString "units", .ref a9), (Str.ofString "opener", .str (tx [op]) to), (Str.ofString "closer", .str (tx [cl]) tc), (Str.ofString "told", .str (tx (acc ++ [(us.getD k2 uD).1])) c), (Str.ofString "k", .int k2 tk2)]) (fun _ => titleU op (us.drop (k2 + 1)) (acc ++ [(us.getD k2 uD).1]) = titleS l start lim) ?_ ?_)
            · intro D hD
              dsimp only at hD ⊢
              walk_at "go"
              · refine' hD _ _ _ _ _ (by assumption) (by assumption) (fun _ h => h) ?gL4 ?gP4
                case gL4 => walk_at "look"
                case gP4 => rw [if_pos (show (us.getD k2 uD).2.1 = true from by assumption)] at hp; exact hp
              · rw [if_neg (by rw [Bool.not_eq_true]; assumption : ¬ (us.getD k2 uD).2.1 = true)] at hp
                (try dsimp only)
                with_reducible (refine ifm (h₀ := g) (L := L') (τ := Tok) (fun _ => (a9, listOf vs9.toArray n9) :: (tl9 ++ news)) (fun c => [(Str.ofString "units", .ref a9), (Str.ofString "opener", .str (tx [op]) to), (Str.ofString "closer", .str (tx [cl]) tc), (Str.ofString "told", .str (tx acc) tt), (Str.ofString "k", .int k2 tk2), (Str.ofString "sign", .str (tx [(us.getD k2 uD).1]) c)]) (fun b _ => b = ((us.getD k2 uD).1 == 0 || ((us.getD k2 uD).1 == 40 && op == 40))) ?_ ?_ ?_)
                · intro D2 hD2
                  dsimp only at hD2 ⊢
                  walk_at "go"
                  all_goals
                    refine' hD2 _ _ _ _ _ _ (by assumption) (by assumption) (fun _ h => h) ?gL5 ?gP5
                    case gL5 => walk_at "look"
                    case gP5 =>
                      first
                      | (rw [show ((us.getD k2 uD).1 == 0) = true from by assumption]; rfl)
                      | (rw [show ((us.getD k2 uD).1 == 0) = false from by assumption, show ((us.getD k2 uD).1 == 40) = false from by assumption]; rfl)
                      | (rw [show ((us.getD k2 uD).1 == 0) = false from by assumption, show ((us.getD k2 uD).1 == 40) = true from by assumption, show (op == 40) = true from by assumption]; rfl)
                      | (rw [show ((us.getD k2 uD).1 == 0) = false from by assumption, show ((us.getD k2 uD).1 == 40) = true from by assumption, show (op == 40) = false from by assumption]; rfl)
                · rintro ts u h tk hc F N
                  dsimp only at hc F N ⊢
                  rw [if_pos hc.symm] at hp
                  walk_at "go"
                  refine hr _ _ ?_
                  dsimp only
                  refine hret' _ _ _ _ _ _ (by assumption) (by assumption) fun F2 N3 => ?_
                  exact hret2 _ _ _ hp.symm F2 (subN N3 (by walk_at "sub"))
                · rintro ts u h tk hc F N
                  dsimp only at hc F N ⊢
                  rw [if_neg (by rw [← hc]; exact Bool.false_ne_true)] at hp
                  walk_at "go"
                  (try dsimp only)
                  (try dsimp only)
                  with_reducible (refine cut (h₀ := g) (L := L') (τ := Tok) (fun _ => (a9, listOf vs9.toArray n9) :: (tl9 ++ news)) (fun c => [(Str.ofString "units", .ref a9), (Str.ofString "opener", .str (tx [op]) to), (Str.ofString "closer", .str (tx [cl]) tc), (Str.ofString "told", .str (tx acc) tt), (Str.ofString "k", .int k2 tk2), (Str.ofString "sign", .str (tx [(us.getD k2 uD).1]) c)]) (fun _ => ((us.getD k2 uD).1 == 10 && blankU (us.drop (k2 + 1))) = false) ?_ ?_)
                  · intro D3 hD3
                    dsimp only at hD3 ⊢
                    walk_at "go"
                    · refine wh (σ := Nat × Tok) (τ := Nat × Tok) (fun _ => (a9, listOf vs9.toArray n9) :: (tl9 ++ news)) (fun c => [(Str.ofString "units", .ref a9), (Str.ofString "opener", .str (tx [op]) to), (Str.ofString "closer", .str (tx [cl]) tc), (Str.ofString "told", .str (tx acc) tt), (Str.ofString "k", .int k2 tk2), (Str.ofString "sign", .str (tx [(us.getD k2 uD).1]) ts), (Str.ofString "ahead", .int c.1 c.2)])
                        (fun c => skipU isBl (us.drop c.1) c.1 = skipU isBl (us.drop (k2 + 1)) (k2 + 1)) (fun c => us.length - c.1) (k2 + 1, _)
                        (fun _ => (a9, listOf vs9.toArray n9) :: (tl9 ++ news)) (fun c => [(Str.ofString "units", .ref a9), (Str.ofString "opener", .str (tx [op]) to), (Str.ofString "closer", .str (tx [cl]) tc), (Str.ofString "told", .str (tx acc) tt), (Str.ofString "k", .int k2 tk2), (Str.ofString "sign", .str (tx [(us.getD k2 uD).1]) ts), (Str.ofString "ahead", .int c.1 c.2)]) (fun c => c.1 = skipU isBl (us.drop (k2 + 1)) (k2 + 1))
                        (by assumption) (by assumption) (fun _ h => h) (by walk_at "look") rfl ?_ ?_
                      · rintro ⟨k3, tk3⟩ u h tk Q'' D4 hp3 F N hnext3 hbrk3 hr3
                        dsimp only at hp3 hnext3 hbrk3 F N ⊢
                        walk_at "go"
                        · refine (hbrk3 (k3, tk3) _ _ _ _ (by assumption) (by assumption) (fun _ h => h) (by walk_at "look") ?_).2
                          rw [← hp3]; exact skipU_g (by omega) (by assumption)
                        · refine' (hnext3 (k3 + 1, _) _ _ _ _ (by assumption) (by assumption) (fun _ h => h) ?gL6 ?gP6 ?gM6).1
                          case gL6 => walk_at "look"
                          case gP6 => rw [← hp3]; exact skipU_t (by omega) (by assumption) (by assumption)
                          case gM6 => dsimp only; omega
                        · refine (hbrk3 (k3, tk3) _ _ _ _ (by assumption) (by assumption) (fun _ h => h) (by walk_at "look") ?_).2
                          rw [← hp3]; exact skipU_f (by omega) (by assumption)
                        · refine (hbrk3 (k3, tk3) _ _ _ _ (by assumption) (by assumption) (fun _ h => h) (by walk_at "look") ?_).2
                          rw [← hp3]; exact skipU_e (by omega)
                      · rintro ⟨k3, tk3⟩ u h tk hx3 F N
                        dsimp only at hx3 F N ⊢
                        have hB := blank_at us (k2 + 1) k3 hx3
                        have h10 : ((us.getD k2 uD).1 == 10) = true := by assumption
                        walk_at "go"
                        · refine hr _ _ ?_
                          dsimp only
                          refine hret' _ _ _ _ _ _ (by assumption) (by assumption) fun F2 N3 => ?_
                          refine hret2 _ _ _ ?_ F2 (subN N3 (by walk_at "sub"))
                          rw [if_pos (by rw [h10, hB, decide_eq_true (show k3 < us.length by omega), show ((us.getD k3 uD).1 == 10) = true from by assumption]; rfl)] at hp
                          exact hp.symm
                        · refine' hD3 _ _ _ _ _ (by assumption) (by assumption) (fun _ h => h) ?gL7 ?gP7
                          case gL7 => walk_at "look"
                          case gP7 => rw [hB, show ((us.getD k3 uD).1 == 10) = false from by assumption, Bool.and_false, Bool.and_false]
                        · refine' hD3 _ _ _ _ _ (by assumption) (by assumption) (fun _ h => h) ?gL8 ?gP8
                          case gL8 => walk_at "look"
                          case gP8 => rw [hB, decide_eq_false (show ¬ k3 < us.length by omega), Bool.false_and, Bool.and_false]
                    · (try dsimp only)
                      refine' hD3 _ _ _ _ _ (by assumption) (by assumption) (fun _ h => h) ?gL9 ?gP9
                      case gL9 => walk_at "look"
                      case gP9 => rw [show ((us.getD k2 uD).1 == 10) = false from by assumption, Bool.false_and]
                  · rintro ts u h tk hb F N
                    dsimp only at hb F N ⊢
                    rw [if_neg (by rw [hb]; exact Bool.false_ne_true)] at hp
                    walk_at "go"
                    · refine hr _ _ ?_
                      dsimp only
                      refine hret' _ _ _ _ _ _ (by assumption) (by assumption) fun F2 N3 => ?_
                      refine hret1 _ _ _ _ _ _ _ ?_ F2 (subN N3 (by walk_at "sub"))
                      rw [if_pos (show ((us.getD k2 uD).1 == clOf op) = true from by rw [← hcl]; assumption)] at hp
                      exact hp.symm
                    · refine' hD _ _ _ _ _ (by assumption) (by assumption) (fun _ h => h) ?gL10 ?gP10
                      case gL10 => walk_at "look"
                      case gP10 =>
                        rw [if_neg (show ¬ ((us.getD k2 uD).1 == clOf op) = true from by rw [← hcl, Bool.not_eq_true]; assumption)] at hp
                        exact hp
            · rintro ts u h tk hq F N
              dsimp only at hq F N ⊢
              walk_at "go"
              (try dsimp only)
              refine' (hnext (k2 + 1, _, _, _) _ _ _ _ (by assumption) (by assumption) (fun _ h => h) ?gL11 ?gP11 ?gM11).1
              case gL11 => walk_at "look"
              case gP11 => exact ⟨by simp only [List.length_append, List.length_cons, List.length_nil]; omega, by dsimp only; omega, hq⟩
              case gM11 => dsimp only; omega
          · refine (hbrk () _ _ _ _ (by assumption) (by assumption) (fun _ h => h) (by walk_at "look") ?_).2
            rw [← hp]; exact title_end (by omega)
        · rintro ⟨⟩ u h tk hx F N
          dsimp only at hx F N ⊢
          walk_at "go"
          dsimp only
          refine hret' _ _ _ _ _ _ (by assumption) (by assumption) fun F2 N3 => ?_
          exact hret2 _ _ _ hx F2 (subN N3 (by walk_at "sub"))

end Mine
end
noncomputable section
open Lean PySem PySem.W PySem.Spec PySem.Calls PyProof.Rows
set_option maxRecDepth 100000
namespace Mine.R
theorem pa_pat : PlainAttrs "re.Pattern" :=
  ⟨⟨"object.__getattribute__", by rw [typeLookup_type, builtinLookup_eq_fast]; kernel_rfl, by decide +kernel⟩, by rw [typeLookup_type, builtinLookup_eq_fast]; kernel_rfl⟩
theorem pa_mat : PlainAttrs "re.Match" :=
  ⟨⟨"object.__getattribute__", by rw [typeLookup_type, builtinLookup_eq_fast]; kernel_rfl, by decide +kernel⟩, by rw [typeLookup_type, builtinLookup_eq_fast]; kernel_rfl⟩
theorem slot_sub : Slot "re.Pattern" "sub" "re.Pattern.sub" :=
  .of (owner := "re.Pattern") (n := "sub") (by rw [typeLookup_type, builtinLookup_eq_fast]; kernel_rfl) (by decide +kernel) (by decide +kernel) (by decide +kernel)
    (by first | exact .inl (by decide +kernel) | exact .inr (by decide +kernel)) (by rw [isSubtype_type]; kernel_rfl)
theorem type_sub : typeOf (.builtin "re.Pattern.sub") = pure (.type "method_descriptor") := by show builtinType _ = _; rw [builtinType_eq_fast]; kernel_rfl
theorem entry_sub : entryFor table "re.Pattern.sub" = some Builtin.«re.Pattern.sub» := entryFor_of_tree (by kernel_rfl)
theorem slot_match : Slot "re.Pattern" "match" "re.Pattern.match" :=
  .of (owner := "re.Pattern") (n := "match") (by rw [typeLookup_type, builtinLookup_eq_fast]; kernel_rfl) (by decide +kernel) (by decide +kernel) (by decide +kernel)
    (by first | exact .inl (by decide +kernel) | exact .inr (by decide +kernel)) (by rw [isSubtype_type]; kernel_rfl)
theorem type_match : typeOf (.builtin "re.Pattern.match") = pure (.type "method_descriptor") := by show builtinType _ = _; rw [builtinType_eq_fast]; kernel_rfl
theorem entry_match : entryFor table "re.Pattern.match" = some Builtin.«re.Pattern.match» := entryFor_of_tree (by kernel_rfl)
theorem slot_group : Slot "re.Match" "group" "re.Match.group" :=
  .of (owner := "re.Match") (n := "group") (by rw [typeLookup_type, builtinLookup_eq_fast]; kernel_rfl) (by decide +kernel) (by decide +kernel) (by decide +kernel)
    (by first | exact .inl (by decide +kernel) | exact .inr (by decide +kernel)) (by rw [isSubtype_type]; kernel_rfl)
theorem type_group : typeOf (.builtin "re.Match.group") = pure (.type "method_descriptor") := by show builtinType _ = _; rw [builtinType_eq_fast]; kernel_rfl
theorem entry_group : entryFor table "re.Match.group" = some Builtin.«re.Match.group» := entryFor_of_tree (by kernel_rfl)
theorem entry_loop : entryFor table "re.Pattern.sub.loop" = some Builtin.«re.Pattern.sub.loop» := entryFor_of_tree (by kernel_rfl)
theorem plain_loop : plainId "re.Pattern.sub.loop" = true := by decide +kernel
theorem args_sub (a b c : Value) : argsOk "re.Pattern.sub" ⟨[a, b, c], []⟩ := by unfold argsOk; kernel_rfl
theorem args_match (a b c d : Value) : argsOk "re.Pattern.match" ⟨[a, b, c, d], []⟩ := by unfold argsOk; kernel_rfl
theorem args_group (a b : Value) : argsOk "re.Match.group" ⟨[a, b], []⟩ := by unfold argsOk; kernel_rfl
theorem no_call : typeLookup (.type "function") "__call__" = pure (some (.builtin "function.__call__")) := by rw [typeLookup_type, builtinLookup_eq_fast]; kernel_rfl
theorem no_bool : typeLookup (.type "re.Match") "__bool__" = pure none := by rw [typeLookup_type, builtinLookup_eq_fast]; kernel_rfl
theorem no_len : typeLookup (.type "re.Match") "__len__" = pure none := by rw [typeLookup_type, builtinLookup_eq_fast]; kernel_rfl
end Mine.R
end
noncomputable section
open Lean PySem PySem.W PySem.Spec PySem.Calls PyProof.Rows
set_option maxRecDepth 100000
namespace Mine
open PySem.Sre
def ESC : Array Nat := #[14, 8, 1, 2, 2, 1, 1, 92, 0, 16, 92, 17, 0, 13, 11, 9, 0, 4227923966, 4160749569, 2013265921, 0, 0, 0, 0, 0, 17, 1, 1]
theorem runFor_done {m : M} (h : m.outcome.isSome = true) : ∀ n, M.runFor n m = m
  | 0 => rfl
  | n + 1 => by show (if m.outcome.isSome = true then m else _) = m; rw [if_pos h]
theorem runFor_step {m : M} (h : m.outcome = none) (n : Nat) : M.runFor (n + 1) m = M.runFor n m.step := by
  show (if m.outcome.isSome = true then m else _) = _
  rw [h]; rfl
theorem runFor_add (a b : Nat) (m : M) : M.runFor (a + b) m = M.runFor b (M.runFor a m) := by
  induction a generalizing m with
  | zero => simp [M.runFor]
  | succ a ih =>
    by_cases h : m.outcome.isSome = true
    · rw [runFor_done h, runFor_done h, runFor_done h]
    · have h' : m.outcome = none := by simpa using h
      rw [show a + 1 + b = (a + b) + 1 by omega, runFor_step h', runFor_step h', ih]
theorem drive_ok {MM : Model} {A : Around} {E : Value → Shared → Prop} {s : Shared} {Q : M → Shared → Prop} (k : Nat) : ∀ (turns : Nat) (m : M), (M.runFor k m).outcome.isSome = true → k ≤ 4 * turns → 0 < turns → Q (M.runFor k m) s → wpAny MM A (Builtin.Re.reDrive turns m) Q E s := by
  intro turns
  induction turns generalizing k with
  | zero => intro m _ _ h; omega
  | succ turns ih =>
    intro m h1 h2 _ hq
    show wpAny MM A (if (M.runFor 4 m).outcome.isSome = true then pure (M.runFor 4 m) else (do rule "sre.turn"; Builtin.Re.reDrive turns (M.runFor 4 m))) Q E s
    by_cases hd : (M.runFor 4 m).outcome.isSome = true
    · rw [if_pos hd]
      refine wpAny_pure ?_
      have e : M.runFor 4 m = M.runFor k m := by
        by_cases hk : k ≤ 4
        · rw [show 4 = k + (4 - k) by omega, runFor_add, runFor_done h1]
        · rw [show k = 4 + (k - 4) by omega, runFor_add, runFor_done hd]
      rw [e]; exact hq
    · rw [if_neg hd]
      have hk : ¬ k ≤ 4 := by
        intro hk
        apply hd
        rw [show 4 = k + (4 - k) by omega, runFor_add, runFor_done h1]
        exact h1
      have e : M.runFor k m = M.runFor (k - 4) (M.runFor 4 m) := by rw [← runFor_add]; congr 1; omega
      rw [e] at h1 hq
      exact wpAny_bind (wpAny_rule (ih (k - 4) _ h1 (by omega) (by omega) hq))
theorem rules_ok {MM : Model} {A : Around} {E : Value → Shared → Prop} {s : Shared} (c : Nat → Bool) (nm : Nat → String) {Q : PUnit → Shared → Prop} : ∀ (l : List Nat), Q ⟨⟩ s →
    wpAny MM A (forIn (m := Sem) l PUnit.unit fun i _ => do
      if c i = true then
        rule (nm i)
        pure (ForInStep.yield PUnit.unit)
      else pure (ForInStep.yield PUnit.unit)) Q E s := by
  intro l hq
  induction l with
  | nil => exact wpAny_pure hq
  | cons i l ih =>
    rw [List.forIn_cons]
    refine wpAny_bind ?_
    by_cases h : c i = true
    · rw [if_pos h]; exact wpAny_bind (wpAny_rule (wpAny_pure ih))
    · rw [if_neg h]; exact wpAny_pure ih
theorem end_ok {MM : Model} {A : Around} {E : Value → Shared → Prop} {s : Shared} {Q : Option M → Shared → Prop} (k : Nat) (m : M) (hk : k ≤ 1000000) (h : (M.runFor k m).outcome = some .matched ∧ Q (some (M.runFor k m)) s ∨ (M.runFor k m).outcome = some .failed ∧ Q none s) :
    wpAny MM A (Builtin.Re.reRunToEnd m) Q E s := by
  unfold Builtin.Re.reRunToEnd
  refine wpAny_bind (drive_ok k _ m ?_ (Nat.le_trans hk (by decide)) (by decide) ?_)
  · rcases h with h | h <;> rw [h.1] <;> rfl
  · refine wpAny_bind (rules_ok (fun i => (M.runFor k m).seen.has i) (fun i => Sre.names.getD i "") _ ?_)
    rcases h with h | h
    · rw [h.1]; exact wpAny_pure h.2
    · rw [h.1]; exact wpAny_pure h.2

def fr0 (s : Nat) (first : Bool) : Sre.Frame := { wait := .nextStart, pc := 9, pos := s, outermost := first }
def K (t : Array Nat) (lim st pc pos hd : Nat) (ob : Bool) (x y : Option Nat) (lm li : Int) (fr : List Sre.Frame) (wt : Nat) (an : Option Bool) (sn : Sre.Seen) (oc : Option Sre.Outcome) : M :=
  { code := ESC, text := t, lim, start := st, lastStart := lim, pc, pos, handed := hd, outermost := ob, marks := #[x, y], lastmark := lm, lastindex := li, frames := fr, weight := wt, answer := an, seen := sn, outcome := oc }
section
variable {t : Array Nat} {lim st pos hd : Nat} {ob : Bool} {x y : Option Nat} {lm li : Int} {fr : List Sre.Frame} {wt : Nat} {sn : Sre.Seen}
theorem k_lit0 (h : ¬ pos < lim) : ∃ sn', (K t lim st 9 pos hd ob x y lm li fr wt none sn none).step = K t lim st 9 pos hd ob x y lm li fr wt (some false) sn' none := by
  refine ⟨sn.add 16, ?_⟩
  show (if pos ≥ lim then _ else _) = _
  rw [if_pos (by omega)]
  rfl
theorem k_lit (h : pos < lim) : ∃ sn', (K t lim st 9 pos hd ob x y lm li fr wt none sn none).step = if t.getD pos 0 = 92 then K t lim st 11 (pos + 1) hd ob x y lm li fr wt none sn' none else K t lim st 9 pos hd ob x y lm li fr wt (some false) sn' none := by
  refine ⟨sn.add 16, ?_⟩
  show (if pos ≥ lim then _ else _) = _
  rw [if_neg (by omega)]
  show (match (Except.ok (t.getD pos 0 == 92, sn.add 16) : Except String (Bool × Sre.Seen)) with | .error why => _ | .ok (false, seen) => _ | .ok (true, seen) => _) = _
  by_cases h2 : t.getD pos 0 = 92
  · rw [if_pos h2, show (t.getD pos 0 == 92) = true from beq_iff_eq.mpr h2]; rfl
  · rw [if_neg h2, show (t.getD pos 0 == 92) = false from beq_eq_false_iff_ne.mpr h2]; rfl
theorem k_mark0 : ∃ sn', (K t lim st 11 pos hd ob x y (-1) li fr wt none sn none).step = K t lim st 13 pos hd ob (some pos) y 0 li fr wt none sn' none := ⟨_, rfl⟩
theorem pu_set (c : Nat) : (decide (c < 256) && (ESC.getD (15 + (1 + c / 32)) 0).testBit (c % 32)) = isPu c := by
  by_cases h : c < 256
  · have : ∀ c < 256, (decide (c < 256) && (ESC.getD (15 + (1 + c / 32)) 0).testBit (c % 32)) = isPu c := by decide +kernel
    exact this c h
  · rw [decide_eq_false h, Bool.false_and]
    unfold isPu
    simp only [List.contains_eq_mem, List.mem_cons, List.not_mem_nil, or_false]
    exact (decide_eq_false (by omega)).symm
theorem k_in0 (h : ¬ pos < lim) : ∃ sn', (K t lim st 13 pos hd ob x y lm li fr wt none sn none).step = K t lim st 13 pos hd ob x y lm li fr wt (some false) sn' none := by
  refine ⟨sn.add 13, ?_⟩
  show (if pos ≥ lim then _ else _) = _
  rw [if_pos (by omega)]
  rfl
theorem k_in (h : pos < lim) : ∃ sn', (K t lim st 13 pos hd ob x y lm li fr wt none sn none).step = if isPu (t.getD pos 0) = true then K t lim st 25 (pos + 1) hd ob x y lm li fr wt none sn' none else K t lim st 13 pos hd ob x y lm li fr wt (some false) sn' none := by
  have key : ∃ sn', accepts ESC 13 (t.getD pos 0) (sn.add 13) = .ok (isPu (t.getD pos 0), sn') := by
    rw [← pu_set]
    generalize t.getD pos 0 = c
    have e : accepts ESC 13 c (sn.add 13) = if (decide (c < 256) && (ESC.getD (15 + (1 + c / 32)) 0).testBit (c % 32)) = true then .ok (true, (sn.add 13).add 9) else .ok (false, ((sn.add 13).add 9).add 0) := rfl
    cases hb : (decide (c < 256) && (ESC.getD (15 + (1 + c / 32)) 0).testBit (c % 32))
    · exact ⟨_, by rw [e, hb]; rfl⟩
    · exact ⟨_, by rw [e, hb]; rfl⟩
  obtain ⟨sn', hs⟩ := key
  refine ⟨sn', ?_⟩
  show (if pos ≥ lim then _ else _) = _
  rw [if_neg (by omega)]
  show (match accepts ESC 13 (t.getD pos 0) (sn.add 13) with | .error why => _ | .ok (false, seen) => _ | .ok (true, seen) => _) = _
  rw [hs]
  cases isPu (t.getD pos 0) <;> rfl
theorem k_mark1 : ∃ sn', (K t lim st 25 pos hd ob x y 0 li fr wt none sn none).step = K t lim st 27 pos hd ob x (some pos) 1 1 fr wt none sn' none := by
  refine ⟨sn.add 17, ?_⟩
  show M.mark { K t lim st 25 pos hd ob x y 0 li fr wt none sn none with seen := sn.add 17 } 1 = _
  unfold M.mark K
  simp only [show ((1 : Nat) : Int) ≤ (0 : Int) + 1 by decide, if_true]
  rfl
theorem k_succ : ∃ sn', (K t lim st 27 pos hd ob x y lm li fr wt none sn none).step = K t lim st 27 pos pos ob x y lm li fr wt (some true) sn' none := by cases ob <;> exact ⟨_, rfl⟩
theorem k_yes {s0 : Nat} {first : Bool} {pc : Nat} : (K t lim st pc pos hd ob x y lm li [fr0 s0 first] 1 (some true) sn none).step = K t lim st 9 s0 hd first x y lm li [] 0 (some true) sn none := rfl
theorem k_end {b : Bool} {pc : Nat} : (K t lim st pc pos hd ob x y lm li [] wt (some b) sn none).step = K t lim st pc pos hd ob x y lm li [] wt (some b) sn (some (if b = true then .matched else .failed)) := rfl
theorem k_no {s0 : Nat} {first : Bool} {pc : Nat} : (K t lim st pc pos hd ob x y lm li [fr0 s0 first] 1 (some false) sn none).step =
    if s0 < lim then K t lim (s0 + 1) 9 (s0 + 1) (s0 + 1) false x y (-1) (-1) [fr0 (s0 + 1) false] 1 none sn none else K t lim st 9 s0 hd first x y lm li [] 0 (some false) sn none := by
  show (if s0 < lim then _ else _) = _
  split <;> rfl
end

/-- the first escape from a place on -/
noncomputable def escAt (t : List Nat) (p : Nat) : Option Nat :=
  if h : p + 1 < t.length then (if t.getD p 0 = 92 ∧ isPu (t.getD (p + 1) 0) = true then some p else escAt t (p + 1)) else none
termination_by t.length - p
def Ends (t : List Nat) (p : Nat) (m : M) : Prop :=
  match escAt t p with
  | none => m.outcome = some .failed
  | some q => m.outcome = some .matched ∧ m.start = q ∧ m.handed = q + 2 ∧ m.marks = #[some (q + 1), some (q + 2)] ∧ m.lastmark = 1 ∧ m.lastindex = 1
theorem Ends.step {t : List Nat} {p k : Nat} {m m' : M} (ho : m.outcome = none) (hs : m.step = m') (h : Ends t p (M.runFor k m')) : Ends t p (M.runFor (k + 1) m) := by
  rw [runFor_step ho, hs]; exact h
theorem gD (t : List Nat) (p : Nat) : t.toArray.getD p 0 = t.getD p 0 := by simp [Array.getD_eq_getD_getElem?]
theorem scan_ok (t : List Nat) : ∀ (n p : Nat), t.length - p = n → p ≤ t.length → ∀ (first : Bool) (x y : Option Nat) (sn : Sre.Seen),
    ∃ k, k ≤ 6 * n + 10 ∧ Ends t p (M.runFor k (K t.toArray t.length p 9 p p first x y (-1) (-1) [fr0 p first] 1 none sn none)) := by
  intro n
  induction n with
  | zero =>
    intro p hn hp first x y sn
    obtain ⟨sn1, e1⟩ := k_lit0 (t := t.toArray) (lim := t.length) (st := p) (pos := p) (hd := p) (ob := first) (x := x) (y := y) (lm := -1) (li := -1) (fr := [fr0 p first]) (wt := 1) (sn := sn) (by omega)
    refine ⟨3, by omega, ?_⟩
    refine Ends.step rfl e1 (Ends.step rfl (k_no.trans (if_neg (by omega))) (Ends.step rfl k_end ?_))
    unfold Ends escAt
    rw [dif_neg (by omega)]
    rfl
  | succ n ih =>
    intro p hn hp first x y sn
    have hp1 : p < t.length := by omega
    obtain ⟨sn1, e1⟩ := k_lit (t := t.toArray) (lim := t.length) (st := p) (pos := p) (hd := p) (ob := first) (x := x) (y := y) (lm := -1) (li := -1) (fr := [fr0 p first]) (wt := 1) (sn := sn) hp1
    rw [gD] at e1
    have next : ∀ {m : M} (x y : Option Nat) (sn : Sre.Seen) (k0 : Nat), k0 ≤ 5 → (∀ q : Prop, q = True ∨ True) → ¬ (p + 1 < t.length ∧ t.getD p 0 = 92 ∧ isPu (t.getD (p + 1) 0) = true) → m.outcome = none →
        m.step = K t.toArray t.length (p + 1) 9 (p + 1) (p + 1) false x y (-1) (-1) [fr0 (p + 1) false] 1 none sn none → ∃ k, k ≤ 6 * n + 11 ∧ Ends t p (M.runFor k m) := by
      intro m x y sn k0 _ _ hne ho hs
      obtain ⟨k, hk, hE⟩ := ih (p + 1) (by omega) (by omega) false x y sn
      refine ⟨k + 1, by omega, Ends.step ho hs ?_⟩
      have e : escAt t p = escAt t (p + 1) := by
        conv => lhs; unfold escAt
        by_cases h2 : p + 1 < t.length
        · rw [dif_pos h2, if_neg (fun e => hne ⟨h2, e.1, e.2⟩)]
        · rw [dif_neg h2]
          unfold escAt
          rw [dif_neg (by omega)]
      unfold Ends at hE ⊢
      rw [e]; exact hE
    by_cases h92 : t.getD p 0 = 92
    · rw [if_pos h92] at e1
      obtain ⟨sn2, e2⟩ := k_mark0 (t := t.toArray) (lim := t.length) (st := p) (pos := p + 1) (hd := p) (ob := first) (x := x) (y := y) (li := -1) (fr := [fr0 p first]) (wt := 1) (sn := sn1)
      by_cases h2 : p + 1 < t.length
      · obtain ⟨sn3, e3⟩ := k_in (t := t.toArray) (lim := t.length) (st := p) (pos := p + 1) (hd := p) (ob := first) (x := some (p + 1)) (y := y) (lm := 0) (li := -1) (fr := [fr0 p first]) (wt := 1) (sn := sn2) h2
        rw [gD] at e3
        by_cases hpu : isPu (t.getD (p + 1) 0) = true
        · rw [if_pos hpu] at e3
          obtain ⟨sn4, e4⟩ := k_mark1 (t := t.toArray) (lim := t.length) (st := p) (pos := p + 2) (hd := p) (ob := first) (x := some (p + 1)) (y := y) (li := -1) (fr := [fr0 p first]) (wt := 1) (sn := sn3)
          obtain ⟨sn5, e5⟩ := k_succ (t := t.toArray) (lim := t.length) (st := p) (pos := p + 2) (hd := p) (ob := first) (x := some (p + 1)) (y := some (p + 2)) (lm := 1) (li := 1) (fr := [fr0 p first]) (wt := 1) (sn := sn4)
          refine ⟨7, by omega, ?_⟩
          refine Ends.step rfl e1 (Ends.step rfl e2 (Ends.step rfl e3 (Ends.step rfl e4 (Ends.step rfl e5 (Ends.step rfl k_yes (Ends.step rfl k_end ?_))))))
          unfold Ends escAt
          rw [dif_pos h2, if_pos ⟨h92, hpu⟩]
          exact ⟨rfl, rfl, rfl, rfl, rfl, rfl⟩
        · rw [if_neg hpu] at e3
          obtain ⟨k, hk, hE⟩ := next (some (p + 1)) y sn3 4 (by omega) (fun _ => .inr trivial) (fun e => hpu e.2.2) rfl (k_no.trans (if_pos hp1))
          exact ⟨k + 3, by omega, Ends.step rfl e1 (Ends.step rfl e2 (Ends.step rfl e3 hE))⟩
      · obtain ⟨sn3, e3⟩ := k_in0 (t := t.toArray) (lim := t.length) (st := p) (pos := p + 1) (hd := p) (ob := first) (x := some (p + 1)) (y := y) (lm := 0) (li := -1) (fr := [fr0 p first]) (wt := 1) (sn := sn2) h2
        obtain ⟨k, hk, hE⟩ := next (some (p + 1)) y sn3 4 (by omega) (fun _ => .inr trivial) (fun e => h2 e.1) rfl (k_no.trans (if_pos hp1))
        exact ⟨k + 3, by omega, Ends.step rfl e1 (Ends.step rfl e2 (Ends.step rfl e3 hE))⟩
    · rw [if_neg h92] at e1
      obtain ⟨k, hk, hE⟩ := next x y sn1 4 (by omega) (fun _ => .inr trivial) (fun e => h92 e.2.1) rfl (k_no.trans (if_pos hp1))
      exact ⟨k + 1, by omega, Ends.step rfl e1 hE⟩
theorem search_ok (t : List Nat) (p : Nat) (hp : p ≤ t.length) : ∃ k, k ≤ 6 * t.length + 12 ∧ Ends t p (M.runFor k (forSearch ESC t.toArray 1 p t.length false)) := by
  by_cases h : t.length - p < 2
  · have e : forSearch ESC t.toArray 1 p t.length false = M.say { code := ESC, text := t.toArray, lim := t.length, start := p, pc := 9, pos := p, handed := p, marks := #[none, none], seen := ({} : Sre.Seen).add 14 } false := by
      show (if (decide (p > t.length) || decide (t.length - p < 2)) = true then _ else _) = _
      rw [if_pos (by simp [h])]
      rfl
    refine ⟨1, by omega, ?_⟩
    rw [e]
    refine Ends.step rfl rfl ?_
    unfold Ends escAt
    rw [dif_neg (by omega)]
    rfl
  · have e : forSearch ESC t.toArray 1 p t.length false = K t.toArray t.length p 9 p p true none none (-1) (-1) [fr0 p true] 1 none (({} : Sre.Seen).add 14) none := by
      show (if (decide (p > t.length) || decide (t.length - p < 2)) = true then _ else _) = _
      rw [if_neg (by simp; omega)]
      rfl
    rw [e]
    obtain ⟨k, hk, hE⟩ := scan_ok t _ p rfl hp true none none (({} : Sre.Seen).add 14)
    exact ⟨k, by omega, hE⟩
end Mine
end
noncomputable section
open Lean PySem PySem.W PySem.Spec PySem.Calls PyProof.Rows
open PySem.Builtin.Re PySem.Builtin
set_option maxRecDepth 100000
namespace Mine
def patO : Obj := { cls := .type "re.Pattern", data := .fields #[.str (Str.ofString "\\\\([!\"\\#\\$%\\&'\\(\\)\\*\\+,\\-\\./:;<=>\\?@\\[\\\\\\]\\^_`\\{\\|\\}\\~])") 444, .int 32 475, .int 1 0, .none, .none, .ref 68, .int 0 0] }
def codV : Array Value := #[.int 14 0, .int 8 0, .int 1 0, .int 2 0, .int 2 0, .int 1 0, .int 1 0, .int 92 0, .int 0 0, .int 16 0, .int 92 0, .int 17 0, .int 0 0, .int 13 0, .int 11 0, .int 9 0, .int 0 0, .int 4227923966 0, .int 4160749569 0, .int 2013265921 0, .int 0 0, .int 0 0, .int 0 0, .int 0 0, .int 0 0, .int 17 0, .int 1 0, .int 1 0]
def codO : Obj := { cls := .type "tuple", data := .seq codV }
theorem codV_is : Array.map (fun x : Int => x.toNat) (Array.map reRawOf codV) = ESC := by decide +kernel
/-- what is left to tell from a place on -/
def rest (t : List Nat) (p : Nat) : List Nat := (units (t.drop p) p).map (·.1)
theorem units_shift : ∀ (l : List Nat) (p q : Nat), (units l p).map (fun u => (u.1, u.2.1)) = (units l q).map (fun u => (u.1, u.2.1))
  | [], _, _ => rfl
  | [_], _, _ => rfl
  | c :: d :: r, p, q => by
    simp only [units]
    split
    · simp only [List.map_cons]; rw [units_shift r (p + 2) (q + 2)]
    · simp only [List.map_cons]; rw [units_shift (d :: r) (p + 1) (q + 1)]
theorem rest_eq (t : List Nat) : ∀ (n p : Nat), t.length - p = n →
    match escAt t p with
    | none => rest t p = t.drop p
    | some q => p ≤ q ∧ q + 1 < t.length ∧ rest t p = (t.take q).drop p ++ ([t.getD (q + 1) 0] ++ rest t (q + 2)) := by
  intro n
  induction n with
  | zero =>
    intro p hp
    unfold escAt
    rw [dif_neg (by omega)]
    show rest t p = _
    unfold rest
    rw [units_nil (by omega), List.drop_eq_nil_of_le (by omega)]
    rfl
  | succ n ih =>
    intro p hp
    unfold escAt
    by_cases h : p + 1 < t.length
    · rw [dif_pos h]
      by_cases he : t.getD p 0 = 92 ∧ isPu (t.getD (p + 1) 0) = true
      · rw [if_pos he]
        refine ⟨Nat.le_refl _, h, ?_⟩
        show rest t p = _
        unfold rest
        rw [units_esc h he.1 he.2, show (t.take p).drop p = [] from List.drop_eq_nil_of_le (by rw [List.length_take]; omega)]
        rfl
      · rw [if_neg he]
        have e1 : rest t p = t.getD p 0 :: rest t (p + 1) := by
          unfold rest
          rw [units_one (by omega) (fun e => he ⟨e.1, e.2.2⟩)]
          rfl
        have h2 := ih (p + 1) (by omega)
        cases hq : escAt t (p + 1) with
        | none =>
          rw [hq] at h2
          show rest t p = _
          rw [e1, drop_cons (by omega : p < t.length)]
          exact congrArg _ h2
        | some q =>
          rw [hq] at h2
          obtain ⟨a, b, c⟩ := h2
          refine ⟨by omega, b, ?_⟩
          rw [e1, c]
          have e2 : (t.take q).drop p = t.getD p 0 :: (t.take q).drop (p + 1) := by
            rw [drop_cons (t := t.take q) (by rw [List.length_take]; omega), take_get (by omega)]
          rw [e2]; rfl
    · rw [dif_neg h]
      show rest t p = _
      unfold rest
      rw [units_one (by omega) (fun e => h e.2.1), units_nil (by omega), drop_cons (by omega : p < t.length), List.drop_eq_nil_of_le (by omega)]
      rfl
theorem unesc_len (t : List Nat) : (unesc t).length ≤ t.length := by
  unfold unesc; rw [List.length_map]; exact units_length t 0
theorem ext_tx (t : List Nat) (b e : Nat) : (⟨t.toArray.extract b e⟩ : Str) = tx ((t.take e).drop b) := by
  unfold tx
  rw [List.extract_toArray, List.extract_eq_take_drop, List.drop_take]
theorem join_txS : ∀ ps : List (List Nat), Str.join (tx []) (ps.map tx) = tx ps.flatten
  | [] => rfl
  | [x] => by simp [Str.join]
  | x :: y :: r => by
    have ih := join_txS (y :: r)
    simp only [List.map_cons, Str.join] at ih ⊢
    rw [ih, tx_app, tx_app, List.append_nil]
    rfl
theorem join_tx (ps : List (List Nat)) : Txt.join (tx []) (ps.map tx) = tx ps.flatten := (PySem.StrLaws.glued_eq_join _ _).trans (join_txS ps)
theorem StrsAre.snoc {vs : List Value} {ys : List Str} (h : StrsAre vs ys) (y : Str) (t : Tok) : StrsAre (vs ++ [.str y t]) (ys ++ [y]) := by
  induction h with
  | nil => exact .cons _ _ .nil
  | cons z u _ ih => exact .cons _ _ ih
theorem StrsAre.len {vs : List Value} {ys : List Str} (h : StrsAre vs ys) : vs.length = ys.length := by
  induction h with
  | nil => rfl
  | cons z u _ ih => simp [ih]
section
variable {MM : Model} {A : Around} {E : Value → Shared → Prop} {s : Shared} {h₀ : Heap} {L D q : Addr} {m : Str → Option Value} {led : List (Addr × Obj)}
def tgt (t : List Nat) (tk : Tok) : ReTarget := { pattern := .ref 69, string := .str (tx t) tk, code := ESC, text := t.toArray, kind := 0, groups := 1, pos := 0, lim := t.length }
theorem whole_ok {t : List Nat} {tk : Tok} {Q : ReTarget → Shared → Prop} (h1 : s.heap.get? 69 = some patO) (h2 : s.heap.get? 68 = some codO) (hq : Q (tgt t tk) s) :
    wpAny MM A (reWholeTarget (.ref 69) (.str (tx t) tk)) Q E s := by
  unfold reWholeTarget
  refine wpAny_bind (wpAny_bind (wpAny_load h1 (wpAny_pure ?_)))
  refine wpAny_bind (wpAny_pure ?_)
  refine wpAny_ite_false rfl ?_
  refine wpAny_ite_false rfl ?_
  refine wpAny_bind ?_
  unfold reNoCollectionInside
  refine wpAny_ite_false rfl (wpAny_pure ?_)
  refine wpAny_bind ?_
  show wpAny MM A (seqItems? (.ref 68) >>= fun x => pure ((x.getD #[]).map reRawOf)) _ E s
  refine wpAny_bind (wpAny_seqItems h2 rfl (wpAny_pure (wpAny_pure ?_)))
  rw [show (some codV).getD #[] = codV from rfl, codV_is, show (tx t).cps.size = t.length from tx_len t]
  exact hq
theorem push_ok {its : Array Value} {n : Nat} {x : Value} {Q : Unit → Shared → Prop} (F : Fr h₀ L s.heap m) (N : News h₀ L s.heap ((D, listOf its n) :: led)) (hd : ∀ p ∈ led, p.1 ≠ D) (hz : its.size ≤ 10000)
    (h : ∀ h', Fr h₀ L h' m → News h₀ L h' ((D, listOf (its.push x) (n + 1)) :: led) → Q () { s with heap := h' }) : wpAny MM A (updateSeq D (·.push x)) Q E s := by
  have z := N _ (.head _)
  refine wpAny_updateSeq z.1 rfl ?_ (by rw [sizeLine_eq]; omega) (by rw [Array.size_push, sizeLine_eq]; omega)
  have hs := Heap.SameBut.update s.heap D (Obj.mapSeq (·.push x))
  refine h _ (F.change hs z.2.1 z.2.2) (N.setHead hd hs ?_)
  rw [Heap.get?_update_self _ z.1 (by rw [mapSeq_push]; rfl), mapSeq_push]
end

section
variable {prog : Program} {w : World} {A : Around} {E : Value → Shared → Prop} {s : Shared} {h₀ : Heap} {L D q : Addr} {m : Str → Option Value} {RR : Result → Shared → Prop}
def matO (t : List Nat) (tk : Tok) (T : Addr) : Obj := { cls := .type "re.Match", data := .fields #[.str (tx t) tk, .ref 69, .int 0 0, .int t.length 0, .int 1 0, .ref T] }
def spnO (p : Nat) : Obj := { cls := .type "tuple", data := .seq #[.int p 0, .int (p + 2 : Nat) 0, .int (p + 1 : Nat) 0, .int (p + 2 : Nat) 0] }
theorem slice_ok {MM : Model} {t : List Nat} {b e : Nat} {Q : Value → Shared → Prop} (hlen : t.length ≤ 1000) (h : ∀ tv tk, Q (.str (tx ((t.take e).drop b)) tv) { s with toks := tk }) : wpAny MM A (reSlice t.toArray 0 b e) Q E s := by
  unfold reSlice
  refine wpAny_ite_true rfl ?_
  rw [ext_tx]
  refine wpAny_mkStr (h _ _) ?_
  rw [tx_len, sizeLine_eq, List.length_drop, List.length_take]
  omega
theorem newMatch_ok {MM : Model} {t : List Nat} {tk : Tok} {q1 : Nat} {mm : Sre.M} {news : List (Addr × Obj)} {Q : Value → Shared → Prop} (g2 : mm.start = q1) (g3 : mm.handed = q1 + 2) (g4 : mm.marks = #[some (q1 + 1), some (q1 + 2)]) (g5 : mm.lastmark = 1) (g6 : mm.lastindex = 1)
    (F : Fr h₀ L s.heap m) (N : News h₀ L s.heap news)
    (h : ∀ Ma T h', Fr h₀ L h' m → News h₀ L h' ((Ma, matO t tk T) :: (T, spnO q1) :: news) → Q (.ref Ma) { s with heap := h' }) :
    wpAny MM A (reNewMatch (.ref 69) (.str (tx t) tk) 1 0 t.length mm) Q E s := by
  unfold reNewMatch
  simp only [g2, g3, g4, g5, g6]
  refine wpAny_ite_false ?_ ?_
  · simp [List.range, List.range.loop]
  · refine wpAny_bind (newTuple_N F N (fun h1 F1 N1 => ?_) (by show (4 : Nat) ≤ sizeLine; rw [sizeLine_eq]; omega))
    refine wpAny_newObj_type ?_ (by show (6 : Nat) ≤ sizeLine + 2; rw [sizeLine_eq]; omega)
    exact h _ _ _ (F1.push _) (N1.push F1 _)
theorem loop_ok {t : List Nat} {tk : Tok} {led : List (Addr × Obj)} (hlen : t.length ≤ 1000)
    (h1 : ∀ h, Fr h₀ L h m → h.get? 69 = some patO) (h2 : ∀ h, Fr h₀ L h m → h.get? 68 = some codO)
    (turn : ∀ (p : Nat) h tk2 Ma T led', p + 1 < t.length → Fr h₀ L h m → News h₀ L h led' → (∀ p ∈ led, p ∈ led') → (Ma, matO t tk T) ∈ led' → (T, spnO p) ∈ led' →
      wpAny (model prog w) A.in1 (call (.ref q) [.ref Ma]) (fun v s' => ∃ h' tk' tv, v = .str (tx [t.getD (p + 1) 0]) tv ∧ s' = { s with heap := h', toks := tk' } ∧ Fr h₀ L h' m ∧ News h₀ L h' led') (fun _ _ => False) { s with heap := h, toks := tk2 })
    (hR : ∀ tv h' tk', Fr h₀ L h' m → News h₀ L h' led → RR (.ok (.ret (.str (tx (unesc t)) tv))) { s with heap := h', toks := tk' })
    (hD : ∀ p ∈ led, p.1 ≠ D) :
    ∀ (n p : Nat) (cnt : Int) (ps : List (List Nat)) (vs : List Value) (nn : Nat) h tk2, t.length - p = n → p ≤ t.length → StrsAre vs (ps.map tx) → ps.flatten ++ rest t p = unesc t → vs.length ≤ p →
      Fr h₀ L h m → News h₀ L h ((D, listOf vs.toArray nn) :: led) →
    codeAny (model prog w) A (.builtin "re.Pattern.sub.loop" ⟨[.ref 69, .str (tx t) tk, .ref q, rawInt 1, rawInt 0, rawInt cnt, rawInt p, rawInt p, .bool false, .ref D, .bool false], []⟩) RR { s with heap := h, toks := tk2 } := by
  intro n
  induction n using Nat.strongRecOn with
  | ind n ih =>
  intro p cnt ps vs nn h tk2 hn hp V hu hz F N
  refine codeAny_builtin Mine.R.entry_loop ?_
  rw [Around.under_plainId Mine.R.plain_loop _]
  unfold «re.Pattern.sub.loop»
  dsimp only [rawInt]
  refine wpAny_bind (whole_ok (h1 h F) (h2 h F) ?_)
  refine wpAny_ite_false rfl ?_
  refine wpAny_bind (wpAny_ite_false rfl ?_)
  show wpAny _ _ (reRunToEnd (Sre.forSearch ESC t.toArray 1 p t.length false)) _ _ _
  obtain ⟨k, hk, hE⟩ := search_ok t p hp
  have hr := rest_eq t _ p rfl
  have hul := unesc_len t
  have hvl := Mine.StrsAre.len V
  rw [List.length_map] at hvl
  refine end_ok k _ (by omega) ?_
  generalize hmm : Sre.M.runFor k (Sre.forSearch ESC t.toArray 1 p t.length false) = mm at hE
  unfold Ends at hE
  cases hq : escAt t p with
  | none =>
    rw [hq] at hE hr
    refine .inr ⟨hE, ?_⟩
    dsimp only
    refine wpAny_ite_split (fun hc => ?_) (fun hc => ?_)
    · refine wpAny_bind (slice_ok hlen fun tv1 tk1 => ?_)
      refine wpAny_bind (push_ok F N hD (by rw [List.size_toArray]; omega) fun h' F' N' => ?_)
      have V' := Mine.StrsAre.snoc V (tx ((t.take t.length).drop p)) tv1
      have hu' : (ps ++ [(t.take t.length).drop p]).flatten = unesc t := by
        rw [← hu, hr, List.flatten_append, List.take_of_length_le (Nat.le_refl _)]; simp
      have hz' : (vs ++ [Value.str (tx ((t.take t.length).drop p)) tv1]).length ≤ t.length + 1 := by simp; omega
      rw [List.push_toArray] at N'
      refine wpAny_bind (slice_ok hlen fun tv2 tk2 => ?_)
      refine wpAny_bind (wpAny_seqItems (N' _ (.head _)).1 rfl ?_)
      refine wpAny_ite_false (by simp) ?_
      refine wpAny_bind (join_listW (N'.isList (.head _)) (x := tx []) (ys := (ps ++ [(t.take t.length).drop p]).map tx) (by rw [List.map_append]; exact V') (by rw [tx_len]; decide) ?_ fun tv3 tk3 => ?_)
      · have e : ((ps ++ [(t.take t.length).drop p]).map tx).map (·.length) = (ps ++ [(t.take t.length).drop p]).map List.length := by simp [tx_len]
        rw [e, ← List.length_flatten, hu', List.length_map, List.length_append]
        simp only [List.length_cons, List.length_nil]
        omega
      · refine wpAny_ite_false rfl (wpAny_pure ?_)
        rw [join_tx, hu']
        exact hR _ _ _ F' (drop1 N')
    · have hu' : ps.flatten = unesc t := by
        rw [← hu, hr, List.drop_eq_nil_of_le (by show t.length ≤ p; have : ¬ p < t.length := hc; omega), List.append_nil]
      refine wpAny_bind (slice_ok hlen fun tv2 tk2 => ?_)
      refine wpAny_bind (wpAny_seqItems (N _ (.head _)).1 rfl ?_)
      refine wpAny_ite_split (fun hc2 => ?_) (fun hc2 => ?_)
      · refine wpAny_bind (wpAny_pure (wpAny_ite_false rfl (wpAny_pure ?_)))
        have e : unesc t = [] := by
          rw [← hu']
          have : vs = [] := by simpa using hc2
          subst this
          have : ps = [] := List.length_eq_zero_iff.mp (by simpa using hvl.symm)
          subst this; rfl
        have e2 : tx ((t.take 0).drop 0) = tx (unesc t) := by rw [e]; rfl
        rw [e2]
        exact hR _ _ _ F (drop1 N)
      · refine wpAny_bind (join_listW (N.isList (.head _)) (x := tx []) (ys := ps.map tx) (by simpa using V) (by rw [tx_len]; decide) ?_ fun tv3 tk3 => ?_)
        · have e : (ps.map tx).map (·.length) = ps.map List.length := by simp [tx_len]
          rw [e, ← List.length_flatten, hu', List.length_map]
          omega
        · refine wpAny_ite_false rfl (wpAny_pure ?_)
          rw [join_tx, hu']
          exact hR _ _ _ F (drop1 N)
  | some q1 =>
    rw [hq] at hE hr
    obtain ⟨g1, g2, g3, g4, g5, g6⟩ := hE
    obtain ⟨r1, r2, r3⟩ := hr
    refine .inl ⟨g1, ?_⟩
    dsimp only
    have e0 : (mm.handed == mm.start) = false := by rw [g2, g3]; simp
    rw [e0, g2, g3]
    have go : ∀ (ps : List (List Nat)) (vs : List Value) (nn : Nat) h, StrsAre vs (ps.map tx) → ps.flatten ++ ([t.getD (q1 + 1) 0] ++ rest t (q1 + 2)) = unesc t → vs.length ≤ q1 + 1 → Fr h₀ L h m → News h₀ L h ((D, listOf vs.toArray nn) :: led) →
        ∀ tk2, wpAny (model prog w) A.in1 (do
          let found ← reNewMatch (Value.ref 69) (Value.str (tx t) tk) 1 0 t.length mm
          let item ←
            holding [found]
                (if (1 == 1) = true then call (Value.ref q) [found]
                else do
                  let __do_lift ← reFound found
                  reExpand (Value.ref q) __do_lift)
          if (item != Value.none) = true then do
              updateSeq D fun x => x.push item
              again
                  (Code.builtin "re.Pattern.sub.loop"
                    {
                      pos :=
                        [Value.ref 69, Value.str (tx t) tk, Value.ref q, Value.int 1 0, Value.int 0 0,
                          Value.int (cnt + 1) 0, Value.int ((q1 + 2 : Nat) : Int) 0, Value.int ((q1 + 2 : Nat) : Int) 0,
                          Value.bool false, Value.ref D, Value.bool false] })
            else
              again
                (Code.builtin "re.Pattern.sub.loop"
                  {
                    pos :=
                      [Value.ref 69, Value.str (tx t) tk, Value.ref q, Value.int 1 0, Value.int 0 0,
                        Value.int (cnt + 1) 0, Value.int ((q1 + 2 : Nat) : Int) 0, Value.int ((q1 + 2 : Nat) : Int) 0,
                        Value.bool false, Value.ref D, Value.bool false] }))
            (fun fin s' => match fin with | Fin.done f => RR (Except.ok f) s' | Fin.again c' => c'.quiet = true ∧ codeAny (model prog w) A c' RR s') (fun e s' => RR (Except.error e) s') { s with heap := h, toks := tk2 } := by
      intro ps vs nn h V hu hz F N tk2
      refine wpAny_bind (newMatch_ok g2 g3 g4 g5 g6 F N fun Ma T h1 F1 N1 => ?_)
      refine wpAny_bind (wpAny_holding (wpAny_ite_true rfl ?_))
      refine wpAny_mono (turn q1 h1 tk2 Ma T _ r2 F1 N1 (fun p hp => .tail _ (.tail _ (.tail _ hp))) (.head _) (.tail _ (.head _))) ?_ (fun _ _ x => x.elim)
      rintro v s' ⟨h2, tk3, tv, rfl, rfl, F2, N2⟩
      refine wpAny_ite_true rfl ?_
      refine wpAny_bind (push_ok F2 (drop1 (drop1 N2)) hD (by rw [List.size_toArray]; omega) fun h3 F3 N3 => ?_)
      rw [List.push_toArray] at N3
      refine wpAny_pure ⟨plainId_quiet Mine.R.plain_loop _, ?_⟩
      refine ih (t.length - (q1 + 2)) (by omega) (q1 + 2) (cnt + 1) (ps ++ [[t.getD (q1 + 1) 0]]) _ _ _ _ rfl (by omega) ?_ ?_ ?_ F3 N3
      · rw [List.map_append]; exact Mine.StrsAre.snoc V _ _
      · rw [← hu]; simp
      · rw [List.length_append]; simp only [List.length_cons, List.length_nil]; omega
    refine wpAny_ite_split (fun hc => ?_) (fun hc => ?_)
    · refine wpAny_bind (slice_ok hlen fun tv1 tk1 => ?_)
      refine wpAny_bind (push_ok F N hD (by rw [List.size_toArray]; omega) fun h' F' N' => ?_)
      rw [List.push_toArray] at N'
      refine wpAny_ite_false rfl ?_
      refine go (ps ++ [(t.take q1).drop p]) _ _ _ ?_ ?_ ?_ F' N' _
      · rw [List.map_append]; exact Mine.StrsAre.snoc V _ _
      · rw [← hu, r3]; simp
      · have : p < q1 := hc
        rw [List.length_append]; simp only [List.length_cons, List.length_nil]; omega
    · refine wpAny_ite_false rfl ?_
      refine go ps vs _ _ V ?_ (by omega) F N _
      have : ¬ p < q1 := hc
      rw [← hu, r3, List.drop_eq_nil_of_le (by rw [List.length_take]; omega)]; rfl
theorem sub_ba : isSubtype (.type "str") (.type "bytearray") = pure false := by rw [isSubtype_type]; kernel_rfl
theorem sub_ok {t : List Nat} {tk : Tok} {led : List (Addr × Obj)} {Q : Value → Shared → Prop} (hlen : t.length ≤ 1000)
    (h1 : ∀ h, Fr h₀ L h m → h.get? 69 = some patO) (h2 : ∀ h, Fr h₀ L h m → h.get? 68 = some codO) (F : Fr h₀ L s.heap m) (N : News h₀ L s.heap led) (hf : s.TypeIs (.ref q) "function")
    (turn : ∀ (p : Nat) h tk2 Ma T led', p + 1 < t.length → Fr h₀ L h m → News h₀ L h led' → (∀ p ∈ led, p ∈ led') → (Ma, matO t tk T) ∈ led' → (T, spnO p) ∈ led' →
      wpAny (model prog w) A.in1 (call (.ref q) [.ref Ma]) (fun v s' => ∃ h' tk' tv, v = .str (tx [t.getD (p + 1) 0]) tv ∧ s' = { s with heap := h', toks := tk' } ∧ Fr h₀ L h' m ∧ News h₀ L h' led') (fun _ _ => False) { s with heap := h, toks := tk2 })
    (hQ : ∀ tv h' tk', Fr h₀ L h' m → News h₀ L h' led → Q (.str (tx (unesc t)) tv) { s with heap := h', toks := tk' }) :
    wpAny (model prog w) A (call (.builtin "re.Pattern.sub") [.ref 69, .ref q, .str (tx t) tk]) Q E s := by
  refine wpAny_call (codeAny_call_builtin Mine.R.slot_sub.plain Mine.R.entry_sub (Mine.R.slot_sub.check _ _ _ _ _ _ _ _ ⟨_, h1 _ F, rfl⟩ (Mine.R.args_sub _ _ _) ?_))
  unfold «re.Pattern.sub» reSubstitute
  dsimp only
  refine wpAny_bind (wpAny_of_eq (a := [some (.ref q), some (.str (tx t) tk), none]) (by with_unfolding_all rfl) ?_)
  dsimp only
  refine wpAny_bind (wpAny_pure ?_)
  refine wpAny_bind (wpAny_specialOf hf Mine.R.no_call ?_)
  dsimp only [Option.isSome]
  refine wpAny_ite_true rfl ?_
  refine wpAny_bind (wpAny_pure ?_)
  refine wpAny_ite_true rfl ?_
  refine wpAny_bind (wpAny_pure ?_)
  dsimp only
  refine wpAny_bind (wpAny_holding (whole_ok (h1 _ F) (h2 _ F) ?_))
  refine wpAny_ite_true rfl ?_
  unfold reNotHeld
  refine wpAny_bind (wpAny_bind (wpAny_isInstance_val (T := "str") rfl sub_ba ?_))
  refine wpAny_ite_false rfl (wpAny_pure ?_)
  refine wpAny_bind (newList_K F N fun D h' F' N' hlt => ?_)
  refine wpAny_pure ⟨plainId_quiet Mine.R.plain_loop _, ?_⟩
  exact loop_ok hlen h1 h2 (fun p h tk2 Ma T led' a b c d e f => turn p h tk2 Ma T led' a b c d e f) (fun tv h' tk' F N => hQ tv h' tk' F N) (fun p hp e => absurd (e ▸ hlt p hp) (Nat.lt_irrefl _))
    _ 0 0 [] [] 0 h' s.toks rfl (Nat.zero_le _) .nil rfl (Nat.zero_le _) F' N'
end
end Mine
namespace Mine
/-- the table of unescape_char's code: it keeps the lambda's code after the first call -/
def lamQ : Str := Str.ofString "unescape_char" ++ ".<locals>." ++ "<lambda>"
def tabL : Option (Addr × Obj) → List (Addr × Obj)
  | none => [(76, tabObj #[])]
  | some (c, oc) => [(76, tabObj #[rawInt 35, rawInt 31, .ref c]), (c, oc)]
def tabG : Option (Addr × Obj) → Prop
  | none => True
  | some (c, oc) => c ≠ 76 ∧ ∃ vs t, oc.data = .fields vs ∧ vs[1]? = some (.str lamQ t)
def okR (r : List (Addr × Obj)) : Prop := ∀ p ∈ r, p.2.cls ≠ .none
theorem okR.cons {p : Addr × Obj} {r : List (Addr × Obj)} (h : p.2.cls ≠ .none) (hr : okR r) : okR (p :: r) := fun q hq => by
  rcases List.mem_cons.mp hq with rfl | hq
  · exact h
  · exact hr q hq
theorem okR.app {r r' : List (Addr × Obj)} (h : okR r) (h' : okR r') : okR (r ++ r') := fun q hq => by
  rcases List.mem_append.mp hq with hq | hq
  · exact h q hq
  · exact h' q hq
theorem okR.nil : okR [] := fun _ h => nomatch h
theorem okR.off {h₀ h : Heap} {L : Addr} {ps : Array Value} {l r : List (Addr × Obj)} (hr : okR r) (N : News h₀ L h (((76, tabObj ps) :: l) ++ r)) : ∀ p ∈ r, p.1 ≠ 76 := by
  intro p hp e
  have a := (N _ (.head _)).1
  have b := (N p (List.mem_append_right _ hp)).1
  rw [e] at b
  have : some p.2 = some (tabObj ps) := b.symm.trans a
  have e2 : p.2 = tabObj ps := Option.some.inj this
  exact hr p hp (by rw [e2])
end Mine
namespace Mine
section
variable {prog : Program} {w : World} {A : Around} {E : Value → Shared → Prop} {s : Shared}
theorem one_cut {t : List Nat} {p : Nat} (h : p + 1 < t.length) : (t.take (p + 2)).drop (p + 1) = [t.getD (p + 1) 0] := by
  rw [drop_cons (t := t.take (p + 2)) (by rw [List.length_take]; omega), take_get (by omega), List.drop_eq_nil_of_le (by rw [List.length_take]; omega)]
theorem spn_is (p : Nat) : Array.map reRawOf #[.int p 0, .int (p + 2 : Nat) 0, .int (p + 1 : Nat) 0, .int (p + 2 : Nat) 0] = #[(p : Int), (p + 2 : Nat), (p + 1 : Nat), (p + 2 : Nat)] := by
  simp [reRawOf]
theorem group_ok {t : List Nat} {tk u : Tok} {p : Nat} {Ma T : Addr} {Q : Value → Shared → Prop} (hlen : t.length ≤ 1000) (hp : p + 1 < t.length) (hM : s.heap.get? Ma = some (matO t tk T)) (hT : s.heap.get? T = some (spnO p))
    (hQ : ∀ tv tk', Q (.str (tx [t.getD (p + 1) 0]) tv) { s with toks := tk' }) :
    wpAny (model prog w) A (call (.builtin "re.Match.group") [.ref Ma, .int 1 u]) Q E s := by
  refine wpAny_call (codeAny_call_builtin Mine.R.slot_group.plain Mine.R.entry_group (Mine.R.slot_group.check _ _ _ _ _ _ _ _ ⟨_, hM, rfl⟩ (Mine.R.args_group _ _) ?_))
  unfold «re.Match.group» noKeywords
  dsimp only
  refine wpAny_bind (wpAny_ite_true rfl (wpAny_pure ?_))
  refine wpAny_bind ?_
  unfold reFound
  refine wpAny_bind (wpAny_bind (wpAny_load hM (wpAny_pure ?_)))
  refine wpAny_bind (wpAny_bind (wpAny_seqItems hT rfl (wpAny_pure (wpAny_pure ?_))))
  rw [show (some (#[.int p 0, .int (p + 2 : Nat) 0, .int (p + 1 : Nat) 0, .int (p + 2 : Nat) 0] : Array Value)).getD #[] = #[.int p 0, .int (p + 2 : Nat) 0, .int (p + 1 : Nat) 0, .int (p + 2 : Nat) 0] from rfl, spn_is]
  refine wpAny_bind ?_
  unfold reGroupNumber
  refine wpAny_bind (wpAny_pure ?_)
  refine wpAny_ite_true rfl ?_
  unfold asIndex
  refine wpAny_bind (wpAny_bind (wpAny_pure (wpAny_pure ?_)))
  refine wpAny_ite_false rfl (wpAny_pure ?_)
  refine wpAny_bind ?_
  unfold reGroupText
  show wpAny _ _ (if (decide (((p + 1 : Nat) : Int) < 0) || decide (((p + 2 : Nat) : Int) < 0)) = true then _ else _) _ _ _
  rw [if_neg (by simp; omega)]
  refine wpAny_bind ?_
  unfold reTextOf
  refine wpAny_bind (wpAny_pure (wpAny_pure ?_))
  refine slice_ok hlen fun tv tk' => wpAny_pure ?_
  show Q (.str (tx ((t.take (p + 2)).drop (p + 1))) tv) _
  rw [one_cut hp]
  exact hQ _ _
end
end Mine
end
noncomputable section
open Lean PySem PySem.W PySem.Spec PySem.Calls PyProof.Rows
set_option maxRecDepth 100000
namespace Mine
theorem fill_F7 : 0 = 0 ∧ 0 = 0 := by
  try walk1
  w_top off
  all_goals first | rfl | exact ⟨rfl, rfl⟩
local macro_rules | `(tactic| walk_at "noloop") => `(tactic| first
  | ((fail_if_success (fail_if_success (with_reducible show wpAny _ _ (execs _ _) _ _ _))); fail_if_success ((with_reducible refine st_execs ?_ ?_); (focus rfl)))
  | ((fail_if_success (fail_if_success (with_reducible show wpAny _ _ (exec _ _) _ _ _))); fail_if_success ((with_reducible refine st_exec ?_ ?_); (focus rfl)))
  | ((fail_if_success (with_reducible show wpAny _ _ (execs _ _) _ _ _)); (fail_if_success (with_reducible show wpAny _ _ (exec _ _) _ _ _)); (fail_if_success (with_reducible show wpAny _ _ (eval (Expr.ListComp _ _ _ _) _) _ _ _)); (fail_if_success (with_reducible show wpAny _ _ (pyIter _) _ _ _)); (fail_if_success (with_reducible show wpAny _ _ (truthy (Value.str (tx _) _)) _ _ _))))
local macro_rules | `(tactic| walk_at "go") => `(tactic| repeat' (first
  | (k_unfold; (try dsimp only))
  | (walk_at "noloop"; walk1)
  | (dsimp only; walk_at "noloop"; walk1)))
local macro_rules | `(tactic| walk_at "look") => `(tactic| ((try dsimp only); repeat' (first | exact List.forall_mem_nil _ | (refine List.forall_mem_cons.mpr ⟨by with_unfolding_all rfl, ?_⟩))))
local macro_rules | `(tactic| walk_at "ix") => `(tactic| first | omega | (simp only [List.length_take, List.length_drop] at *; omega))
local macro_rules | `(tactic| walk_at "subscriptTail Name Name str int") => `(tactic| ((with_reducible show wpAny _ _ (subscriptTail _ _ (Value.str (tx _) _) (Value.int _ _)) _ _ _); refine r_item (by walk_at "ix") (by walk_at "ix") (by walk_at "ix") ?_))
local macro_rules | `(tactic| walk_at "subscriptTail Name BinOp str int") => `(tactic| ((with_reducible show wpAny _ _ (subscriptTail _ _ (Value.str (tx _) _) (Value.int _ _)) _ _ _); refine r_item (by walk_at "ix") (by walk_at "ix") (by walk_at "ix") ?_))
local macro_rules | `(tactic| walk_at "compareOp In str str") => `(tactic| ((with_reducible show wpAny _ _ (compareOp _ (Value.str (tx _) _) (Value.str _ _)) _ _ _); refine r_in ?_))
local macro_rules | `(tactic| walk_at "compareOp NotIn str str") => `(tactic| ((with_reducible show wpAny _ _ (compareOp _ (Value.str (tx _) _) (Value.str _ _)) _ _ _); refine r_notin ?_))
local macro_rules | `(tactic| walk_at "compareOp Eq str str") => `(tactic| ((with_reducible show wpAny _ _ (compareOp _ (Value.str (tx _) _) (Value.str _ _)) _ _ _); refine r_eq ?_))
local macro_rules | `(tactic| walk_at "compareOp NotEq str str") => `(tactic| ((with_reducible show wpAny _ _ (compareOp _ (Value.str (tx _) _) (Value.str _ _)) _ _ _); refine r_ne ?_))
local macro_rules | `(tactic| walk_at "call builtin:ord") => `(tactic| ((with_reducible show wpAny _ _ (call _ [Value.str (tx _) _]) _ _ _); refine r_ord ?_))
local macro_rules | `(tactic| walk_at "call builtin:len") => `(tactic| ((with_reducible show wpAny _ _ (call _ [Value.str (tx _) _]) _ _ _); refine r_len (by walk_at "ix") ?_))
local macro_rules | `(tactic| walk_at "compareOp In str str") => `(tactic| ((with_reducible show wpAny _ _ (compareOp _ (Value.str (tx _) _) (Value.str _ _)) _ _ _); first | refine r_in2 isWs H_ws ?_ | refine r_in2 isBl H_bl ?_ | refine r_in2 isNl H_nl ?_ | refine r_in2 isBad H_bad ?_ | refine r_in2 isPu H_pu ?_))
local macro_rules | `(tactic| walk_at "compareOp NotIn str str") => `(tactic| ((with_reducible show wpAny _ _ (compareOp _ (Value.str (tx _) _) (Value.str _ _)) _ _ _); first | refine r_notin2 isWs H_ws ?_ | refine r_notin2 isPu H_pu ?_))
local macro_rules | `(tactic| walk_at "compareOp Eq str str") => `(tactic| ((with_reducible show wpAny _ _ (compareOp _ (Value.str (tx _) _) (Value.str _ _)) _ _ _); first | refine r_eq1 L_lt ?_ | refine r_eq1 L_gt ?_ | refine r_eq1 L_bs ?_ | refine r_eq1 L_lp ?_ | refine r_eq1 L_rp ?_ | refine r_eq1 L_del ?_ | refine r_eq1 L_nul ?_ | refine r_eq1 L_n ?_ | refine r_eq1 L_r ?_))
local macro_rules | `(tactic| walk_at "compareOp NotEq str str") => `(tactic| ((with_reducible show wpAny _ _ (compareOp _ (Value.str (tx _) _) (Value.str _ _)) _ _ _); first | refine r_ne1 L_rp ?_))
local macro_rules | `(tactic| walk_at "subscriptTail Name Slice str ref") => `(tactic| ((with_reducible show wpAny _ _ (subscriptTail _ (Expr.Slice (some _) (some _) none _) (Value.str (tx _) _) _) _ _ _); (with_reducible rename Fr _ _ _ _ => F'); (with_reducible rename News _ _ _ _ => N'); (refine r_slice (s := ⟨_, _, _, _, _⟩) (by walk_at "ix") (by walk_at "ix") (by walk_at "ix") F' N' ?_); intro _ _ _ _ _))
local macro_rules | `(tactic| walk_at "compareOp Eq str str") => `(tactic| ((with_reducible show wpAny _ _ (compareOp _ (Value.str (tx _) _) (Value.str _ _)) _ _ _); refine r_eqL L_rn ?_))
local macro_rules | `(tactic| walk_at "fact") => `(tactic| first | assumption | exact beq_iff_eq.mp (by assumption) | exact beq_eq_false_iff_ne.mp (by assumption) | omega)
local macro_rules | `(tactic| walk_at "noesc") => `(tactic| (rintro ⟨e1, e2, e3⟩; first | exact absurd e1 (beq_eq_false_iff_ne.mp (by assumption)) | exact Bool.noConfusion (Eq.trans (Eq.symm (show isPu _ = false from by assumption)) e3) | exact absurd (Eq.trans (Eq.symm e1) (beq_iff_eq.mp (show (List.getD _ _ _ == _) = true from by assumption))) (by decide) | omega))
local macro_rules | `(tactic| walk_at "cx") => `(tactic| exact ⟨by k_asm, by k_asm, by k_asm, by k_asm, by k_asm, rfl, rfl, rfl, rfl, (by (show _ + _ < _); omega), (by (show _ + 8 * _ < _); omega)⟩)
local macro_rules | `(tactic| walk_at "call ref") => `(tactic| ((with_reducible show wpAny _ _ (call (Value.ref 137) _ _) _ _ _); refine c_begin _ _ _ _ (by walk_at "cx") (by omega) ?_; intro t9 h9 k9 F9 N9; (try dsimp only)))
local macro_rules | `(tactic| walk_at "call ref") => `(tactic| ((with_reducible show wpAny _ _ (call (Value.ref 144) _ _) _ _ _); refine c_angle _ _ _ _ (by walk_at "cx") (by omega) (by omega) ?_ ?_; (all_goals intros); (all_goals (try dsimp only))))
local macro_rules | `(tactic| walk_at "call builtin:min") => `(tactic| ((with_reducible show wpAny _ _ (call (Value.builtin _) [Value.int _ _, Value.int _ _]) _ _ _); refine r_min (by omega) rfl (by assumption) (by assumption) ?_; intro h9 t9 k9 F9 N9))
local macro_rules | `(tactic| walk_at "retx") => `(tactic| (dsimp only; refine hret' _ _ _ _ _ _ (by assumption) (by assumption) fun F2 N2 => ?_))
local macro_rules | `(tactic| walk_at "upd") => `(tactic| first | exact Upd.head (by assumption) | (refine' Upd.tail ?a ?b; (case a => k_ne); (case b => walk_at "upd")))
local macro_rules | `(tactic| walk_at "sz") => `(tactic| ((try simp only [List.size_toArray, PySem.sizeLine_eq]); omega))
local macro_rules | `(tactic| walk_at "call builtin:list.append") => `(tactic| (k_here; (with_reducible show wpAny _ _ (call (Value.builtin _) [Value.ref _, _]) _ _ _); (refine' append_K ?k1 ?k2 ?k3 ?_ ?z; (case k1 => k_asm); (case k2 => k_asm); (case k3 => walk_at "upd"); (case z => walk_at "sz"); k_whole); intro h' F' N'; (try simp only [List.push_toArray] at N'); (try k_sweep)))
local macro_rules | `(tactic| walk_at "call ref") => `(tactic| ((with_reducible show wpAny _ _ (call (Value.ref 192) _ _) _ _ _); refine c_lbegin _ _ _ _ (by walk_at "cx") (by omega) ?_; intro t9 h9 k9 F9 N9; (try dsimp only)))
local macro_rules | `(tactic| walk_at "call ref") => `(tactic| ((with_reducible show wpAny _ _ (call (Value.ref 166) _ _) _ _ _); refine c_units _ _ _ _ _ _ (by walk_at "cx") (by walk_at "ix") (by walk_at "ix") ?_; intro a9 n9 vs9 tl9 h9 k9 U9 F9 N9 d9; (try dsimp only)))
local macro_rules | `(tactic| walk_at "subscriptTail Name Constant ref int") => `(tactic| ((with_reducible show wpAny _ _ (subscriptTail _ _ (Value.ref _) (Value.int _ _)) _ _ _); (with_unfolding_all refine' item_litK ?k1 ?k2 ?k3 ?k4 ?_ ?k6; (case k1 => exact News.isList (by k_asm) (by first | k_mem | walk_at "mem")); (case k2 => decide); (case k3 => decide); (case k4 => rfl); (case k6 => with_unfolding_all rfl); k_whole)))
local macro_rules | `(tactic| walk_at "offx") => `(tactic| (intro _; repeat' (first | exact List.forall_mem_nil _ | (refine List.forall_mem_cons.mpr ⟨by (show Str.ofString _ ≠ Str.ofString _); decide, ?_⟩))))
local macro_rules | `(tactic| walk_at "sub") => `(tactic| (intro q hq; (try simp only [List.cons_append, List.append_assoc, List.mem_cons, List.mem_append, List.not_mem_nil, or_false, or_assoc] at hq ⊢); (repeat' (first | exact hq | (refine Or.elim hq (fun hq => ?_) (fun hq => ?_)) | exact Or.inl hq | (refine Or.inr ?_)))))
local macro_rules | `(tactic| walk_at "mem") => `(tactic| first | assumption | exact List.mem_cons_self | (refine List.mem_cons_of_mem _ ?_; walk_at "mem") | (refine List.mem_append_left _ ?_; walk_at "mem") | (refine List.mem_append_right _ ?_; walk_at "mem"))
local macro_rules | `(tactic| walk_at "subscriptTail Name Name ref int") => `(tactic| ((with_reducible show wpAny _ _ (subscriptTail _ _ (Value.ref _) (Value.int _ _)) _ _ _); (with_unfolding_all refine' r_unit ?k1 ?k2 ?k3 ?k4 ?k5 ?k6 ?_ ?k7; (case k1 => k_asm); (case k2 => walk_at "mem"); (case k3 => assumption); (case k4 => omega); (case k5 => omega); (case k6 => omega); (case k7 => with_unfolding_all rfl)); intro a8 t8 t7 n8 m8))
local macro_rules | `(tactic| walk_at "subscriptTail Subscript") => `(tactic| with_reducible refine r_turn ?_)
local macro_rules | `(tactic| walk_at "compareOp Eq str str") => `(tactic| ((with_reducible show wpAny _ _ (compareOp _ (Value.str (tx _) _) (Value.str (tx _) _)) _ _ _); refine r_eqT ?_))
local macro_rules | `(tactic| walk_at "compareOp NotEq str str") => `(tactic| ((with_reducible show wpAny _ _ (compareOp _ (Value.str (tx _) _) (Value.str (tx _) _)) _ _ _); refine r_neT ?_))
local macro_rules | `(tactic| walk_at "compareOp NotIn str str") => `(tactic| ((with_reducible show wpAny _ _ (compareOp _ (Value.str (tx _) _) (Value.str _ _)) _ _ _); refine r_notin2 isOp H_open ?_))
local macro_rules | `(tactic| walk_at "eval Constant str") => `(tactic| with_reducible (first | refine r_const E_rp ?_ | refine r_const E_nil ?_))
local macro_rules | `(tactic| walk_at "binaryOp Add str str") => `(tactic| ((with_reducible show wpAny _ _ (binaryOp _ (Value.str (tx _) _) (Value.str (tx _) _)) _ _ _); refine r_cat (by first | omega | (simp only [List.length_append, List.length_cons, List.length_nil]; omega)) ?_; intro t9 k9))
local macro_rules | `(tactic| walk_at "call builtin:len") => `(tactic| ((with_reducible show wpAny _ _ (call (Value.builtin "len") [Value.ref _]) _ _ _); refine r_lenU (by k_asm) (by walk_at "mem") (by assumption) (by omega) ?_; intro t9 k9))
local macro_rules | `(tactic| walk_at "eval Name") => `(tactic| first
  | ((with_reducible refine' ld ?k1 ?k2 ?_ ?k3 ?k4 ?k5); (case k4 => kernel_rfl!); (case k1 => k_asm); (case k2 => k_dflt (exact rfl)); (case k3 => k_dflt (exact rfl)); (case k5 => decide); k_whole)
  | ((with_reducible refine' name_K ?k0 ?k1 ?k2 ?k3 ?_ ?k4 ?k5 ?k6); (case k5 => kernel_rfl!); (case k0 => k_asm); (case k1 => k_asm); (case k2 => k_asm); (case k3 => k_dflt k_is); (case k4 => k_dflt (exact rfl)); (case k6 => decide); k_whole))
local macro_rules | `(tactic| walk_at "ite") => `(tactic| first | with_reducible refine ite_tt ?_ | with_reducible refine ite_ff ?_ | with_reducible refine ite_True_then ?_ | with_reducible refine ite_False_else ?_ | (k_openite; first | refine ite_pos (by with_reducible assumption) ?_ | refine ite_neg (by with_reducible assumption) ?_ | refine ite_isFalse (by with_reducible assumption) ?_ | (with_reducible refine split_ine ?_ ?_ <;> intro _) | (with_reducible refine split_ieq ?_ ?_ <;> intro _) | with_reducible refine split_not ?_ | (refine split_dec ?_ ?_ <;> intro _) | (refine split_bool ?_ ?_ <;> intro _)))
local macro_rules | `(tactic| walk_at "callWith ref") => `(tactic| first
  | ((with_reducible refine' callWith_K ?k1 ?k2 ?_ ?k3 ?k4); (case k1 => k_asm); (case k2 => k_dflt k_is); (case k3 => k_dflt (exact rfl)); (case k4 => k_dflt (exact rfl)); k_whole)
  | ((with_reducible refine' callWith_K0 ?k1 ?k2 ?_); (case k1 => k_dflt k_in); (case k2 => k_dflt k_is); k_whole)
  | ((with_reducible refine' callWith_KW ?k1 ?k2 ?k3 ?_ ?k4 ?k5); (case k1 => k_asm); (case k2 => k_dflt k_is); (case k3 => k_dflt (exact rfl)); (case k4 => k_dflt (exact rfl)); (case k5 => k_dflt (exact rfl)); k_whole))

local macro_rules | `(tactic| walk_at "getMethod ref") => `(tactic| ((with_reducible show wpAny _ _ (getMethod (Value.ref 69) _ _) _ _ _); (with_reducible rename Fr _ _ _ _ => F'); (with_reducible rename Frag.In _ _ => X'); refine' getMethod_builtin ?k1 R.pa_pat R.slot_sub R.type_sub ?k2 ?_; (case k1 => exact ⟨patO, F'.keep _ _ (X' _ _ rfl), rfl⟩); (case k2 => (intro a e; cases e; exact ⟨patO, F'.keep _ _ (X' _ _ rfl), rfl⟩))))
local macro_rules | `(tactic| walk_at "goM") => `(tactic| repeat' (first
  | (k_unfold; (try dsimp only))
  | ((fail_if_success (with_reducible show wpAny _ _ (getMethod _ _ _) _ _ _)); walk_at "noloop"; walk1)
  | (dsimp only; (fail_if_success (with_reducible show wpAny _ _ (getMethod _ _ _) _ _ _)); walk_at "noloop"; walk1)))
set_option maxHeartbeats 4000000 in
theorem c_unesc {w : World} {loose : List Str} {mean : ExcName → Option Value} {mg mb : Str → Option Value} {k dp un : Nat} {gd : Option (List Code)}
    {A₀ : Around} {env : Env} {outer : List Env} {base h₀ : Heap} {L : Addr} {m : Str → Option Value} {news : List (Addr × Obj)} {s : Shared}
    {E Q : Value → Shared → Prop} (l : List Nat) (t1 : Tok) (b : Option (Addr × Obj))
    (C : Cx w loose mean mg mb (k + 3) ⟨none, dp, some (env :: outer), gd, un⟩ A₀ env outer base h₀ L m (tabL b ++ news) s)
    (hl : l.length ≤ 1000) (CH : CodeHd base 80 76) (hb : tabG b) (hr : okR news)
    (hret : ∀ t b' h' tk', tabG b' → Fr h₀ L h' m → News h₀ L h' (tabL b' ++ news) → Q (.str (tx (unesc l)) t) { s with heap := h', toks := tk' }) :
    wpAny (model PySem.Challenge.pw_br5019_01 w) ⟨none, dp, some (env :: outer), gd, un⟩ (call (.ref 81) [.str (tx l) t1]) Q E s := by
  refine enter [(Str.ofString "text", .str (tx l) t1)] C (by k_is) (by k_is) (BindsTo.of_eq rfl) rfl rfl rfl (by decide) (locs rfl) ?_
  intro g L' h' tk Q' F' N' B' X' T' hd hu hret'

  have off : ∀ p ∈ news, p.1 ≠ 76 := by
    cases b with
    | none => exact okR.off (l := []) hr N'
    | some b => exact okR.off (l := [_]) hr N'
  have h69 : ∀ h {L : Addr} {m : Str → Option Value}, Fr g L h m → h.get? 69 = some patO := fun h L m F => F.keep _ _ (X' _ _ rfl)
  have h68 : ∀ h {L : Addr} {m : Str → Option Value}, Fr g L h m → h.get? 68 = some codO := fun h L m F => F.keep _ _ (X' _ _ rfl)
  cases b with
  | none =>
    dsimp only [tabL, List.cons_append, List.nil_append] at N'
    walk_at "go"
    refine kla_eval rfl ?_
    refine kla_nest (cl := []) (by assumption) N' T' (CH.keeps B'.stays) rfl (.head off) trivial rfl rfl ?_
    intro f' c' oc' vs' t' ct' h' tk' F' N' d1' d2' l1 l2
    have hc76 : c' ≠ 76 := fun e => absurd (e ▸ l1 _ (.head _)) (Nat.lt_irrefl _)
    dsimp only at N'
    walk_at "go"
    refine sub_ok hl (fun h F => h69 h F) (fun h F => h68 h F) (by assumption) (by assumption) ⟨_, (N' _ (.head _)).1, rfl⟩ ?_ ?_
    · intro p h1 tk2 Ma T led' hp F1 N1 hs hM hT
      refine wpAny_call ?_
      refine kla_code (K := _root_.Mine.hd.heap_39 w.params) B' F1 (by assumption) N1 T' rfl rfl rfl (hs _ (.head _)) (codeRec_news N1 (hs _ (.tail _ (.head _))) d1' d2') (by show dp + 1 < _; omega) rfl (locs rfl) ?_ rfl rfl rfl (by decide)
      intro g2 L2 h2 FG2 F2 N2 B2 X2 T2
      walk_at "goM"
      refine getMethod_builtin ⟨_, (N2 _ hM).1, rfl⟩ R.pa_mat R.slot_group R.type_group (by intro a e; cases e; exact ⟨_, (N2 _ hM).1, rfl⟩) ?_
      walk_at "go"
      refine group_ok hl hp (N2 _ hM).1 (N2 _ hT).1 fun tv tk' => ?_
      refine ⟨_, _, _, F2, N2, fun Fb Nb => ⟨_, _, _, rfl, rfl, Fb, Nb⟩⟩
    · intro tv h1 tk1 F1 N1
      refine hret' _ _ _ _ _ _ F1 N1 fun F2 N2 => ?_
      exact hret _ (some (c', oc')) _ _ ⟨hc76, _, _, d1', d2'⟩ F2 (subN N2 (by intro q hq; dsimp only [tabL, List.cons_append, List.nil_append] at hq; rcases List.mem_cons.mp hq with rfl | hq; exact .tail _ (.tail _ (.head _)); rcases List.mem_cons.mp hq with rfl | hq; exact .tail _ (.head _); exact .tail _ (.tail _ (.tail _ hq))))

  | some b =>
    obtain ⟨c0, oc0⟩ := b
    obtain ⟨hc0, vs0, tq0, hd0, hv0⟩ := hb
    dsimp only [tabL, List.cons_append, List.nil_append] at N'
    walk_at "go"
    rename_i f1 ct1 h1 tk1 F1 N1 l1
    refine sub_ok hl (fun h F => h69 h F) (fun h F => h68 h F) (by assumption) (by assumption) ⟨_, (N1 _ (.head _)).1, rfl⟩ ?_ ?_
    · intro p h1 tk2 Ma T led' hp F1 N1 hs hM hT
      refine wpAny_call ?_
      refine kla_code (K := _root_.Mine.hd.heap_39 w.params) B' F1 (by assumption) N1 T' rfl rfl rfl (hs _ (.head _)) (codeRec_news N1 (hs _ (.tail _ (.tail _ (.head _)))) hd0 hv0) (by show dp + 1 < _; omega) rfl (locs rfl) ?_ rfl rfl rfl (by decide)
      intro g2 L2 h2 FG2 F2 N2 B2 X2 T2
      walk_at "goM"
      refine getMethod_builtin ⟨_, (N2 _ hM).1, rfl⟩ R.pa_mat R.slot_group R.type_group (by intro a e; cases e; exact ⟨_, (N2 _ hM).1, rfl⟩) ?_
      walk_at "go"
      refine group_ok hl hp (N2 _ hM).1 (N2 _ hT).1 fun tv tk' => ?_
      refine ⟨_, _, _, F2, N2, fun Fb Nb => ⟨_, _, _, rfl, rfl, Fb, Nb⟩⟩
    · intro tv h1 tk1 F1 N1
      refine hret' _ _ _ _ _ _ F1 N1 fun F2 N2 => ?_
      exact hret _ (some (c0, oc0)) _ _ ⟨hc0, _, _, hd0, hv0⟩ F2 (subN N2 (by intro q hq; exact .tail _ hq))

end Mine
end
noncomputable section
open Lean PySem PySem.W PySem.Spec PySem.Calls PyProof.Rows
set_option maxRecDepth 100000
namespace Mine
open PySem.Sre
def BLK : Array Nat := #[14, 8, 1, 2, 4294967295, 1, 1, 10, 0, 16, 10, 24, 11, 0, 4294967295, 13, 6, 16, 32, 16, 9, 0, 1, 16, 10, 1]
/-- how many blanks stand from a place on, at most n -/
noncomputable def cnt (t : List Nat) : Nat → Nat → Nat
  | 0, _ => 0
  | n + 1, p => if isBl (t.getD p 0) then cnt t n (p + 1) + 1 else 0
theorem cnt_le (t : List Nat) : ∀ n p, cnt t n p ≤ n
  | 0, _ => Nat.le_refl _
  | n + 1, p => by
    unfold cnt
    split
    · have := cnt_le t n (p + 1); omega
    · omega
theorem cnt_bl (t : List Nat) : ∀ n p j, j < cnt t n p → isBl (t.getD (p + j) 0) = true
  | 0, _, _, h => absurd h (Nat.not_lt_zero _)
  | n + 1, p, j, h => by
    unfold cnt at h
    split at h
    · cases j with
      | zero => assumption
      | succ j =>
        have := cnt_bl t n (p + 1) j (by omega)
        rw [show p + (j + 1) = p + 1 + j by omega]; exact this
    · omega
theorem cnt_end (t : List Nat) : ∀ n p, cnt t n p < n → isBl (t.getD (p + cnt t n p) 0) = false
  | 0, _, h => absurd h (Nat.not_lt_zero _)
  | n + 1, p, h => by
    unfold cnt at h ⊢
    split
    · rename_i hb
      rw [if_pos hb] at h
      have := cnt_end t n (p + 1) (by omega)
      rw [show p + (cnt t n (p + 1) + 1) = p + 1 + cnt t n (p + 1) by omega]; exact this
    · rename_i hb; simpa using hb
theorem bl_set (c : Nat) (sn : Sre.Seen) : ∃ sn', accepts BLK 15 c sn = .ok (isBl c, sn') := by
  by_cases h1 : c = 32
  · subst h1; exact ⟨_, rfl⟩
  · by_cases h2 : c = 9
    · subst h2; exact ⟨_, rfl⟩
    · have e1 : (c == 32) = false := beq_eq_false_iff_ne.mpr h1
      have e2 : (c == 9) = false := beq_eq_false_iff_ne.mpr h2
      have eb : isBl c = false := by unfold isBl; simp [h1, h2]
      rw [eb]
      refine ⟨((sn.add 16).add 16).add 0, ?_⟩
      show (if (c == 32) = true then _ else if (c == 9) = true then _ else _) = _
      rw [e1, e2]
      rfl
theorem run_ok (t : List Nat) : ∀ n p found sn, ∃ sn', Sre.run BLK t.toArray 15 n p found sn = .ok (found + cnt t n p, sn')
  | 0, p, found, sn => ⟨sn, rfl⟩
  | n + 1, p, found, sn => by
    obtain ⟨s1, e1⟩ := bl_set (t.getD p 0) sn
    unfold Sre.run cnt
    rw [gD, e1]
    cases hb : isBl (t.getD p 0)
    · exact ⟨s1, rfl⟩
    · obtain ⟨s2, e2⟩ := run_ok t n (p + 1) (found + 1) s1
      refine ⟨s2, ?_⟩
      show Sre.run BLK t.toArray 15 n (p + 1) (found + 1) s1 = _
      rw [e2]
      congr 2
      simp; omega
def fr1 (p : Nat) (c : Nat) : Sre.Frame := { wait := .giveBack, pc := 11, pos := p, outermost := true, count := c, kept := {} }
def KB (t : Array Nat) (lim st pc pos hd : Nat) (fr : List Sre.Frame) (wt : Nat) (an : Option Bool) (sn : Sre.Seen) (oc : Option Sre.Outcome) : M :=
  { code := BLK, text := t, lim, start := st, pc, pos, handed := hd, marks := #[], frames := fr, weight := wt, answer := an, seen := sn, outcome := oc }
section
variable {t : List Nat} {lim st pos hd : Nat} {fr : List Sre.Frame} {wt : Nat} {sn : Sre.Seen}
theorem b_lit (h : pos < lim) (h10 : t.getD pos 0 = 10) : ∃ sn', (KB t.toArray lim st 9 pos hd fr wt none sn none).step = KB t.toArray lim st 11 (pos + 1) hd fr wt none sn' none := by
  refine ⟨sn.add 16, ?_⟩
  show (if pos ≥ lim then _ else _) = _
  rw [if_neg (by omega)]
  show (match (Except.ok (t.toArray.getD pos 0 == 10, sn.add 16) : Except String (Bool × Sre.Seen)) with | .error why => _ | .ok (false, seen) => _ | .ok (true, seen) => _) = _
  rw [gD, h10]; rfl
theorem b_lit2 : ∃ sn', (KB t.toArray lim st 23 pos hd fr wt none sn none).step = if pos < lim ∧ t.getD pos 0 = 10 then KB t.toArray lim st 25 (pos + 1) hd fr wt none sn' none else KB t.toArray lim st 23 pos hd fr wt (some false) sn' none := by
  refine ⟨sn.add 16, ?_⟩
  show (if pos ≥ lim then _ else _) = _
  by_cases h : pos < lim
  · rw [if_neg (by omega)]
    show (match (Except.ok (t.toArray.getD pos 0 == 10, sn.add 16) : Except String (Bool × Sre.Seen)) with | .error why => _ | .ok (false, seen) => _ | .ok (true, seen) => _) = _
    rw [gD]
    by_cases h2 : t.getD pos 0 = 10
    · rw [if_pos ⟨h, h2⟩, beq_iff_eq.mpr h2]; rfl
    · rw [if_neg (fun e => h2 e.2), beq_eq_false_iff_ne.mpr h2]; rfl
  · rw [if_pos (by omega), if_neg (fun e => h e.1)]; rfl
theorem b_rep (h : pos ≤ lim) (hl : lim ≤ 1000) : ∃ sn', (KB t.toArray lim st 11 pos hd [] 0 none sn none).step = KB t.toArray lim st 23 (pos + cnt t (lim - pos) pos) (pos + cnt t (lim - pos) pos) [fr1 (pos + cnt t (lim - pos) pos) (cnt t (lim - pos) pos)] 1 none sn' none := by
  obtain ⟨s2, e2⟩ := run_ok t (lim - pos) pos 0 ((sn.add 24).add 13)
  refine ⟨s2, ?_⟩
  have hmin : min 4294967295 (((lim : Int) - (pos : Int)).toNat) = lim - pos := by omega
  show (if ((0 : Nat) : Int) > (lim : Int) - (pos : Int) then _ else match Sre.run BLK t.toArray 15 (min 4294967295 (((lim : Int) - (pos : Int)).toNat)) pos 0 ((sn.add 24).add 13) with | .error why => _ | .ok (n, seen) => _) = _
  rw [if_neg (by omega), hmin, e2, Nat.zero_add]
  rfl
theorem b_succ : ∃ sn', (KB t.toArray lim st 25 pos hd fr wt none sn none).step = KB t.toArray lim st 25 pos pos fr wt (some true) sn' none := ⟨_, rfl⟩
theorem b_yes {p c pc : Nat} : (KB t.toArray lim st pc pos hd [fr1 p c] 1 (some true) sn none).step = KB t.toArray lim st 11 p hd [] 0 (some true) sn none := rfl
theorem b_end {b : Bool} {pc : Nat} : (KB t.toArray lim st pc pos hd [] wt (some b) sn none).step = KB t.toArray lim st pc pos hd [] wt (some b) sn (some (if b = true then .matched else .failed)) := rfl
theorem b_no0 {p pc : Nat} : (KB t.toArray lim st pc pos hd [fr1 p 0] 1 (some false) sn none).step = KB t.toArray lim st 11 p hd [] 0 (some false) sn none := rfl
theorem b_no {p c pc : Nat} : (KB t.toArray lim st pc pos hd [fr1 (p + 1) (c + 1)] 1 (some false) sn none).step = KB t.toArray lim st 23 p p [fr1 p c] 1 none sn none := by
  show (if ((c + 1 : Nat) : Int) - 1 < ((0 : Nat) : Int) then _ else _) = _
  rw [if_neg (by omega)]
  have e : ((c + 1 : Nat) : Int) - 1 = (c : Int) := by omega
  show KB t.toArray lim st 23 p p [{ wait := .giveBack, pc := 11, pos := p, outermost := true, count := ((c + 1 : Nat) : Int) - 1, kept := {} }] 1 none sn none = _
  rw [e]; rfl
end
def EndB (b : Bool) (st : Nat) (m : M) : Prop := m.outcome = some (if b = true then .matched else .failed) ∧ m.start = st
theorem EndB.step {b : Bool} {st k : Nat} {m m' : M} (ho : m.outcome = none) (hs : m.step = m') (h : EndB b st (M.runFor k m')) : EndB b st (M.runFor (k + 1) m) := by
  rw [runFor_step ho, hs]; exact h
/-- blanks, then a line end, before the end -/
def blankL (t : List Nat) (lim p : Nat) : Bool := decide (p + cnt t (lim - p) p < lim) && t.getD (p + cnt t (lim - p) p) 0 == 10
theorem back_ok {t : List Nat} {lim st : Nat} : ∀ (c p : Nat) (sn : Sre.Seen) (hd : Nat), (∀ j, j < c → isBl (t.getD (p + j) 0) = true) → ¬ (p + c < lim ∧ t.getD (p + c) 0 = 10) →
    ∃ k, k ≤ 2 * c + 10 ∧ EndB false st (M.runFor k (KB t.toArray lim st 23 (p + c) hd [fr1 (p + c) c] 1 none sn none))
  | 0, p, sn, hd, _, hn => by
    obtain ⟨s1, e1⟩ := b_lit2 (t := t) (lim := lim) (st := st) (pos := p + 0) (hd := hd) (fr := [fr1 (p + 0) 0]) (wt := 1) (sn := sn)
    rw [if_neg hn] at e1
    exact ⟨3, by omega, EndB.step rfl e1 (EndB.step rfl b_no0 (EndB.step rfl b_end ⟨rfl, rfl⟩))⟩
  | c + 1, p, sn, hd, hb, hn => by
    obtain ⟨s1, e1⟩ := b_lit2 (t := t) (lim := lim) (st := st) (pos := p + (c + 1)) (hd := hd) (fr := [fr1 (p + (c + 1)) (c + 1)]) (wt := 1) (sn := sn)
    rw [if_neg hn] at e1
    have h10 : isBl 10 = false := by decide
    obtain ⟨k, hk, hE⟩ := back_ok (lim := lim) (st := st) c p s1 (p + c) (fun j hj => hb j (by omega)) (fun e => by
      have := hb c (by omega); rw [e.2, h10] at this; exact absurd this Bool.false_ne_true)
    exact ⟨k + 2, by omega, EndB.step rfl e1 (EndB.step rfl b_no hE)⟩
theorem blank_ok (t : List Nat) (p lim : Nat) (hp : p < lim) (hl : lim ≤ 1000) (h10 : t.getD p 0 = 10) : ∃ k, k ≤ 3000 ∧ EndB (blankL t lim (p + 1)) p (M.runFor k (forMatch BLK t.toArray 0 p lim false false)) := by
  by_cases h : lim - p < 2
  · have e : forMatch BLK t.toArray 0 p lim false false = KB t.toArray lim p 9 p p [] 0 (some false) (({} : Sre.Seen).add 14) none := by
      show (if ((true && decide (p ≤ lim)) && decide (lim - p < 2)) = true then _ else _) = _
      rw [if_pos (by simp; omega)]
      rfl
    refine ⟨1, by omega, ?_⟩
    rw [e]
    have hb : blankL t lim (p + 1) = false := by
      unfold blankL
      rw [decide_eq_false (by omega), Bool.false_and]
    rw [hb]
    exact EndB.step rfl b_end ⟨rfl, rfl⟩
  · have e : forMatch BLK t.toArray 0 p lim false false = KB t.toArray lim p 9 p p [] 0 none (({} : Sre.Seen).add 14) none := by
      show (if ((true && decide (p ≤ lim)) && decide (lim - p < 2)) = true then _ else _) = _
      rw [if_neg (by simp; omega)]
      rfl
    rw [e]
    obtain ⟨s1, e1⟩ := b_lit (t := t) (lim := lim) (st := p) (pos := p) (hd := p) (fr := []) (wt := 0) (sn := ({} : Sre.Seen).add 14) hp h10
    obtain ⟨s2, e2⟩ := b_rep (t := t) (lim := lim) (st := p) (pos := p + 1) (hd := p) (sn := s1) (by omega) hl
    have hc := cnt_le t (lim - (p + 1)) (p + 1)
    unfold blankL
    generalize hk : cnt t (lim - (p + 1)) (p + 1) = c at *
    by_cases hy : p + 1 + c < lim ∧ t.getD (p + 1 + c) 0 = 10
    · obtain ⟨s3, e3⟩ := b_lit2 (t := t) (lim := lim) (st := p) (pos := p + 1 + c) (hd := p + 1 + c) (fr := [fr1 (p + 1 + c) c]) (wt := 1) (sn := s2)
      rw [if_pos hy] at e3
      obtain ⟨s4, e4⟩ := b_succ (t := t) (lim := lim) (st := p) (pos := p + 1 + c + 1) (hd := p + 1 + c) (fr := [fr1 (p + 1 + c) c]) (wt := 1) (sn := s3)
      rw [decide_eq_true hy.1, beq_iff_eq.mpr hy.2]
      exact ⟨6, by omega, EndB.step rfl e1 (EndB.step rfl e2 (EndB.step rfl e3 (EndB.step rfl e4 (EndB.step rfl b_yes (EndB.step rfl b_end ⟨rfl, rfl⟩)))))⟩
    · obtain ⟨k, hk2, hE⟩ := back_ok (t := t) (lim := lim) (st := p) c (p + 1) s2 (p + 1 + c) (fun j hj => cnt_bl t (lim - (p + 1)) (p + 1) j (by omega)) hy
      have hb : (decide (p + 1 + c < lim) && t.getD (p + 1 + c) 0 == 10) = false := by
        by_cases h5 : p + 1 + c < lim
        · rw [beq_eq_false_iff_ne.mpr (fun e => hy ⟨h5, e⟩), Bool.and_false]
        · rw [decide_eq_false h5, Bool.false_and]
      rw [hb]
      exact ⟨k + 2, by omega, EndB.step rfl e1 (EndB.step rfl e2 hE)⟩
/-- the law's words for a blank line say the same -/
theorem blank_same (t : List Nat) (lim : Nat) (hl : lim ≤ t.length) : ∀ n p, lim - p = n → blankU (units ((t.take lim).drop p) p) = blankL t lim p := by
  intro n
  have hlen : (t.take lim).length = lim := by rw [List.length_take]; omega
  induction n with
  | zero =>
    intro p hp
    rw [units_nil (by omega)]
    unfold blankL
    rw [decide_eq_false (by omega), Bool.false_and]; rfl
  | succ n ih =>
    intro p hp
    have hpl : p < lim := by omega
    have h1 := ih (p + 1) (by omega)
    have hg : (t.take lim).getD p 0 = t.getD p 0 := take_get hpl
    have hc : cnt t (lim - p) p = if isBl (t.getD p 0) then cnt t (lim - (p + 1)) (p + 1) + 1 else 0 := by
      rw [show lim - p = (lim - (p + 1)) + 1 by omega]; rfl
    by_cases hb : isBl (t.getD p 0) = true
    · rw [if_pos hb] at hc
      rw [units_one (by omega) (by rw [hg]; rintro ⟨e, _⟩; rw [e] at hb; exact absurd hb (by decide)), hg]
      show (if (isBl (t.getD p 0) && !false) = true then _ else _) = _
      rw [hb, if_pos (show (true && !false) = true from rfl), h1]
      unfold blankL
      rw [hc, show p + (cnt t (lim - (p + 1)) (p + 1) + 1) = p + 1 + cnt t (lim - (p + 1)) (p + 1) by omega]
    · have hb' : isBl (t.getD p 0) = false := by simpa using hb
      rw [if_neg hb] at hc
      unfold blankL
      rw [hc, Nat.add_zero, decide_eq_true hpl, Bool.true_and]
      by_cases he : (t.take lim).getD p 0 = 92 ∧ p + 1 < (t.take lim).length ∧ isPu ((t.take lim).getD (p + 1) 0) = true
      · rw [units_esc he.2.1 he.1 he.2.2]
        show (if (isBl _ && !true) = true then _ else _) = _
        rw [Bool.not_true, Bool.and_false, if_neg Bool.false_ne_true, ← hg, he.1]
        cases h10 : ((t.take lim).getD (p + 1) 0 == 10)
        · rfl
        · rw [beq_iff_eq] at h10
          have h2 := he.2.2
          rw [h10] at h2
          exact absurd h2 (by decide)
      · rw [units_one (by omega) he, hg]
        show (if (isBl _ && !false) = true then _ else _) = _
        rw [hb', Bool.false_and, if_neg Bool.false_ne_true]

open PySem.Builtin.Re PySem.Builtin
def pat2O : Obj := { cls := .type "re.Pattern", data := .fields #[.str (Str.ofString "\\n[ \\t]*\\n") 478, .int 32 507, .int 0 0, .none, .none, .ref 73, .int 0 0] }
def cod2V : Array Value := #[.int 14 0, .int 8 0, .int 1 0, .int 2 0, .int 4294967295 0, .int 1 0, .int 1 0, .int 10 0, .int 0 0, .int 16 0, .int 10 0, .int 24 0, .int 11 0, .int 0 0, .int 4294967295 0, .int 13 0, .int 6 0, .int 16 0, .int 32 0, .int 16 0, .int 9 0, .int 0 0, .int 1 0, .int 16 0, .int 10 0, .int 1 0]
def cod2O : Obj := { cls := .type "tuple", data := .seq cod2V }
theorem cod2V_is : Array.map (fun x : Int => x.toNat) (Array.map reRawOf cod2V) = BLK := by decide +kernel
section
variable {prog : Program} {w : World} {A : Around} {E : Value → Shared → Prop} {s : Shared} {h₀ : Heap} {L : Addr} {m : Str → Option Value} {news : List (Addr × Obj)}
theorem ssize_ok {MM : Model} {n : Nat} {u : Tok} {Q : Int → Shared → Prop} (hn : n ≤ 1000) (h : Q (n : Int) s) : wpAny MM A (reSsize (.int n u)) Q E s := by
  unfold reSsize asIndex
  refine wpAny_bind (wpAny_bind (wpAny_pure (wpAny_pure ?_)))
  refine wpAny_ite_false ?_ (wpAny_pure h)
  simp; omega
theorem match_ok {t : List Nat} {tk u1 u2 : Tok} {p lim : Nat} {Q : Value → Shared → Prop} (hlen : t.length ≤ 1000) (hp : p < lim) (hl : lim ≤ t.length) (h10 : t.getD p 0 = 10)
    (h1 : s.heap.get? 74 = some pat2O) (h2 : s.heap.get? 73 = some cod2O) (F : Fr h₀ L s.heap m) (N : News h₀ L s.heap news)
    (hY : blankL t lim (p + 1) = true → ∀ a o h' tk', o.cls = .type "re.Match" → Fr h₀ L h' m → News h₀ L h' ((a, o) :: news) → Q (.ref a) { s with heap := h', toks := tk' })
    (hN : blankL t lim (p + 1) = false → Q .none s) :
    wpAny (model prog w) A (call (.builtin "re.Pattern.match") [.ref 74, .str (tx t) tk, .int p u1, .int lim u2]) Q E s := by
  refine wpAny_call (codeAny_call_builtin Mine.R.slot_match.plain Mine.R.entry_match (Mine.R.slot_match.check _ _ _ _ _ _ _ _ ⟨_, h1, rfl⟩ (Mine.R.args_match _ _ _ _) ?_))
  unfold «re.Pattern.match» reTarget
  dsimp only
  refine wpAny_bind (wpAny_bind (wpAny_of_eq (a := [some (.str (tx t) tk), some (.int p u1), some (.int lim u2)]) (by with_unfolding_all rfl) ?_))
  dsimp only
  refine wpAny_bind (ssize_ok (by omega) ?_)
  refine wpAny_bind (ssize_ok (by omega) ?_)
  refine wpAny_bind (wpAny_bind (wpAny_load h1 (wpAny_pure ?_)))
  refine wpAny_bind (wpAny_pure ?_)
  refine wpAny_ite_false rfl ?_
  refine wpAny_ite_false rfl ?_
  refine wpAny_bind ?_
  unfold reNoCollectionInside
  refine wpAny_ite_false rfl (wpAny_pure ?_)
  refine wpAny_bind ?_
  show wpAny _ _ (seqItems? (.ref 73) >>= fun x => pure ((x.getD #[]).map reRawOf)) _ _ s
  refine wpAny_bind (wpAny_seqItems h2 rfl (wpAny_pure (wpAny_pure ?_)))
  rw [show (some cod2V).getD #[] = cod2V from rfl, cod2V_is]
  have e1 : min ((p : Int).toNat) (tx t).cps.size = p := by
    have : (tx t).cps.size = t.length := tx_len t
    rw [this]; omega
  have e2 : min ((lim : Int).toNat) (tx t).cps.size = lim := by
    have : (tx t).cps.size = t.length := tx_len t
    rw [this]; omega
  dsimp only
  rw [e1, e2]
  unfold reAnswer
  dsimp only
  obtain ⟨k, hk, hE⟩ := blank_ok t p lim hp (by omega) h10
  refine wpAny_bind (end_ok k _ (by omega) ?_)
  show (Sre.M.runFor k (Sre.forMatch BLK t.toArray 0 p lim false false)).outcome = _ ∧ _ ∨ (Sre.M.runFor k (Sre.forMatch BLK t.toArray 0 p lim false false)).outcome = _ ∧ _
  cases hb : blankL t lim (p + 1) with
  | true =>
    rw [hb] at hE
    refine .inl ⟨hE.1, ?_⟩
    dsimp only
    refine wpAny_bind ?_
    unfold reNewMatch
    refine wpAny_ite_false rfl ?_
    refine wpAny_bind (newTuple_N F N (fun h1 F1 N1 => ?_) (by show (2 : Nat) ≤ sizeLine; rw [sizeLine_eq]; omega))
    refine wpAny_newObj_type (wpAny_pure ?_) (by show (6 : Nat) ≤ sizeLine + 2; rw [sizeLine_eq]; omega)
    exact hY hb _ _ _ _ rfl (F1.push _) (fun q hq => (N1.push F1 { cls := .type "re.Match", data := .fields _ }) q (by rcases List.mem_cons.mp hq with rfl | hq; exact .head _; exact .tail _ (.tail _ hq)))
  | false =>
    rw [hb] at hE
    exact .inr ⟨hE.1, wpAny_pure (hN hb)⟩
theorem truthy_mat {a : Addr} {o : Obj} {Q : Bool → Shared → Prop} (h : s.heap.get? a = some o) (ho : o.cls = .type "re.Match") (hQ : Q true s) : wpAny (model prog w) A (truthy (.ref a)) Q E s := by
  unfold truthy
  refine wpAny_bind (wpAny_callSpecial?_none (T := "re.Match") ⟨o, h, ho⟩ Mine.R.no_bool ?_)
  dsimp only
  refine wpAny_bind (wpAny_specialOf (T := "re.Match") ⟨o, h, ho⟩ Mine.R.no_len ?_)
  exact wpAny_ite_true rfl (wpAny_pure hQ)
end
end Mine
end
noncomputable section
open Lean PySem PySem.W PySem.Spec PySem.Calls PyProof.Rows
set_option maxRecDepth 100000
namespace Mine
theorem skip_units (l : List Nat) : ∀ n p, l.length - p = n → ∀ k, skipU isWs (units (l.drop p) p) k = k + (skip isWs (l.drop p) p - p) ∧ (units (l.drop p) p).drop (skip isWs (l.drop p) p - p) = units (l.drop (skip isWs (l.drop p) p)) (skip isWs (l.drop p) p) ∧ p ≤ skip isWs (l.drop p) p := by
  intro n
  induction n with
  | zero =>
    intro p hp k
    have e : skip isWs (l.drop p) p = p := (skip_e (by omega)).symm
    rw [e, Nat.sub_self, units_nil (by omega)]
    exact ⟨rfl, rfl, Nat.le_refl _⟩
  | succ n ih =>
    intro p hp k
    have hpl : p < l.length := by omega
    by_cases hw : isWs (l.getD p 0) = true
    · have e := skip_t hpl hw
      obtain ⟨a, b, c⟩ := ih (p + 1) (by omega) (k + 1)
      rw [← e, units_one hpl (ws_noesc hw)]
      refine ⟨?_, ?_, by omega⟩
      · show (if (isWs (l.getD p 0) && !false) = true then skipU isWs _ (k + 1) else k) = _
        rw [hw, if_pos (show (true && !false) = true from rfl), a]; omega
      · rw [show skip isWs (l.drop (p + 1)) (p + 1) - p = (skip isWs (l.drop (p + 1)) (p + 1) - (p + 1)) + 1 by omega]
        exact b
    · have hw' : isWs (l.getD p 0) = false := by simpa using hw
      have e := skip_f hpl hw'
      rw [← e, Nat.sub_self]
      refine ⟨?_, rfl, Nat.le_refl _⟩
      by_cases he : l.getD p 0 = 92 ∧ p + 1 < l.length ∧ isPu (l.getD (p + 1) 0) = true
      · rw [units_esc he.2.1 he.1 he.2.2]
        show (if (isWs _ && !true) = true then _ else k) = _
        rw [Bool.not_true, Bool.and_false, if_neg Bool.false_ne_true]; rfl
      · rw [units_one hpl he]
        show (if (isWs (l.getD p 0) && !false) = true then _ else k) = _
        rw [hw', Bool.false_and, if_neg Bool.false_ne_true]; rfl
theorem title_A {t : List Nat} {start lim : Nat} (hlim : lim ≤ t.length) (h : ¬ (start < lim ∧ isWs (t.getD start 0) = true)) : titleS t start lim = none := by
  have hlen : (t.take lim).length = lim := by rw [List.length_take]; omega
  unfold titleS
  dsimp only
  rw [(skip_units (t.take lim) _ start rfl 0).1]
  have e : skip isWs ((t.take lim).drop start) start = start := by
    by_cases h1 : start < lim
    · exact (skip_f (by omega) (by rw [take_get h1]; simpa using fun e => h ⟨h1, e⟩)).symm
    · exact (skip_e (by omega)).symm
  rw [e, Nat.sub_self, if_neg (fun e => e.1 rfl)]
theorem title_B {t : List Nat} {start lim : Nat} (hlim : lim ≤ t.length) (h : ¬ skip isWs ((t.take lim).drop start) start < lim) : titleS t start lim = none := by
  have hlen : (t.take lim).length = lim := by rw [List.length_take]; omega
  have hz := skip_units (t.take lim) _ start rfl 0
  unfold titleS
  dsimp only
  rw [hz.1, Nat.zero_add]
  have h2 := hz.2.1
  generalize skip isWs ((t.take lim).drop start) start = p at *
  rw [units_nil (t := t.take lim) (p := p) (by omega)] at h2
  rw [if_neg]
  rintro ⟨_, h3, _⟩
  have := congrArg List.length h2
  rw [List.length_drop, List.length_nil] at this
  omega
theorem title_CD {t : List Nat} {start lim : Nat} (hlim : lim ≤ t.length) (h0 : start < lim) (hw : isWs (t.getD start 0) = true) (h : skip isWs ((t.take lim).drop start) start < lim) :
    titleS t start lim = if isOp (t.getD (skip isWs ((t.take lim).drop start) start) 0) = true then titleU (t.getD (skip isWs ((t.take lim).drop start) start) 0) (units ((t.take lim).drop (skip isWs ((t.take lim).drop start) start + 1)) (skip isWs ((t.take lim).drop start) start + 1)) [] else none := by
  have hlen : (t.take lim).length = lim := by rw [List.length_take]; omega
  have hz := skip_units (t.take lim) _ start rfl 0
  have hs := skip_t (W := isWs) (t := t.take lim) (p := start) (by omega) (by rw [take_get h0]; exact hw)
  have hle := (skip_le isWs ((t.take lim).drop (start + 1)) (start + 1)).1
  unfold titleS
  dsimp only
  rw [hz.1, Nat.zero_add]
  generalize hp : skip isWs ((t.take lim).drop start) start = p at *
  generalize hus : units ((t.take lim).drop start) start = us at *
  have h2 := hz.2.1
  have hg : (t.take lim).getD p 0 = t.getD p 0 := take_get h
  have hk : p - start < us.length := by
    apply Classical.byContradiction
    intro hn
    rw [List.drop_eq_nil_of_le (by omega)] at h2
    by_cases he : (t.take lim).getD p 0 = 92 ∧ p + 1 < (t.take lim).length ∧ isPu ((t.take lim).getD (p + 1) 0) = true
    · rw [units_esc he.2.1 he.1 he.2.2] at h2; exact nomatch h2
    · rw [units_one (by omega) he] at h2; exact nomatch h2
  rw [dropU hk] at h2
  by_cases he : (t.take lim).getD p 0 = 92 ∧ p + 1 < (t.take lim).length ∧ isPu ((t.take lim).getD (p + 1) 0) = true
  · rw [units_esc he.2.1 he.1 he.2.2] at h2
    obtain ⟨h3, h4⟩ := List.cons.inj h2
    rw [h3, ← hg, he.1, if_neg (fun e => Bool.noConfusion e.2.2.1), if_neg (by decide)]
  · rw [units_one (by omega) he] at h2
    obtain ⟨h3, h4⟩ := List.cons.inj h2
    rw [h3, h4, hg]
    dsimp only
    by_cases ho : isOp (t.getD p 0) = true
    · rw [if_pos ⟨by omega, hk, rfl, ho⟩, if_pos ho]
    · rw [if_neg (fun e => ho e.2.2.2), if_neg ho]
theorem title_esc {t : List Nat} {lim op p : Nat} {acc : List Nat} (hlim : lim ≤ t.length) (h : p + 1 < lim) (h1 : t.getD p 0 = 92) (h2 : isPu (t.getD (p + 1) 0) = true) :
    titleU op (units ((t.take lim).drop p) p) acc = titleU op (units ((t.take lim).drop (p + 2)) (p + 2)) (acc ++ [t.getD (p + 1) 0]) := by
  have hlen : (t.take lim).length = lim := by rw [List.length_take]; omega
  rw [units_esc (by omega) (by rw [take_get (by omega)]; exact h1) (by rw [take_get h]; exact h2), take_get h]
  rfl
theorem title_one {t : List Nat} {lim op p : Nat} {acc : List Nat} (hlim : lim ≤ t.length) (h : p < lim) (hn : ¬ (t.getD p 0 = 92 ∧ p + 1 < lim ∧ isPu (t.getD (p + 1) 0) = true)) :
    titleU op (units ((t.take lim).drop p) p) acc = if (t.getD p 0 == 0 || (t.getD p 0 == 40 && op == 40)) = true then none else if (t.getD p 0 == 10 && blankL t lim (p + 1)) = true then none
      else if (t.getD p 0 == clOf op) = true then some (acc, p + 1) else titleU op (units ((t.take lim).drop (p + 1)) (p + 1)) (acc ++ [t.getD p 0]) := by
  have hlen : (t.take lim).length = lim := by rw [List.length_take]; omega
  rw [units_one (by omega) (by
    rw [take_get h, hlen]
    rintro ⟨a, b, c⟩
    rw [take_get b] at c
    exact hn ⟨a, b, c⟩), take_get h, ← blank_same t lim hlim _ (p + 1) rfl]
  rfl
theorem title_over {t : List Nat} {lim op p : Nat} {acc : List Nat} (h : ¬ p < lim) : titleU op (units ((t.take lim).drop p) p) acc = none := by
  rw [units_nil (by rw [List.length_take]; omega)]
  rfl
/-- what is read between two places -/
inductive Seg (t : List Nat) (lim : Nat) : Nat → Nat → List Nat → Prop
  | nil {p} : Seg t lim p p []
  | esc {p q acc} : p + 1 < lim → t.getD p 0 = 92 → isPu (t.getD (p + 1) 0) = true → Seg t lim (p + 2) q acc → Seg t lim p q (t.getD (p + 1) 0 :: acc)
  | one {p q acc} : p < lim → ¬ (t.getD p 0 = 92 ∧ p + 1 < lim ∧ isPu (t.getD (p + 1) 0) = true) → Seg t lim (p + 1) q acc → Seg t lim p q (t.getD p 0 :: acc)
theorem Seg.snocE {t : List Nat} {lim p q : Nat} {acc : List Nat} (h : Seg t lim p q acc) (h0 : q + 1 < lim) (h1 : t.getD q 0 = 92) (h2 : isPu (t.getD (q + 1) 0) = true) : Seg t lim p (q + 2) (acc ++ [t.getD (q + 1) 0]) := by
  induction h with
  | nil => exact .esc h0 h1 h2 .nil
  | esc a b c _ ih => exact .esc a b c (ih h0 h1 h2)
  | one a b _ ih => exact .one a b (ih h0 h1 h2)
theorem Seg.snocO {t : List Nat} {lim p q : Nat} {acc : List Nat} (h : Seg t lim p q acc) (h0 : q < lim) (h1 : ¬ (t.getD q 0 = 92 ∧ q + 1 < lim ∧ isPu (t.getD (q + 1) 0) = true)) : Seg t lim p (q + 1) (acc ++ [t.getD q 0]) := by
  induction h with
  | nil => exact .one h0 h1 .nil
  | esc a b c _ ih => exact .esc a b c (ih h0 h1)
  | one a b _ ih => exact .one a b (ih h0 h1)
theorem Seg.le {t : List Nat} {lim p q : Nat} {acc : List Nat} (h : Seg t lim p q acc) : p ≤ q := by
  induction h with
  | nil => exact Nat.le_refl _
  | esc _ _ _ _ ih => omega
  | one _ _ _ ih => omega
theorem Seg.units {t : List Nat} {lim p q : Nat} {acc : List Nat} (h : Seg t lim p q acc) (hq : q ≤ t.length) (hl : q ≤ lim) : (units ((t.take q).drop p) p).map (·.1) = acc := by
  have hlen : (t.take q).length = q := by rw [List.length_take]; omega
  induction h with
  | nil => rw [units_nil (by omega)]; rfl
  | @esc p q acc a b c h ih =>
    have hle := h.le
    rw [units_esc (by omega) (by rw [take_get (by omega)]; exact b) (by rw [take_get (by omega)]; exact c), take_get (by omega), List.map_cons, ih hq hl hlen]
  | @one p q acc a b h ih =>
    have hle := h.le
    rw [units_one (by omega) (by
      rw [take_get (by omega), hlen]
      rintro ⟨x, y, z⟩
      rw [take_get y] at z
      exact b ⟨x, by omega, z⟩), take_get (by omega), List.map_cons, ih hq hl hlen]
theorem Seg.unesc {t : List Nat} {lim p q : Nat} {acc : List Nat} (h : Seg t lim p q acc) (hq : q ≤ t.length) (hl : q ≤ lim) : unesc ((t.take q).drop p) = acc := by
  have e := congrArg (List.map Prod.fst) (units_shift ((t.take q).drop p) 0 p)
  rw [List.map_map, List.map_map] at e
  rw [← h.units hq hl]
  exact e
theorem cut_cat {t : List Nat} {p q r : Nat} (h1 : p ≤ q) (h2 : q ≤ r) : (t.take q).drop p ++ (t.take r).drop q = (t.take r).drop p := by
  rw [List.drop_take, List.drop_take, List.drop_take]
  have e : (t.drop q) = (t.drop p).drop (q - p) := by rw [List.drop_drop]; congr 1; omega
  rw [e, ← List.take_append_drop (q - p) (((t.drop p)).take (r - p)), List.take_take, Nat.min_eq_left (by omega), List.drop_take]
  congr 2
  omega
theorem closer_of {v : Value} {c : Nat} {t1 t2 t3 t4 t5 t6 : Tok} (h : PyProof.V.Flat v ((Spec.lookup (.str (tx [c])) (strData [(.str (Str.ofString "'") t1, .str (Str.ofString "'") t2), (.str (Str.ofString "\"") t3, .str (Str.ofString "\"") t4), (.str (Str.ofString "(") t5, .str (tx [41]) t6)])).getD .none)) :
    (isOp c = false ∧ v = .none) ∨ (isOp c = true ∧ ∃ t, v = .str (tx [clOf c]) t) := by
  have e1 : Str.ofString "'" = tx [39] := by decide +kernel
  have e2 : Str.ofString "\"" = tx [34] := by decide +kernel
  have e3 : Str.ofString "(" = tx [40] := by decide +kernel
  rw [e1, e2, e3] at h
  have hx : ∀ d, (tx [d] == tx [c]) = (d == c) := fun d => by
    cases hd : d == c with
    | true => rw [beq_iff_eq] at hd; subst hd; simp
    | false =>
      rw [beq_eq_false_iff_ne] at hd ⊢
      intro e; exact hd (List.cons.inj (tx_inj e)).1
  have e : Spec.lookup (.str (tx [c])) (strData [(.str (tx [39]) t1, .str (tx [39]) t2), (.str (tx [34]) t3, .str (tx [34]) t4), (.str (tx [40]) t5, .str (tx [41]) t6)])
      = if (39 == c) = true then some (.str (tx [39])) else if (34 == c) = true then some (.str (tx [34])) else if (40 == c) = true then some (.str (tx [41])) else none := by
    rw [← hx, ← hx, ← hx]; rfl
  rw [e] at h
  by_cases h39 : c = 39
  · subst h39; exact .inr ⟨rfl, h.str_inv⟩
  · by_cases h34 : c = 34
    · subst h34; exact .inr ⟨rfl, h.str_inv⟩
    · by_cases h40 : c = 40
      · subst h40; exact .inr ⟨rfl, h.str_inv⟩
      · rw [if_neg (by simp; omega), if_neg (by simp; omega), if_neg (by simp; omega)] at h
        refine .inl ⟨?_, h.none_inv⟩
        unfold isOp; simp [h39, h34, h40]

theorem join_ok {prog : Program} {w : World} {A : Around} {E : Value → Shared → Prop} {s : Shared} {h₀ : Heap} {L D : Addr} {news : List (Addr × Obj)} {t : Tok} {ps : List (List Nat)} {vs : List Value} {nn : Nat} {Q : Value → Shared → Prop}
    (N : News h₀ L s.heap news) (hm : (D, listOf vs.toArray nn) ∈ news) (V : StrsAre vs (ps.map tx)) (h1 : ps.flatten.length ≤ 20000) (h2 : vs.length ≤ 20000)
    (h : ∀ t' k, Q (.str (tx ps.flatten) t') { s with toks := k }) : wpAny (model prog w) A (call (.builtin "str.join") [.str (tx []) t, .ref D]) Q E s := by
  refine join_listW (N.isList hm) (x := tx []) (ys := ps.map tx) V (by rw [tx_len]; decide) ?_ fun t' k => ?_
  · have e : (ps.map tx).map (·.length) = ps.map List.length := by simp [tx_len]
    have := StrsAre.len V
    rw [e, ← List.length_flatten]
    omega
  · rw [join_tx]; exact h _ _
end Mine
end
noncomputable section
open Lean PySem PySem.W PySem.Spec PySem.Calls PyProof.Rows
set_option maxRecDepth 100000
namespace Mine
theorem fill_F8 : 0 = 0 ∧ 0 = 0 := by
  try walk1
  w_top off
  all_goals first | rfl | exact ⟨rfl, rfl⟩
local macro_rules | `(tactic| walk_at "noloop") => `(tactic| first
  | ((fail_if_success (fail_if_success (with_reducible show wpAny _ _ (execs _ _) _ _ _))); fail_if_success ((with_reducible refine st_execs ?_ ?_); (focus rfl)))
  | ((fail_if_success (fail_if_success (with_reducible show wpAny _ _ (exec _ _) _ _ _))); fail_if_success ((with_reducible refine st_exec ?_ ?_); (focus rfl)))
  | ((fail_if_success (with_reducible show wpAny _ _ (execs _ _) _ _ _)); (fail_if_success (with_reducible show wpAny _ _ (exec _ _) _ _ _)); (fail_if_success (with_reducible show wpAny _ _ (eval (Expr.ListComp _ _ _ _) _) _ _ _)); (fail_if_success (with_reducible show wpAny _ _ (pyIter _) _ _ _)); (fail_if_success (with_reducible show wpAny _ _ (truthy (Value.str (tx _) _)) _ _ _))))
local macro_rules | `(tactic| walk_at "go") => `(tactic| repeat' (first
  | (k_unfold; (try dsimp only))
  | (walk_at "noloop"; walk1)
  | (dsimp only; walk_at "noloop"; walk1)))
local macro_rules | `(tactic| walk_at "look") => `(tactic| ((try dsimp only); repeat' (first | exact List.forall_mem_nil _ | (refine List.forall_mem_cons.mpr ⟨by with_unfolding_all rfl, ?_⟩))))
local macro_rules | `(tactic| walk_at "ix") => `(tactic| first | omega | (simp only [List.length_take, List.length_drop] at *; omega))
local macro_rules | `(tactic| walk_at "subscriptTail Name Name str int") => `(tactic| ((with_reducible show wpAny _ _ (subscriptTail _ _ (Value.str (tx _) _) (Value.int _ _)) _ _ _); refine r_item (by walk_at "ix") (by walk_at "ix") (by walk_at "ix") ?_))
local macro_rules | `(tactic| walk_at "subscriptTail Name BinOp str int") => `(tactic| ((with_reducible show wpAny _ _ (subscriptTail _ _ (Value.str (tx _) _) (Value.int _ _)) _ _ _); refine r_item (by walk_at "ix") (by walk_at "ix") (by walk_at "ix") ?_))
local macro_rules | `(tactic| walk_at "compareOp In str str") => `(tactic| ((with_reducible show wpAny _ _ (compareOp _ (Value.str (tx _) _) (Value.str _ _)) _ _ _); refine r_in ?_))
local macro_rules | `(tactic| walk_at "compareOp NotIn str str") => `(tactic| ((with_reducible show wpAny _ _ (compareOp _ (Value.str (tx _) _) (Value.str _ _)) _ _ _); refine r_notin ?_))
local macro_rules | `(tactic| walk_at "compareOp Eq str str") => `(tactic| ((with_reducible show wpAny _ _ (compareOp _ (Value.str (tx _) _) (Value.str _ _)) _ _ _); refine r_eq ?_))
local macro_rules | `(tactic| walk_at "compareOp NotEq str str") => `(tactic| ((with_reducible show wpAny _ _ (compareOp _ (Value.str (tx _) _) (Value.str _ _)) _ _ _); refine r_ne ?_))
local macro_rules | `(tactic| walk_at "call builtin:ord") => `(tactic| ((with_reducible show wpAny _ _ (call _ [Value.str (tx _) _]) _ _ _); refine r_ord ?_))
local macro_rules | `(tactic| walk_at "call builtin:len") => `(tactic| ((with_reducible show wpAny _ _ (call _ [Value.str (tx _) _]) _ _ _); refine r_len (by walk_at "ix") ?_))
local macro_rules | `(tactic| walk_at "compareOp In str str") => `(tactic| ((with_reducible show wpAny _ _ (compareOp _ (Value.str (tx _) _) (Value.str _ _)) _ _ _); first | refine r_in2 isWs H_ws ?_ | refine r_in2 isBl H_bl ?_ | refine r_in2 isNl H_nl ?_ | refine r_in2 isBad H_bad ?_ | refine r_in2 isPu H_pu ?_))
local macro_rules | `(tactic| walk_at "compareOp NotIn str str") => `(tactic| ((with_reducible show wpAny _ _ (compareOp _ (Value.str (tx _) _) (Value.str _ _)) _ _ _); first | refine r_notin2 isWs H_ws ?_ | refine r_notin2 isPu H_pu ?_))
local macro_rules | `(tactic| walk_at "compareOp Eq str str") => `(tactic| ((with_reducible show wpAny _ _ (compareOp _ (Value.str (tx _) _) (Value.str _ _)) _ _ _); first | refine r_eq1 L_lt ?_ | refine r_eq1 L_gt ?_ | refine r_eq1 L_bs ?_ | refine r_eq1 L_lp ?_ | refine r_eq1 L_rp ?_ | refine r_eq1 L_del ?_ | refine r_eq1 L_nul ?_ | refine r_eq1 L_n ?_ | refine r_eq1 L_r ?_))
local macro_rules | `(tactic| walk_at "compareOp NotEq str str") => `(tactic| ((with_reducible show wpAny _ _ (compareOp _ (Value.str (tx _) _) (Value.str _ _)) _ _ _); first | refine r_ne1 L_rp ?_))
local macro_rules | `(tactic| walk_at "subscriptTail Name Slice str ref") => `(tactic| ((with_reducible show wpAny _ _ (subscriptTail _ (Expr.Slice (some _) (some _) none _) (Value.str (tx _) _) _) _ _ _); (with_reducible rename Fr _ _ _ _ => F'); (with_reducible rename News _ _ _ _ => N'); (refine r_slice (s := ⟨_, _, _, _, _⟩) (by walk_at "ix") (by walk_at "ix") (by walk_at "ix") F' N' ?_); intro _ _ _ _ _))
local macro_rules | `(tactic| walk_at "compareOp Eq str str") => `(tactic| ((with_reducible show wpAny _ _ (compareOp _ (Value.str (tx _) _) (Value.str _ _)) _ _ _); refine r_eqL L_rn ?_))
local macro_rules | `(tactic| walk_at "fact") => `(tactic| first | assumption | exact beq_iff_eq.mp (by assumption) | exact beq_eq_false_iff_ne.mp (by assumption) | omega)
local macro_rules | `(tactic| walk_at "noesc") => `(tactic| (rintro ⟨e1, e2, e3⟩; first | exact absurd e1 (beq_eq_false_iff_ne.mp (by assumption)) | exact Bool.noConfusion (Eq.trans (Eq.symm (show isPu _ = false from by assumption)) e3) | exact absurd (Eq.trans (Eq.symm e1) (beq_iff_eq.mp (show (List.getD _ _ _ == _) = true from by assumption))) (by decide) | omega))
local macro_rules | `(tactic| walk_at "cx") => `(tactic| exact ⟨by k_asm, by k_asm, by k_asm, by k_asm, by k_asm, rfl, rfl, rfl, rfl, (by (show _ + _ < _); omega), (by (show _ + 8 * _ < _); omega)⟩)
local macro_rules | `(tactic| walk_at "call ref") => `(tactic| ((with_reducible show wpAny _ _ (call (Value.ref 137) _ _) _ _ _); refine c_begin _ _ _ _ (by walk_at "cx") (by omega) ?_; intro t9 h9 k9 F9 N9; (try dsimp only)))
local macro_rules | `(tactic| walk_at "call ref") => `(tactic| ((with_reducible show wpAny _ _ (call (Value.ref 144) _ _) _ _ _); refine c_angle _ _ _ _ (by walk_at "cx") (by omega) (by omega) ?_ ?_; (all_goals intros); (all_goals (try dsimp only))))
local macro_rules | `(tactic| walk_at "call builtin:min") => `(tactic| ((with_reducible show wpAny _ _ (call (Value.builtin _) [Value.int _ _, Value.int _ _]) _ _ _); refine r_min (by omega) rfl (by assumption) (by assumption) ?_; intro h9 t9 k9 F9 N9))
local macro_rules | `(tactic| walk_at "retx") => `(tactic| (dsimp only; refine hret' _ _ _ _ _ _ (by assumption) (by assumption) fun F2 N2 => ?_))
local macro_rules | `(tactic| walk_at "upd") => `(tactic| first | exact Upd.head (by assumption) | (refine' Upd.tail ?a ?b; (case a => k_ne); (case b => walk_at "upd")))
local macro_rules | `(tactic| walk_at "sz") => `(tactic| ((try simp only [List.size_toArray, PySem.sizeLine_eq]); omega))
local macro_rules | `(tactic| walk_at "call builtin:list.append") => `(tactic| (k_here; (with_reducible show wpAny _ _ (call (Value.builtin _) [Value.ref _, _]) _ _ _); (refine' append_K ?k1 ?k2 ?k3 ?_ ?z; (case k1 => k_asm); (case k2 => k_asm); (case k3 => walk_at "upd"); (case z => walk_at "sz"); k_whole); intro h' F' N'; (try simp only [List.push_toArray] at N'); (try k_sweep)))
local macro_rules | `(tactic| walk_at "call ref") => `(tactic| ((with_reducible show wpAny _ _ (call (Value.ref 192) _ _) _ _ _); refine c_lbegin _ _ _ _ (by walk_at "cx") (by omega) ?_; intro t9 h9 k9 F9 N9; (try dsimp only)))
local macro_rules | `(tactic| walk_at "call ref") => `(tactic| ((with_reducible show wpAny _ _ (call (Value.ref 166) _ _) _ _ _); refine c_units _ _ _ _ _ _ (by walk_at "cx") (by walk_at "ix") (by walk_at "ix") ?_; intro a9 n9 vs9 tl9 h9 k9 U9 F9 N9 d9; (try dsimp only)))
local macro_rules | `(tactic| walk_at "subscriptTail Name Constant ref int") => `(tactic| ((with_reducible show wpAny _ _ (subscriptTail _ _ (Value.ref _) (Value.int _ _)) _ _ _); (with_unfolding_all refine' item_litK ?k1 ?k2 ?k3 ?k4 ?_ ?k6; (case k1 => exact News.isList (by k_asm) (by first | k_mem | walk_at "mem")); (case k2 => decide); (case k3 => decide); (case k4 => rfl); (case k6 => with_unfolding_all rfl); k_whole)))
local macro_rules | `(tactic| walk_at "offx") => `(tactic| (intro _; repeat' (first | exact List.forall_mem_nil _ | (refine List.forall_mem_cons.mpr ⟨by (show Str.ofString _ ≠ Str.ofString _); decide, ?_⟩))))
local macro_rules | `(tactic| walk_at "sub") => `(tactic| (intro q hq; (try simp only [List.cons_append, List.append_assoc, List.mem_cons, List.mem_append, List.not_mem_nil, or_false, or_assoc] at hq ⊢); (repeat' (first | exact hq | (refine Or.elim hq (fun hq => ?_) (fun hq => ?_)) | exact Or.inl hq | (refine Or.inr ?_)))))
local macro_rules | `(tactic| walk_at "mem") => `(tactic| first | assumption | exact List.mem_cons_self | (refine List.mem_cons_of_mem _ ?_; walk_at "mem") | (refine List.mem_append_left _ ?_; walk_at "mem") | (refine List.mem_append_right _ ?_; walk_at "mem"))
local macro_rules | `(tactic| walk_at "subscriptTail Name Name ref int") => `(tactic| ((with_reducible show wpAny _ _ (subscriptTail _ _ (Value.ref _) (Value.int _ _)) _ _ _); (with_unfolding_all refine' r_unit ?k1 ?k2 ?k3 ?k4 ?k5 ?k6 ?_ ?k7; (case k1 => k_asm); (case k2 => walk_at "mem"); (case k3 => assumption); (case k4 => omega); (case k5 => omega); (case k6 => omega); (case k7 => with_unfolding_all rfl)); intro a8 t8 t7 n8 m8))
local macro_rules | `(tactic| walk_at "subscriptTail Subscript") => `(tactic| with_reducible refine r_turn ?_)
local macro_rules | `(tactic| walk_at "compareOp Eq str str") => `(tactic| ((with_reducible show wpAny _ _ (compareOp _ (Value.str (tx _) _) (Value.str (tx _) _)) _ _ _); refine r_eqT ?_))
local macro_rules | `(tactic| walk_at "compareOp NotEq str str") => `(tactic| ((with_reducible show wpAny _ _ (compareOp _ (Value.str (tx _) _) (Value.str (tx _) _)) _ _ _); refine r_neT ?_))
local macro_rules | `(tactic| walk_at "compareOp NotIn str str") => `(tactic| ((with_reducible show wpAny _ _ (compareOp _ (Value.str (tx _) _) (Value.str _ _)) _ _ _); refine r_notin2 isOp H_open ?_))
local macro_rules | `(tactic| walk_at "eval Constant str") => `(tactic| with_reducible (first | refine r_const E_rp ?_ | refine r_const E_nil ?_))
local macro_rules | `(tactic| walk_at "binaryOp Add str str") => `(tactic| ((with_reducible show wpAny _ _ (binaryOp _ (Value.str (tx _) _) (Value.str (tx _) _)) _ _ _); refine r_cat (by first | omega | (simp only [List.length_append, List.length_cons, List.length_nil]; omega)) ?_; intro t9 k9))
local macro_rules | `(tactic| walk_at "call builtin:len") => `(tactic| ((with_reducible show wpAny _ _ (call (Value.builtin "len") [Value.ref _]) _ _ _); refine r_lenU (by k_asm) (by walk_at "mem") (by assumption) (by omega) ?_; intro t9 k9))
local macro_rules | `(tactic| walk_at "eval Name") => `(tactic| first
  | ((with_reducible refine' ld ?k1 ?k2 ?_ ?k3 ?k4 ?k5); (case k4 => kernel_rfl!); (case k1 => k_asm); (case k2 => k_dflt (exact rfl)); (case k3 => k_dflt (exact rfl)); (case k5 => decide); k_whole)
  | ((with_reducible refine' name_K ?k0 ?k1 ?k2 ?k3 ?_ ?k4 ?k5 ?k6); (case k5 => kernel_rfl!); (case k0 => k_asm); (case k1 => k_asm); (case k2 => k_asm); (case k3 => k_dflt k_is); (case k4 => k_dflt (exact rfl)); (case k6 => decide); k_whole))
local macro_rules | `(tactic| walk_at "ite") => `(tactic| first | with_reducible refine ite_tt ?_ | with_reducible refine ite_ff ?_ | with_reducible refine ite_True_then ?_ | with_reducible refine ite_False_else ?_ | (k_openite; first | refine ite_pos (by with_reducible assumption) ?_ | refine ite_neg (by with_reducible assumption) ?_ | refine ite_isFalse (by with_reducible assumption) ?_ | (with_reducible refine split_ine ?_ ?_ <;> intro _) | (with_reducible refine split_ieq ?_ ?_ <;> intro _) | with_reducible refine split_not ?_ | (refine split_dec ?_ ?_ <;> intro _) | (refine split_bool ?_ ?_ <;> intro _)))
local macro_rules | `(tactic| walk_at "callWith ref") => `(tactic| first
  | ((with_reducible refine' callWith_K ?k1 ?k2 ?_ ?k3 ?k4); (case k1 => k_asm); (case k2 => k_dflt k_is); (case k3 => k_dflt (exact rfl)); (case k4 => k_dflt (exact rfl)); k_whole)
  | ((with_reducible refine' callWith_K0 ?k1 ?k2 ?_); (case k1 => k_dflt k_in); (case k2 => k_dflt k_is); k_whole)
  | ((with_reducible refine' callWith_KW ?k1 ?k2 ?k3 ?_ ?k4 ?k5); (case k1 => k_asm); (case k2 => k_dflt k_is); (case k3 => k_dflt (exact rfl)); (case k4 => k_dflt (exact rfl)); (case k5 => k_dflt (exact rfl)); k_whole))

local macro_rules | `(tactic| walk_at "call ref") => `(tactic| ((with_reducible show wpAny _ _ (call (Value.ref 130) [_, _, _] _) _ _ _); refine c_skip _ _ _ _ _ _ (by walk_at "cx") (by omega) (by omega) ?_; intro t9 h9 k9 F9 N9; (try dsimp only)))
local macro_rules | `(tactic| walk_at "getMethod ref") => `(tactic| ((with_reducible show wpAny _ _ (getMethod (Value.ref 74) _ _) _ _ _); (with_reducible rename Fr _ _ _ _ => F'); (with_reducible rename Frag.In _ _ => X'); refine' getMethod_builtin ?k1 R.pa_pat R.slot_match R.type_match ?k2 ?_; (case k1 => exact ⟨pat2O, F'.keep _ _ (X' _ _ rfl), rfl⟩); (case k2 => (intro a e; cases e; exact ⟨pat2O, F'.keep _ _ (X' _ _ rfl), rfl⟩))))
local macro_rules | `(tactic| walk_at "call builtin:re.Pattern.match") => `(tactic| ((with_reducible rename Fr _ _ _ _ => F'); (with_reducible rename News _ _ _ _ => N'); (with_reducible rename Frag.In _ _ => X'); refine match_ok (by omega) (by omega) (by omega) (beq_iff_eq.mp (by assumption)) (F'.keep _ _ (X' _ _ rfl)) (F'.keep _ _ (X' _ _ rfl)) F' N' ?_ ?_; (all_goals intros); (all_goals (try dsimp only))))
local macro_rules | `(tactic| walk_at "truthy ref") => `(tactic| ((with_reducible rename (_ = Value.type "re.Match") => hcls'); (with_reducible rename News _ _ _ _ => N'); refine truthy_mat (N' _ (.head _)).1 hcls' ?_))
def cv (op : Nat) : Option Tok → Value | none => .none | some t => .str (tx [clOf op]) t
set_option maxHeartbeats 4000000 in
theorem c_title {w : World} {loose : List Str} {mean : ExcName → Option Value} {mg mb : Str → Option Value} {k dp un : Nat} {gd : Option (List Code)}
    {A₀ : Around} {env : Env} {outer : List Env} {base h₀ : Heap} {L : Addr} {m : Str → Option Value} {news : List (Addr × Obj)} {s : Shared}
    {E Q : Value → Shared → Prop} (l : List Nat) (start lim : Nat) (t1 t2 t3 : Tok) (b : Option (Addr × Obj))
    (C : Cx w loose mean mg mb (k + 4) ⟨none, dp, some (env :: outer), gd, un⟩ A₀ env outer base h₀ L m (tabL b ++ news) s)
    (hl : l.length ≤ 1000) (hlim : lim ≤ l.length) (CH : CodeHd base 80 76) (hb : tabG b) (hr : okR news)
    (hret1 : ∀ tt e a ta tb b' h' tk', titleS l start lim = some (tt, e) → tabG b' → Fr h₀ L h' m → News h₀ L h' ((a, tupOf [.str (tx tt) ta, .int (e : Nat) tb]) :: (tabL b' ++ news)) → Q (.ref a) { s with heap := h', toks := tk' })
    (hret2 : ∀ a h' tk', titleS l start lim = none → Fr h₀ L h' m → News h₀ L h' ((a, tupOf [.none, .none]) :: (tabL b ++ news)) → Q (.ref a) { s with heap := h', toks := tk' }) :
    wpAny (model PySem.Challenge.pw_br5019_01 w) ⟨none, dp, some (env :: outer), gd, un⟩ (call (.ref 106) [.str (tx l) t1, .int start t2, .int lim t3]) Q E s := by
  refine enter [(Str.ofString "src", .str (tx l) t1), (Str.ofString "start_pos", .int start t2), (Str.ofString "max_pos", .int lim t3)] C (by k_is) (by k_is) (BindsTo.of_eq rfl) rfl rfl rfl (by decide) (locs rfl) ?_
  intro g L' h' tk Q' F' N' B' X' T' hd hu hret'
  generalize hled : tabL b ++ news = led at *
  walk_at "go"
  · refine hret' _ _ _ _ _ _ (by assumption) (by assumption) fun F2 N3 => ?_
    exact hret2 _ _ _ (title_A hlim (fun e => by omega)) F2 (subN N3 (by walk_at "sub"))
  · refine hret' _ _ _ _ _ _ (by assumption) (by assumption) fun F2 N3 => ?_
    exact hret2 _ _ _ (title_B hlim (by omega)) F2 (subN N3 (by walk_at "sub"))
  · rename_i t9 h9 k9 h7 hlt9 h8 F8 N8
    have hp9 : skip isWs (List.drop start (List.take lim l)) start < lim := by omega
    have hsl : start < lim := by omega
    have hws : isWs (l.getD start 0) = true := by first | assumption | simpa using ‹_›
    have hS := title_CD hlim hsl hws hp9
    generalize hp0 : skip isWs (List.drop start (List.take lim l)) start = p9 at *
    generalize hto : tk = to at *
    obtain ⟨op, hop⟩ : ∃ op, op = l.getD p9 0 := ⟨_, rfl⟩
    (try dsimp only)
    with_reducible (refine cut (h₀ := g) (L := L') (τ := Option Tok) (fun _ => led) (fun c => [(Str.ofString "src", .str (tx l) t1), (Str.ofString "max_pos", .int lim t3), (Str.ofString "pos", .int p9 t9), (Str.ofString "opener", .str (tx [op]) to), (Str.ofString "closer", cv op c)]) (fun c => c.isSome = isOp op) ?_ ?_)
    · intro D hD
      dsimp only at hD ⊢
      subst hop
      walk_at "go"
      with_reducible rename PyProof.V.Flat _ _ => hv
      rcases closer_of hv with ⟨ho, rfl⟩ | ⟨ho, tq, rfl⟩
      · exact hD none _ _ _ _ (by assumption) (by assumption) (fun q hq => .tail _ hq) (by walk_at "look") ho.symm
      · exact hD (some tq) _ _ _ _ (by assumption) (by assumption) (fun q hq => .tail _ hq) (by walk_at "look") ho.symm
    · rw [← hop] at hS
      clear hop F8 N8
      rintro (_ | tc) u h tk2 hc F N
      · dsimp only [cv] at hc F N ⊢
        rw [if_neg (by rw [← hc]; exact Bool.false_ne_true)] at hS
        walk_at "go"
        refine hret' _ _ _ _ _ _ (by assumption) (by assumption) fun F2 N3 => ?_
        exact hret2 _ _ _ (hS) F2 (subN N3 (by walk_at "sub"))
      · dsimp only [cv] at hc F N ⊢
        have hop : isOp op = true := hc.symm
        rw [if_pos hop] at hS
        walk_at "go"
        rename_i h4 D0 h5 hD0 h6 F6 N6
        have hDn : ∀ p ∈ led, p.1 ≠ D0 := fun p hp e => absurd (e ▸ hD0 p hp) (Nat.lt_irrefl _)
        refine wh (σ := (Nat × Tok) × List Nat × List (List Nat) × List Value × Nat) (τ := Unit) (fun c => (D0, listOf c.2.2.2.1.toArray c.2.2.2.2) :: led) (fun c => [(Str.ofString "src", .str (tx l) t1), (Str.ofString "max_pos", .int lim t3), (Str.ofString "opener", .str (tx [op]) to), (Str.ofString "closer", .str (tx [clOf op]) tc), (Str.ofString "title", .ref D0), (Str.ofString "pos", .int c.1.1 c.1.2)])
          (fun c => Seg l lim (p9 + 1) c.1.1 c.2.1 ∧ c.1.1 ≤ lim ∧ StrsAre c.2.2.2.1 (c.2.2.1.map tx) ∧ c.2.2.1.flatten = (l.take c.1.1).drop (p9 + 1) ∧ c.2.2.2.1.length ≤ c.1.1 ∧ titleU op (units ((l.take lim).drop c.1.1) c.1.1) c.2.1 = titleS l start lim)
          (fun c => lim - c.1.1) ((p9 + 1, _), [], [], [], 0)
          (fun _ => led) (fun _ => []) (fun _ => titleS l start lim = none)
          (by assumption) (by assumption) (fun _ h => h) (by walk_at "look") ⟨.nil, by show p9 + 1 ≤ lim; omega, .nil, (show ([] : List (List Nat)).flatten = (l.take (p9 + 1)).drop (p9 + 1) from (List.drop_eq_nil_of_le (by rw [List.length_take]; omega)).symm), Nat.zero_le _, hS.symm⟩ ?_ ?_
        · rintro ⟨⟨p, tp⟩, acc, ps, vs, nn⟩ u h tk3 Q'' D ⟨hsg, hpl, hV, hfl, hvl, hp⟩ F N hnext hbrk hret3
          dsimp only at hsg hpl hV hfl hvl hp F N hnext hbrk ⊢
          walk_at "go"
          · have hp5 : p < lim := by omega
            have hul : ((l.take p).drop (p9 + 1)).length ≤ 1000 := by rw [List.length_drop, List.length_take]; omega
            (try dsimp only)
            with_reducible (refine ifm (h₀ := g) (L := L') (τ := Tok) (fun _ => (D0, listOf vs.toArray nn) :: led) (fun c => [(Str.ofString "src", .str (tx l) t1), (Str.ofString "max_pos", .int lim t3), (Str.ofString "opener", .str (tx [op]) to), (Str.ofString "closer", .str (tx [clOf op]) tc), (Str.ofString "title", .ref D0), (Str.ofString "pos", .int p tp), (Str.ofString "c", .str (tx [l.getD p 0]) c)]) (fun b _ => b = (l.getD p 0 == 0 || (l.getD p 0 == 40 && op == 40))) ?_ ?_ ?_)
            · intro D2 hD2
              dsimp only at hD2 ⊢
              walk_at "go"
              all_goals
                refine' hD2 _ _ _ _ _ _ (by assumption) (by assumption) (fun _ h => h) ?gL1 ?gP1
                case gL1 => walk_at "look"
                case gP1 =>
                  first
                  | (rw [show (l.getD p 0 == 0) = true from by assumption]; rfl)
                  | (rw [show (l.getD p 0 == 0) = false from by assumption, show (op == 40) = false from by assumption, Bool.and_false]; rfl)
                  | (rw [show (l.getD p 0 == 0) = false from by assumption, show (l.getD p 0 == 40) = true from by assumption, show (op == 40) = true from by assumption]; rfl)
                  | (rw [show (l.getD p 0 == 0) = false from by assumption, show (l.getD p 0 == 40) = false from by assumption]; rfl)
            · rintro ts u h tk4 hc1 F N
              dsimp only at hc1 F N ⊢
              have hne : ¬ (l.getD p 0 = 92 ∧ p + 1 < lim ∧ isPu (l.getD (p + 1) 0) = true) := fun e => by
                rw [e.1] at hc1; exact absurd hc1 (by simp)
              rw [title_one hlim hp5 hne, if_pos hc1.symm] at hp
              walk_at "go"
              · refine hret3 _ _ ?_
                dsimp only
                refine hret' _ _ _ _ _ _ (by assumption) (by assumption) fun F2 N3 => ?_
                exact hret2 _ _ _ hp.symm F2 (subN N3 (by walk_at "sub"))
            · rintro ts u h tk4 hc1 F N
              dsimp only at hc1 F N ⊢
              walk_at "go"
              (try dsimp only)
              with_reducible (refine ifm (h₀ := g) (L := L') (τ := Tok) (fun _ => (D0, listOf vs.toArray nn) :: led) (fun c => [(Str.ofString "src", .str (tx l) t1), (Str.ofString "max_pos", .int lim t3), (Str.ofString "opener", .str (tx [op]) to), (Str.ofString "closer", .str (tx [clOf op]) tc), (Str.ofString "title", .ref D0), (Str.ofString "pos", .int p tp), (Str.ofString "c", .str (tx [l.getD p 0]) c)]) (fun b _ => b = (l.getD p 0 == 10 && blankL l lim (p + 1))) ?_ ?_ ?_)
              · intro D2 hD2
                dsimp only at hD2 ⊢
                walk_at "go"
                all_goals
                  refine' hD2 _ _ _ _ _ _ (by assumption) (by assumption) ?gM2 ?gL2 ?gP2
                  case gM2 => first | exact fun q hq => hq | exact fun q hq => .tail _ hq
                  case gL2 => walk_at "look"
                  case gP2 =>
                    first
                    | (rw [show (l.getD p 0 == 10) = true from by assumption, show blankL l lim (p + 1) = true from by assumption]; rfl)
                    | (rw [show (l.getD p 0 == 10) = true from by assumption, show blankL l lim (p + 1) = false from by assumption]; rfl)
                    | (rw [show (l.getD p 0 == 10) = false from by assumption]; rfl)
              · rintro ts u h tk5 hc2 F N
                dsimp only at hc2 F N ⊢
                have hne : ¬ (l.getD p 0 = 92 ∧ p + 1 < lim ∧ isPu (l.getD (p + 1) 0) = true) := fun e => by
                  rw [e.1] at hc2; exact absurd hc2 (by simp)
                rw [title_one hlim hp5 hne, if_neg (by rw [← hc1]; exact Bool.false_ne_true), if_pos hc2.symm] at hp
                walk_at "go"
                refine hret3 _ _ ?_
                dsimp only
                refine hret' _ _ _ _ _ _ (by assumption) (by assumption) fun F2 N3 => ?_
                exact hret2 _ _ _ hp.symm F2 (subN N3 (by walk_at "sub"))
              · rintro ts u h tk5 hc2 F N
                dsimp only at hc2 F N ⊢
                walk_at "go"
                (try dsimp only)
                with_reducible (refine cut (h₀ := g) (L := L') (τ := Tok) (fun _ => (D0, listOf vs.toArray nn) :: led) (fun c => [(Str.ofString "src", .str (tx l) t1), (Str.ofString "max_pos", .int lim t3), (Str.ofString "opener", .str (tx [op]) to), (Str.ofString "closer", .str (tx [clOf op]) tc), (Str.ofString "title", .ref D0), (Str.ofString "pos", .int p tp), (Str.ofString "c", .str (tx [l.getD p 0]) c)]) (fun _ => ¬ (l.getD p 0 = 92 ∧ p + 1 < lim ∧ isPu (l.getD (p + 1) 0) = true)) ?_ ?_)
                · intro D3 hD3
                  dsimp only at hD3 ⊢
                  walk_at "go"
                  · dsimp only
                    have g1 : l.getD p 0 = 92 := beq_iff_eq.mp (by assumption)
                    have g2 : p + 1 < lim := by omega
                    have g3 : isPu (l.getD (p + 1) 0) = true := by assumption
                    refine' (hnext ((p + 2, _), acc ++ [l.getD (p + 1) 0], ps ++ [(l.take (p + 2)).drop p], _, nn + 1) _ _ _ _ (by assumption) (by assumption) (fun _ h => h) ?gL3 ?gP3 ?gM3).2
                    case gL3 => walk_at "look"
                    case gP3 =>
                      refine ⟨hsg.snocE g2 g1 g3, by show p + 2 ≤ lim; omega, ?_, ?_, ?_, ?_⟩
                      · rw [List.map_append]; exact StrsAre.snoc hV _ _
                      · dsimp only
                        rw [List.flatten_append, hfl]
                        simp only [List.flatten_cons, List.flatten_nil, List.append_nil]
                        exact cut_cat hsg.le (by omega)
                      · simp only [List.length_append, List.length_cons, List.length_nil]; omega
                      · dsimp only
                        rw [← hp, title_esc hlim g2 g1 g3]
                    case gM3 => dsimp only; omega
                  all_goals
                    (try dsimp only)
                    refine' hD3 _ _ _ _ _ (by assumption) (by assumption) (fun _ h => h) ?gL4 ?gP4
                    case gL4 => walk_at "look"
                    case gP4 => walk_at "noesc"
                · rintro ts u h tk6 hne F N
                  dsimp only at hne F N ⊢
                  rw [title_one hlim hp5 hne, if_neg (by rw [← hc1]; exact Bool.false_ne_true), if_neg (by rw [← hc2]; exact Bool.false_ne_true)] at hp
                  walk_at "go"
                  · have hun : unesc ps.flatten = acc := by rw [hfl]; exact hsg.unesc (by omega) hpl
                    have hfl2 : ps.flatten.length ≤ 1000 := by rw [hfl]; exact hul
                    refine join_ok (by assumption) (.head _) hV (by omega) (by omega) fun tj kj => ?_
                    walk_at "go"
                    have N0 := subN (r' := tabL b ++ news) N (by rw [hled]; exact fun q hq => .tail _ hq)
                    refine c_unesc _ _ b (by walk_at "cx") hfl2 (by assumption) hb hr ?_
                    intro tq b' hq tkq hb' Fq Nq
                    rw [hun]
                    walk_at "go"
                    dsimp only
                    refine hret3 _ _ ?_
                    dsimp only
                    refine hret' _ _ _ _ _ _ (by assumption) (by assumption) fun F2 N3 => ?_
                    refine hret1 acc (p + 1) _ _ _ b' _ _ ?_ hb' F2 (subN N3 (by walk_at "sub"))
                    rw [← hp, if_pos (by assumption)]
                  · (try dsimp only)
                    refine' (hnext ((p + 1, _), acc ++ [l.getD p 0], ps ++ [[l.getD p 0]], _, nn + 1) _ _ _ _ (by assumption) (by assumption) (fun _ h => h) ?gL5 ?gP5 ?gM5).1
                    case gL5 => walk_at "look"
                    case gP5 =>
                      refine ⟨hsg.snocO hp5 hne, by show p + 1 ≤ lim; omega, ?_, ?_, ?_, ?_⟩
                      · rw [List.map_append]; exact StrsAre.snoc hV _ _
                      · dsimp only
                        rw [List.flatten_append, hfl]
                        simp only [List.flatten_cons, List.flatten_nil, List.append_nil]
                        have e : (l.take (p + 1)).drop p = [l.getD p 0] := by
                          rw [drop_cons (t := l.take (p + 1)) (by rw [List.length_take]; omega), take_get (by omega), List.drop_eq_nil_of_le (by rw [List.length_take]; omega)]
                        rw [← e]
                        exact cut_cat hsg.le (Nat.le_succ p)
                      · simp only [List.length_append, List.length_cons, List.length_nil]; omega
                      · dsimp only
                        rw [← hp, if_neg (by rw [Bool.not_eq_true]; assumption)]
                    case gM5 => dsimp only; omega
          · refine (hbrk () _ _ _ _ (by assumption) (by assumption) (fun q hq => .tail _ hq) (by walk_at "look") ?_).2
            rw [← hp]; exact title_over (by omega)
        · rintro ⟨⟩ u h tk3 hx F N
          dsimp only at hx F N ⊢
          walk_at "go"
          dsimp only
          refine hret' _ _ _ _ _ _ (by assumption) (by assumption) fun F2 N3 => ?_
          exact hret2 _ _ _ (hx) F2 (subN N3 (by walk_at "sub"))
  · refine hret' _ _ _ _ _ _ (by assumption) (by assumption) fun F2 N3 => ?_
    exact hret2 _ _ _ (title_A hlim (fun e => by simp_all)) F2 (subN N3 (by walk_at "sub"))

end Mine
end
noncomputable section
open Lean PySem PySem.W PySem.Spec PySem.Calls PyProof.Rows
set_option maxRecDepth 100000
namespace Mine
theorem rest_ind {prog : Program} {w : World} {A : Around} {s : Shared} {h₀ : Heap} {L : Addr} {m : Str → Option Value} {env : Env} {elt : PySem.Expr} {x : Str} {scope : Scope} {cl : List (Str × Addr)} {S : List (Addr × Obj) → Prop} {P : Nat → Value → Prop}
    {Fin : List Value → List (Addr × Obj) → Prop} {news : List (Addr × Obj)} {n : Nat} (J : Nat → List Value → List (Addr × Obj) → Prop)
    (fin : ∀ ys news', J n ys news' → Fin ys news')
    (step : ∀ i ys news' (next : Value → List (Addr × Obj) → Prop), i < n → J i ys news' → (∀ y news'', J (i + 1) (ys ++ [y]) news'' → next y news'') → ∀ v I oI C oC D m₂ h tk (E' : Value → Shared → Prop), P i v → LCg.NsObj oC m₂ → m₂ x = some v → Fr h₀ L h m →
      News h₀ L h ((I, oI) :: (C, oC) :: (D, LCg.lst ys) :: news') → LCg.Off3 I C D news' → ((@Ne Nat I C) ∧ (@Ne Nat I D) ∧ (@Ne Nat C D)) →
      wpAny (model prog w) A (eval elt (compEnvC scope cl C env)) (LCg.CompEnd h₀ L m { s with heap := h, toks := tk } I oI C oC D (LCg.lst ys) S next) E' { s with heap := h, toks := tk })
    (h0 : J 0 [] news) : LCg.CompRest prog w A h₀ L m env elt x scope cl s S P Fin n 0 [] news := by
  have key : ∀ k i ys news', i + k = n → J i ys news' → LCg.CompRest prog w A h₀ L m env elt x scope cl s S P Fin k i ys news' := by
    intro k
    induction k with
    | zero =>
      intro i ys news' hi hJ
      exact LCg.CompRest.zero (fin _ _ (by rw [← hi]; exact hJ))
    | succ k ih =>
      intro i ys news' hi hJ
      refine LCg.CompRest.succ ?_
      intro v I oI C oC D m₂ h tk E' hP hC hx F N off ne
      exact step i ys news' _ (by omega) hJ (fun y news'' hJ' => ih (i + 1) (ys ++ [y]) news'' (by omega) hJ') v I oI C oC D m₂ h tk E' hP hC hx F N off ne
  exact key n 0 [] news (Nat.zero_add n) h0
theorem flat_one (us : List U) : (us.map fun u => [u.1]).flatten = us.map (·.1) := by
  induction us with
  | nil => rfl
  | cons u r ih => rw [List.map_cons, List.flatten_cons, ih]; rfl
end Mine
namespace Mine
/-- a for over a text; the ledger stays -/
theorem fs {σ : Type} {prog : Program} {w : World} {A : Around} {s : Shared} {env : Env} {h₀ : Heap} {E : Value → Shared → Prop} {Q : Flow → Shared → Prop} {x : Str} {body : List Stmt}
    {t : Tok} {m₀ : Str → Option Value} {news₀ : List (Addr × Obj)} (l : List Nat)
    (led : List (Addr × Obj)) (ps : σ → List (Str × Value)) (P : List Nat → σ → Prop) (c₀ : σ)
    (hh : A.handled = none) (hx : ∀ c, ∀ p ∈ ps c, p.1 ≠ x)
    (F : Fr h₀ env.locals s.heap m₀) (N : News h₀ env.locals s.heap news₀) (hn : ∀ p ∈ led, p ∈ news₀) (hk : ∀ p ∈ ps c₀, m₀ p.1 = some p.2) (hp : P l c₀)
    (turn : ∀ (c : Nat) (r : List Nat) (st : σ) (u : Str → Option Value) uu I it h tk (Q' : Flow → Shared → Prop), P (c :: r) st →
      Fr h₀ env.locals h (kstB u ((x, .str (tx [c]) uu) :: ps st)) → News h₀ env.locals h ((I, it) :: led) →
      (∀ st' h' tk' m' news', Fr h₀ env.locals h' m' → News h₀ env.locals h' news' → (∀ p ∈ (I, it) :: led, p ∈ news') → (∀ p ∈ ps st', m' p.1 = some p.2) → P r st' →
        Q' .next { s with heap := h', toks := tk' } ∧ Q' .cont { s with heap := h', toks := tk' }) →
      wpAny (model prog w) A (execs body env) Q' (fun _ _ => False) { s with heap := h, toks := tk })
    (done : ∀ (c : σ) (u : Str → Option Value) h tk, P [] c → Fr h₀ env.locals h (kstB u (ps c)) → News h₀ env.locals h led → Q .next { s with heap := h, toks := tk }) :
    wpAny (model prog w) A (pyIter (.str (tx l) t)) (fun it s₂ => LoopAtV prog w A h₀ env x body Q E it s₂) E s := by
  have hfr : ∀ {h : Heap} {m₁ : Str → Option Value} {l : List (Str × Value)}, (∀ p ∈ l, m₁ p.1 = some p.2) → Fr h₀ env.locals h m₁ → Fr h₀ env.locals h (kstB m₁ l) := by
    intro h m₁ l h1 F1
    have e : kstB m₁ l = m₁ := funext fun y => kstB_eq h1 fun _ => rfl
    rw [e]; exact F1
  refine iter_strUnr (l := l.map fun c => (⟨#[c]⟩ : Str)) hh F (fun p hp => N p (hn p hp)) rfl ?_
  intro I hI
  have key : ∀ (l : List Nat) (st : σ) m₁, P l st → (∀ p ∈ ps st, m₁ p.1 = some p.2) → StrRest prog w A E h₀ env x body Q s I (l.map fun c => (⟨#[c]⟩ : Str)) m₁ led := by
    intro l
    induction l with
    | nil =>
      intro st m₁ hp h1
      exact StrRest.zero fun h tk F N => done st m₁ h tk hp (hfr h1 F) N
    | cons c r ih =>
      intro st m₁ hp h1
      refine StrRest.succ ?_
      intro u it h tk F N
      refine wpAny_noRaise ?_
      refine wpAny_mono (turn c r st (fun y => if y = x then some (.str (⟨#[c]⟩ : Str) u) else m₁ y) u I it h tk
        (fun f s' => match f with
          | .next | .cont => ∃ st' h' tk' m' news', s' = { s with heap := h', toks := tk' } ∧ Fr h₀ env.locals h' m' ∧ News h₀ env.locals h' news' ∧ (∀ p ∈ (I, it) :: led, p ∈ news') ∧ (∀ p ∈ ps st', m' p.1 = some p.2) ∧ P r st'
          | _ => False) hp (hfr ?_ F) N ?_) (fun f s' hq => ?_) fun _ _ x => x
      · intro p hp
        rcases List.mem_cons.mp hp with rfl | hp
        · simp; rfl
        · show (if p.1 = x then _ else m₁ p.1) = some p.2
          rw [if_neg (hx st p hp)]
          exact h1 p hp
      · intro st' h' tk' m' news' a1 a2 a3 a4 a5
        exact ⟨⟨st', h', tk', m', news', rfl, a1, a2, a3, a4, a5⟩, ⟨st', h', tk', m', news', rfl, a1, a2, a3, a4, a5⟩⟩
      · have fin : (∃ st' h' tk' m' news', s' = { s with heap := h', toks := tk' } ∧ Fr h₀ env.locals h' m' ∧ News h₀ env.locals h' news' ∧ (∀ p ∈ (I, it) :: led, p ∈ news') ∧ (∀ p ∈ ps st', m' p.1 = some p.2) ∧ P r st') →
            UnrEnd h₀ env.locals { s with heap := h, toks := tk } I it (StrRest prog w A E h₀ env x body Q s I (r.map fun c => (⟨#[c]⟩ : Str))) s' := by
          rintro ⟨st', h', tk', m', news', e, a1, a2, a3, a4, a5⟩
          exact ⟨h', tk', m', led, e, a1, fun p hp => a2 p (a3 p hp), fun p hp e => absurd (e ▸ hI p hp) (Nat.lt_irrefl _), ih st' m' a5 a4⟩
        cases f with
        | ret v => exact hq.elim
        | brk => exact hq.elim
        | next => exact fin hq
        | cont => exact fin hq
  exact key l c₀ m₀ hp hk
end Mine
namespace Mine
def isKeep (c : Nat) : Bool := [97, 98, 99, 100, 101, 102, 103, 104, 105, 106, 107, 108, 109, 110, 111, 112, 113, 114, 115, 116, 117, 118, 119, 120, 121, 122, 65, 66, 67, 68, 69, 70, 71, 72, 73, 74, 75, 76, 77, 78, 79, 80, 81, 82, 83, 84, 85, 86, 87, 88, 89, 90, 48, 49, 50, 51, 52, 53, 54, 55, 56, 57, 95, 46, 45, 126, 58, 47, 63, 35, 64, 33, 36, 38, 40, 41, 42, 43, 44, 59, 61, 37].contains c
theorem L_keep : (Str.ofString "abcdefghijklmnopqrstuvwxyzABCDEFGHIJKLMNOPQRSTUVWXYZ0123456789_.-~:/?#@!$&()*+,;=%").cps.toList = [97, 98, 99, 100, 101, 102, 103, 104, 105, 106, 107, 108, 109, 110, 111, 112, 113, 114, 115, 116, 117, 118, 119, 120, 121, 122, 65, 66, 67, 68, 69, 70, 71, 72, 73, 74, 75, 76, 77, 78, 79, 80, 81, 82, 83, 84, 85, 86, 87, 88, 89, 90, 48, 49, 50, 51, 52, 53, 54, 55, 56, 57, 95, 46, 45, 126, 58, 47, 63, 35, 64, 33, 36, 38, 40, 41, 42, 43, 44, 59, 61, 37] := by decide +kernel
theorem H_keep (c : Nat) : (Str.ofString "abcdefghijklmnopqrstuvwxyzABCDEFGHIJKLMNOPQRSTUVWXYZ0123456789_.-~:/?#@!$&()*+,;=%").cps.toList.contains c = isKeep c := by rw [L_keep]; rfl
theorem E_pct : Str.ofString "%" = tx [37] := by decide +kernel
theorem E_c3 : Str.ofString "%C3%A9" = tx [37, 67, 51, 37, 65, 57] := by decide +kernel
theorem L_e9 : (Str.ofString "é").cps.toList = [233] := by decide +kernel
def hexL : List Nat := [48, 49, 50, 51, 52, 53, 54, 55, 56, 57, 65, 66, 67, 68, 69, 70]
theorem E_hex : Str.ofString "0123456789ABCDEF" = tx hexL := by decide +kernel
def urlC (c : Nat) : List Nat := if isKeep c then [c] else if c == 233 then [37, 67, 51, 37, 65, 57] else [37, hexL.getD (c / 16) 0, hexL.getD (c % 16) 0]
def urlS (l : List Nat) : List Nat := l.flatMap urlC
theorem urlC_len (c : Nat) : (urlC c).length ≤ 6 := by unfold urlC; split <;> (try split) <;> simp
theorem urlS_len (l : List Nat) : (urlS l).length ≤ 6 * l.length := by
  induction l with
  | nil => exact Nat.le_refl _
  | cons c r ih =>
    show ((c :: r).flatMap urlC).length ≤ _
    rw [List.flatMap_cons, List.length_append, List.length_cons]
    have := urlC_len c
    have h2 : (r.flatMap urlC).length ≤ 6 * r.length := ih
    omega
/-- the signs that the law may lay -/
def Alph (l : List Nat) : Prop := ∀ c ∈ l, c < 128 ∨ c = 233
theorem hexL_item {i : Int} (h0 : 0 ≤ i) (h1 : i < 16) : i < (hexL.length : Int) := h1
end Mine
namespace Mine
section
variable {prog : Program} {w : World} {A : Around} {E : Value → Shared → Prop} {s : Shared} {Q : Value → Shared → Prop} {t u : Tok}
theorem r_hexd {value slice : PySem.Expr} {c : Nat} (hc : c < 256) (h : Q (.str (tx [hexL.getD (c / 16) 0]) s.toks) { s with toks := s.toks + 1 })
    (hs : subscripted slice false (.str (Str.ofString "0123456789ABCDEF") t) (.int ((c : Int).fdiv 16) u) = operate [.str (Str.ofString "0123456789ABCDEF") t, .int ((c : Int).fdiv 16) u] (getItem (.str (Str.ofString "0123456789ABCDEF") t) (.int ((c : Int).fdiv 16) u)) := by with_unfolding_all rfl)
    (ht : ∀ r, letTemporaryGo value (.str (Str.ofString "0123456789ABCDEF") t) r = pure () := by intro _; with_unfolding_all rfl) :
    wpAny (model prog w) A (subscriptTail value slice (.str (Str.ofString "0123456789ABCDEF") t) (.int ((c : Int).fdiv 16) u)) Q E s := by
  have e : ((c : Int).fdiv 16) = ((c / 16 : Nat) : Int) := by rw [Int.fdiv_eq_ediv_of_nonneg _ (by omega)]; omega
  rw [E_hex] at hs ht ⊢
  rw [e] at hs ⊢
  have hl : hexL.length = 16 := rfl
  exact r_item (by omega) (by rw [hl]; omega) (by rw [hl]; omega) h hs ht
theorem r_hexm {value slice : PySem.Expr} {c : Nat} (h : Q (.str (tx [hexL.getD (c % 16) 0]) s.toks) { s with toks := s.toks + 1 })
    (hs : subscripted slice false (.str (Str.ofString "0123456789ABCDEF") t) (.int ((c : Int).fmod 16) u) = operate [.str (Str.ofString "0123456789ABCDEF") t, .int ((c : Int).fmod 16) u] (getItem (.str (Str.ofString "0123456789ABCDEF") t) (.int ((c : Int).fmod 16) u)) := by with_unfolding_all rfl)
    (ht : ∀ r, letTemporaryGo value (.str (Str.ofString "0123456789ABCDEF") t) r = pure () := by intro _; with_unfolding_all rfl) :
    wpAny (model prog w) A (subscriptTail value slice (.str (Str.ofString "0123456789ABCDEF") t) (.int ((c : Int).fmod 16) u)) Q E s := by
  have e : ((c : Int).fmod 16) = ((c % 16 : Nat) : Int) := by rw [Int.fmod_eq_emod_of_nonneg _ (by omega)]; omega
  rw [E_hex] at hs ht ⊢
  rw [e] at hs ⊢
  have hl : hexL.length = 16 := rfl
  exact r_item (by omega) (by rw [hl]; omega) (by rw [hl]; omega) h hs ht
end
end Mine
namespace Mine
theorem urlC_a {c : Nat} (h : isKeep c = true) : urlC c = [c] := by unfold urlC; rw [if_pos h]
theorem urlC_b {c : Nat} (h : isKeep c = false) (h2 : (c == 233) = true) : urlC c = [37, 67, 51, 37, 65, 57] := by unfold urlC; rw [h, if_neg Bool.false_ne_true, if_pos h2]
theorem urlC_c {c : Nat} (h : isKeep c = false) (h2 : (c == 233) = false) : urlC c = [37, hexL.getD (c / 16) 0, hexL.getD (c % 16) 0] := by unfold urlC; rw [h, if_neg Bool.false_ne_true, h2, if_neg Bool.false_ne_true]
end Mine
end
noncomputable section
open Lean PySem PySem.W PySem.Spec PySem.Calls PyProof.Rows
set_option maxRecDepth 100000
namespace Mine
theorem fill_F9 : 0 = 0 ∧ 0 = 0 := by
  try walk1
  w_top off
  all_goals first | rfl | exact ⟨rfl, rfl⟩
local macro_rules | `(tactic| walk_at "noloop") => `(tactic| first
  | ((fail_if_success (fail_if_success (with_reducible show wpAny _ _ (execs _ _) _ _ _))); fail_if_success ((with_reducible refine st_execs ?_ ?_); (focus rfl)))
  | ((fail_if_success (fail_if_success (with_reducible show wpAny _ _ (exec _ _) _ _ _))); fail_if_success ((with_reducible refine st_exec ?_ ?_); (focus rfl)))
  | ((fail_if_success (with_reducible show wpAny _ _ (execs _ _) _ _ _)); (fail_if_success (with_reducible show wpAny _ _ (exec _ _) _ _ _)); (fail_if_success (with_reducible show wpAny _ _ (eval (Expr.ListComp _ _ _ _) _) _ _ _)); (fail_if_success (with_reducible show wpAny _ _ (pyIter _) _ _ _)); (fail_if_success (with_reducible show wpAny _ _ (truthy (Value.str (tx _) _)) _ _ _))))
local macro_rules | `(tactic| walk_at "go") => `(tactic| repeat' (first
  | (k_unfold; (try dsimp only))
  | (walk_at "noloop"; walk1)
  | (dsimp only; walk_at "noloop"; walk1)))
local macro_rules | `(tactic| walk_at "look") => `(tactic| ((try dsimp only); repeat' (first | exact List.forall_mem_nil _ | (refine List.forall_mem_cons.mpr ⟨by with_unfolding_all rfl, ?_⟩))))
local macro_rules | `(tactic| walk_at "ix") => `(tactic| first | omega | (simp only [List.length_take, List.length_drop] at *; omega))
local macro_rules | `(tactic| walk_at "subscriptTail Name Name str int") => `(tactic| ((with_reducible show wpAny _ _ (subscriptTail _ _ (Value.str (tx _) _) (Value.int _ _)) _ _ _); refine r_item (by walk_at "ix") (by walk_at "ix") (by walk_at "ix") ?_))
local macro_rules | `(tactic| walk_at "subscriptTail Name BinOp str int") => `(tactic| ((with_reducible show wpAny _ _ (subscriptTail _ _ (Value.str (tx _) _) (Value.int _ _)) _ _ _); refine r_item (by walk_at "ix") (by walk_at "ix") (by walk_at "ix") ?_))
local macro_rules | `(tactic| walk_at "compareOp In str str") => `(tactic| ((with_reducible show wpAny _ _ (compareOp _ (Value.str (tx _) _) (Value.str _ _)) _ _ _); refine r_in ?_))
local macro_rules | `(tactic| walk_at "compareOp NotIn str str") => `(tactic| ((with_reducible show wpAny _ _ (compareOp _ (Value.str (tx _) _) (Value.str _ _)) _ _ _); refine r_notin ?_))
local macro_rules | `(tactic| walk_at "compareOp Eq str str") => `(tactic| ((with_reducible show wpAny _ _ (compareOp _ (Value.str (tx _) _) (Value.str _ _)) _ _ _); refine r_eq ?_))
local macro_rules | `(tactic| walk_at "compareOp NotEq str str") => `(tactic| ((with_reducible show wpAny _ _ (compareOp _ (Value.str (tx _) _) (Value.str _ _)) _ _ _); refine r_ne ?_))
local macro_rules | `(tactic| walk_at "call builtin:ord") => `(tactic| ((with_reducible show wpAny _ _ (call _ [Value.str (tx _) _]) _ _ _); refine r_ord ?_))
local macro_rules | `(tactic| walk_at "call builtin:len") => `(tactic| ((with_reducible show wpAny _ _ (call _ [Value.str (tx _) _]) _ _ _); refine r_len (by walk_at "ix") ?_))
local macro_rules | `(tactic| walk_at "compareOp In str str") => `(tactic| ((with_reducible show wpAny _ _ (compareOp _ (Value.str (tx _) _) (Value.str _ _)) _ _ _); first | refine r_in2 isWs H_ws ?_ | refine r_in2 isBl H_bl ?_ | refine r_in2 isNl H_nl ?_ | refine r_in2 isBad H_bad ?_ | refine r_in2 isPu H_pu ?_))
local macro_rules | `(tactic| walk_at "compareOp NotIn str str") => `(tactic| ((with_reducible show wpAny _ _ (compareOp _ (Value.str (tx _) _) (Value.str _ _)) _ _ _); first | refine r_notin2 isWs H_ws ?_ | refine r_notin2 isPu H_pu ?_))
local macro_rules | `(tactic| walk_at "compareOp Eq str str") => `(tactic| ((with_reducible show wpAny _ _ (compareOp _ (Value.str (tx _) _) (Value.str _ _)) _ _ _); first | refine r_eq1 L_lt ?_ | refine r_eq1 L_gt ?_ | refine r_eq1 L_bs ?_ | refine r_eq1 L_lp ?_ | refine r_eq1 L_rp ?_ | refine r_eq1 L_del ?_ | refine r_eq1 L_nul ?_ | refine r_eq1 L_n ?_ | refine r_eq1 L_r ?_))
local macro_rules | `(tactic| walk_at "compareOp NotEq str str") => `(tactic| ((with_reducible show wpAny _ _ (compareOp _ (Value.str (tx _) _) (Value.str _ _)) _ _ _); first | refine r_ne1 L_rp ?_))
local macro_rules | `(tactic| walk_at "subscriptTail Name Slice str ref") => `(tactic| ((with_reducible show wpAny _ _ (subscriptTail _ (Expr.Slice (some _) (some _) none _) (Value.str (tx _) _) _) _ _ _); (with_reducible rename Fr _ _ _ _ => F'); (with_reducible rename News _ _ _ _ => N'); (refine r_slice (s := ⟨_, _, _, _, _⟩) (by walk_at "ix") (by walk_at "ix") (by walk_at "ix") F' N' ?_); intro _ _ _ _ _))
local macro_rules | `(tactic| walk_at "compareOp Eq str str") => `(tactic| ((with_reducible show wpAny _ _ (compareOp _ (Value.str (tx _) _) (Value.str _ _)) _ _ _); refine r_eqL L_rn ?_))
local macro_rules | `(tactic| walk_at "fact") => `(tactic| first | assumption | exact beq_iff_eq.mp (by assumption) | exact beq_eq_false_iff_ne.mp (by assumption) | omega)
local macro_rules | `(tactic| walk_at "noesc") => `(tactic| (rintro ⟨e1, e2, e3⟩; first | exact absurd e1 (beq_eq_false_iff_ne.mp (by assumption)) | exact Bool.noConfusion (Eq.trans (Eq.symm (show isPu _ = false from by assumption)) e3) | exact absurd (Eq.trans (Eq.symm e1) (beq_iff_eq.mp (show (List.getD _ _ _ == _) = true from by assumption))) (by decide) | omega))
local macro_rules | `(tactic| walk_at "cx") => `(tactic| exact ⟨by k_asm, by k_asm, by k_asm, by k_asm, by k_asm, rfl, rfl, rfl, rfl, (by (show _ + _ < _); omega), (by (show _ + 8 * _ < _); omega)⟩)
local macro_rules | `(tactic| walk_at "call ref") => `(tactic| ((with_reducible show wpAny _ _ (call (Value.ref 137) _ _) _ _ _); refine c_begin _ _ _ _ (by walk_at "cx") (by omega) ?_; intro t9 h9 k9 F9 N9; (try dsimp only)))
local macro_rules | `(tactic| walk_at "call ref") => `(tactic| ((with_reducible show wpAny _ _ (call (Value.ref 144) _ _) _ _ _); refine c_angle _ _ _ _ (by walk_at "cx") (by omega) (by omega) ?_ ?_; (all_goals intros); (all_goals (try dsimp only))))
local macro_rules | `(tactic| walk_at "call builtin:min") => `(tactic| ((with_reducible show wpAny _ _ (call (Value.builtin _) [Value.int _ _, Value.int _ _]) _ _ _); refine r_min (by omega) rfl (by assumption) (by assumption) ?_; intro h9 t9 k9 F9 N9))
local macro_rules | `(tactic| walk_at "retx") => `(tactic| (dsimp only; refine hret' _ _ _ _ _ _ (by assumption) (by assumption) fun F2 N2 => ?_))
local macro_rules | `(tactic| walk_at "upd") => `(tactic| first | exact Upd.head (by assumption) | (refine' Upd.tail ?a ?b; (case a => k_ne); (case b => walk_at "upd")))
local macro_rules | `(tactic| walk_at "sz") => `(tactic| ((try simp only [List.size_toArray, PySem.sizeLine_eq]); omega))
local macro_rules | `(tactic| walk_at "call builtin:list.append") => `(tactic| (k_here; (with_reducible show wpAny _ _ (call (Value.builtin _) [Value.ref _, _]) _ _ _); (refine' append_K ?k1 ?k2 ?k3 ?_ ?z; (case k1 => k_asm); (case k2 => k_asm); (case k3 => walk_at "upd"); (case z => walk_at "sz"); k_whole); intro h' F' N'; (try simp only [List.push_toArray] at N'); (try k_sweep)))
local macro_rules | `(tactic| walk_at "call ref") => `(tactic| ((with_reducible show wpAny _ _ (call (Value.ref 192) _ _) _ _ _); refine c_lbegin _ _ _ _ (by walk_at "cx") (by omega) ?_; intro t9 h9 k9 F9 N9; (try dsimp only)))
local macro_rules | `(tactic| walk_at "call ref") => `(tactic| ((with_reducible show wpAny _ _ (call (Value.ref 166) _ _) _ _ _); refine c_units _ _ _ _ _ _ (by walk_at "cx") (by walk_at "ix") (by walk_at "ix") ?_; intro a9 n9 vs9 tl9 h9 k9 U9 F9 N9 d9; (try dsimp only)))
local macro_rules | `(tactic| walk_at "subscriptTail Name Constant ref int") => `(tactic| ((with_reducible show wpAny _ _ (subscriptTail _ _ (Value.ref _) (Value.int _ _)) _ _ _); (with_unfolding_all refine' item_litK ?k1 ?k2 ?k3 ?k4 ?_ ?k6; (case k1 => exact News.isList (by k_asm) (by first | k_mem | walk_at "mem")); (case k2 => decide); (case k3 => decide); (case k4 => rfl); (case k6 => with_unfolding_all rfl); k_whole)))
local macro_rules | `(tactic| walk_at "offx") => `(tactic| (intro _; repeat' (first | exact List.forall_mem_nil _ | (refine List.forall_mem_cons.mpr ⟨by (show Str.ofString _ ≠ Str.ofString _); decide, ?_⟩))))
local macro_rules | `(tactic| walk_at "sub") => `(tactic| (intro q hq; (try simp only [List.cons_append, List.append_assoc, List.mem_cons, List.mem_append, List.not_mem_nil, or_false, or_assoc] at hq ⊢); (repeat' (first | exact hq | (refine Or.elim hq (fun hq => ?_) (fun hq => ?_)) | exact Or.inl hq | (refine Or.inr ?_)))))
local macro_rules | `(tactic| walk_at "mem") => `(tactic| first | assumption | exact List.mem_cons_self | (refine List.mem_cons_of_mem _ ?_; walk_at "mem") | (refine List.mem_append_left _ ?_; walk_at "mem") | (refine List.mem_append_right _ ?_; walk_at "mem"))
local macro_rules | `(tactic| walk_at "subscriptTail Name Name ref int") => `(tactic| ((with_reducible show wpAny _ _ (subscriptTail _ _ (Value.ref _) (Value.int _ _)) _ _ _); (with_unfolding_all refine' r_unit ?k1 ?k2 ?k3 ?k4 ?k5 ?k6 ?_ ?k7; (case k1 => k_asm); (case k2 => walk_at "mem"); (case k3 => assumption); (case k4 => omega); (case k5 => omega); (case k6 => omega); (case k7 => with_unfolding_all rfl)); intro a8 t8 t7 n8 m8))
local macro_rules | `(tactic| walk_at "subscriptTail Subscript") => `(tactic| with_reducible refine r_turn ?_)
local macro_rules | `(tactic| walk_at "compareOp Eq str str") => `(tactic| ((with_reducible show wpAny _ _ (compareOp _ (Value.str (tx _) _) (Value.str (tx _) _)) _ _ _); refine r_eqT ?_))
local macro_rules | `(tactic| walk_at "compareOp NotEq str str") => `(tactic| ((with_reducible show wpAny _ _ (compareOp _ (Value.str (tx _) _) (Value.str (tx _) _)) _ _ _); refine r_neT ?_))
local macro_rules | `(tactic| walk_at "compareOp NotIn str str") => `(tactic| ((with_reducible show wpAny _ _ (compareOp _ (Value.str (tx _) _) (Value.str _ _)) _ _ _); refine r_notin2 isOp H_open ?_))
local macro_rules | `(tactic| walk_at "eval Constant str") => `(tactic| with_reducible (first | refine r_const E_rp ?_ | refine r_const E_nil ?_))
local macro_rules | `(tactic| walk_at "binaryOp Add str str") => `(tactic| ((with_reducible show wpAny _ _ (binaryOp _ (Value.str (tx _) _) (Value.str (tx _) _)) _ _ _); refine r_cat (by first | omega | (simp only [List.length_append, List.length_cons, List.length_nil]; omega)) ?_; intro t9 k9))
local macro_rules | `(tactic| walk_at "call builtin:len") => `(tactic| ((with_reducible show wpAny _ _ (call (Value.builtin "len") [Value.ref _]) _ _ _); refine r_lenU (by k_asm) (by walk_at "mem") (by assumption) (by omega) ?_; intro t9 k9))
local macro_rules | `(tactic| walk_at "eval Name") => `(tactic| first
  | ((with_reducible refine' ld ?k1 ?k2 ?_ ?k3 ?k4 ?k5); (case k4 => kernel_rfl!); (case k1 => k_asm); (case k2 => k_dflt (exact rfl)); (case k3 => k_dflt (exact rfl)); (case k5 => decide); k_whole)
  | ((with_reducible refine' name_K ?k0 ?k1 ?k2 ?k3 ?_ ?k4 ?k5 ?k6); (case k5 => kernel_rfl!); (case k0 => k_asm); (case k1 => k_asm); (case k2 => k_asm); (case k3 => k_dflt k_is); (case k4 => k_dflt (exact rfl)); (case k6 => decide); k_whole))
local macro_rules | `(tactic| walk_at "ite") => `(tactic| first | with_reducible refine ite_tt ?_ | with_reducible refine ite_ff ?_ | with_reducible refine ite_True_then ?_ | with_reducible refine ite_False_else ?_ | (k_openite; first | refine ite_pos (by with_reducible assumption) ?_ | refine ite_neg (by with_reducible assumption) ?_ | refine ite_isFalse (by with_reducible assumption) ?_ | (with_reducible refine split_ine ?_ ?_ <;> intro _) | (with_reducible refine split_ieq ?_ ?_ <;> intro _) | with_reducible refine split_not ?_ | (refine split_dec ?_ ?_ <;> intro _) | (refine split_bool ?_ ?_ <;> intro _)))
local macro_rules | `(tactic| walk_at "callWith ref") => `(tactic| first
  | ((with_reducible refine' callWith_K ?k1 ?k2 ?_ ?k3 ?k4); (case k1 => k_asm); (case k2 => k_dflt k_is); (case k3 => k_dflt (exact rfl)); (case k4 => k_dflt (exact rfl)); k_whole)
  | ((with_reducible refine' callWith_K0 ?k1 ?k2 ?_); (case k1 => k_dflt k_in); (case k2 => k_dflt k_is); k_whole)
  | ((with_reducible refine' callWith_KW ?k1 ?k2 ?k3 ?_ ?k4 ?k5); (case k1 => k_asm); (case k2 => k_dflt k_is); (case k3 => k_dflt (exact rfl)); (case k4 => k_dflt (exact rfl)); (case k5 => k_dflt (exact rfl)); k_whole))
set_option maxHeartbeats 4000000 in
theorem c_plain {w : World} {loose : List Str} {mean : ExcName → Option Value} {mg mb : Str → Option Value} {k dp un : Nat} {gd : Option (List Code)}
    {A₀ : Around} {env : Env} {outer : List Env} {base h₀ : Heap} {L : Addr} {m : Str → Option Value} {news : List (Addr × Obj)} {s : Shared}
    {E Q : Value → Shared → Prop} (l : List Nat) (t1 : Tok)
    (C : Cx w loose mean mg mb (k + 2) ⟨none, dp, some (env :: outer), gd, un⟩ A₀ env outer base h₀ L m news s)
    (hl : l.length ≤ 1000)
    (hret : ∀ t h' tk', Fr h₀ L h' m → News h₀ L h' news → Q (.str (tx (unesc l)) t) { s with heap := h', toks := tk' }) :
    wpAny (model PySem.Challenge.pw_br5019_01 w) ⟨none, dp, some (env :: outer), gd, un⟩ (call (.ref 171) [.str (tx l) t1]) Q E s := by
  refine enter [(Str.ofString "text", .str (tx l) t1)] C (by k_is) (by k_is) (BindsTo.of_eq rfl) rfl rfl rfl (by decide) (locs rfl) ?_
  intro g L' h' tk Q' F' N' B' X' T' hd hu hret'
  walk_at "go"
  refine LCg.ListComp_U (F₀ := by assumption) rfl (by decide) rfl (by decide) rfl ?_
  walk_at "go"
  rename_i a9 n9 vs9 tl9 h9 k9 U9 F9 N9 d9
  have hus : units (List.drop 0 (List.take l.length l)) 0 = units l 0 := by rw [List.drop_zero, List.take_of_length_le (Nat.le_refl _)]
  rw [hus] at U9
  have hul := units_length l 0
  have hvl := U9.length
  refine LCg.CompSrc.ledger rfl (by assumption) (by assumption) (.head _) (by rw [List.size_toArray, sizeLine_eq]; omega) fun gg => ?_
  refine rest_ind (fun i ys news' => StrsAre ys (((units l 0).take i).map (fun u => tx [u.1])) ∧ ∀ p ∈ (a9, listOf vs9.toArray n9) :: (tl9 ++ news), p ∈ news') ?_ ?_ ⟨.nil, fun _ h => h⟩
  · rintro ys news' ⟨hV, hsub⟩
    intro D h tk F N off
    rw [List.size_toArray, hvl, List.take_of_length_le (Nat.le_refl _)] at hV
    walk_at "go"
    have hV' : StrsAre ys (((units l 0).map fun u => [u.1]).map tx) := by rw [List.map_map]; exact hV
    have hyl := StrsAre.len hV
    rw [List.length_map] at hyl
    refine join_ok (nn := ys.length) N (.head _) hV' (by rw [flat_one, List.length_map]; omega) (by omega) fun tj kj => ?_
    rw [flat_one]
    refine hret' _ _ _ _ _ _ F N fun F2 N2 => ?_
    exact hret _ _ _ F2 (subN N2 (fun p hp => .tail _ (hsub p (.tail _ (List.mem_append_right _ hp)))))
  · intro i ys news' next hi hJ hnext v I oI C oC D m₂ h tk E' hv hC hx F N off ne
    obtain ⟨hV, hsub⟩ := hJ
    rw [List.size_toArray, hvl] at hi
    obtain ⟨c, e, p, a, t1, t2, n, hdrop, rfl, hmem⟩ := U9.at (by simpa using hv)
    have hmem2 := hsub _ (.tail _ (List.mem_append_left _ hmem))
    walk_at "go"
    refine LCg.CompEnd.intro F N news' (fun _ h => h) off (.inr ⟨_, hsub _ (.head _), rfl, _, rfl⟩) (hnext _ _ ⟨?_, hsub⟩)
    have e : (units l 0).take (i + 1) = (units l 0).take i ++ [(c, e, p)] := by
      rw [List.take_add_one]
      congr 1
      have : (units l 0)[i]? = ((units l 0).drop i)[0]? := by rw [List.getElem?_drop]; simp
      rw [this, hdrop]; rfl
    rw [e, List.map_append]
    exact StrsAre.snoc hV _ _

end Mine
end
noncomputable section
open Lean PySem PySem.W PySem.Spec PySem.Calls PyProof.Rows
set_option maxRecDepth 100000
namespace Mine
theorem fill_F10 : 0 = 0 ∧ 0 = 0 := by
  try walk1
  w_top off
  all_goals first | rfl | exact ⟨rfl, rfl⟩
local macro_rules | `(tactic| walk_at "noloop") => `(tactic| first
  | ((fail_if_success (fail_if_success (with_reducible show wpAny _ _ (execs _ _) _ _ _))); fail_if_success ((with_reducible refine st_execs ?_ ?_); (focus rfl)))
  | ((fail_if_success (fail_if_success (with_reducible show wpAny _ _ (exec _ _) _ _ _))); fail_if_success ((with_reducible refine st_exec ?_ ?_); (focus rfl)))
  | ((fail_if_success (with_reducible show wpAny _ _ (execs _ _) _ _ _)); (fail_if_success (with_reducible show wpAny _ _ (exec _ _) _ _ _)); (fail_if_success (with_reducible show wpAny _ _ (eval (Expr.ListComp _ _ _ _) _) _ _ _)); (fail_if_success (with_reducible show wpAny _ _ (pyIter _) _ _ _)); (fail_if_success (with_reducible show wpAny _ _ (truthy (Value.str (tx _) _)) _ _ _))))
local macro_rules | `(tactic| walk_at "go") => `(tactic| repeat' (first
  | (k_unfold; (try dsimp only))
  | (walk_at "noloop"; walk1)
  | (dsimp only; walk_at "noloop"; walk1)))
local macro_rules | `(tactic| walk_at "look") => `(tactic| ((try dsimp only); repeat' (first | exact List.forall_mem_nil _ | (refine List.forall_mem_cons.mpr ⟨by with_unfolding_all rfl, ?_⟩))))
local macro_rules | `(tactic| walk_at "ix") => `(tactic| first | omega | (simp only [List.length_take, List.length_drop] at *; omega))
local macro_rules | `(tactic| walk_at "subscriptTail Name Name str int") => `(tactic| ((with_reducible show wpAny _ _ (subscriptTail _ _ (Value.str (tx _) _) (Value.int _ _)) _ _ _); refine r_item (by walk_at "ix") (by walk_at "ix") (by walk_at "ix") ?_))
local macro_rules | `(tactic| walk_at "subscriptTail Name BinOp str int") => `(tactic| ((with_reducible show wpAny _ _ (subscriptTail _ _ (Value.str (tx _) _) (Value.int _ _)) _ _ _); refine r_item (by walk_at "ix") (by walk_at "ix") (by walk_at "ix") ?_))
local macro_rules | `(tactic| walk_at "compareOp In str str") => `(tactic| ((with_reducible show wpAny _ _ (compareOp _ (Value.str (tx _) _) (Value.str _ _)) _ _ _); refine r_in ?_))
local macro_rules | `(tactic| walk_at "compareOp NotIn str str") => `(tactic| ((with_reducible show wpAny _ _ (compareOp _ (Value.str (tx _) _) (Value.str _ _)) _ _ _); refine r_notin ?_))
local macro_rules | `(tactic| walk_at "compareOp Eq str str") => `(tactic| ((with_reducible show wpAny _ _ (compareOp _ (Value.str (tx _) _) (Value.str _ _)) _ _ _); refine r_eq ?_))
local macro_rules | `(tactic| walk_at "compareOp NotEq str str") => `(tactic| ((with_reducible show wpAny _ _ (compareOp _ (Value.str (tx _) _) (Value.str _ _)) _ _ _); refine r_ne ?_))
local macro_rules | `(tactic| walk_at "call builtin:ord") => `(tactic| ((with_reducible show wpAny _ _ (call _ [Value.str (tx _) _]) _ _ _); refine r_ord ?_))
local macro_rules | `(tactic| walk_at "call builtin:len") => `(tactic| ((with_reducible show wpAny _ _ (call _ [Value.str (tx _) _]) _ _ _); refine r_len (by walk_at "ix") ?_))
local macro_rules | `(tactic| walk_at "compareOp In str str") => `(tactic| ((with_reducible show wpAny _ _ (compareOp _ (Value.str (tx _) _) (Value.str _ _)) _ _ _); first | refine r_in2 isWs H_ws ?_ | refine r_in2 isBl H_bl ?_ | refine r_in2 isNl H_nl ?_ | refine r_in2 isBad H_bad ?_ | refine r_in2 isPu H_pu ?_))
local macro_rules | `(tactic| walk_at "compareOp NotIn str str") => `(tactic| ((with_reducible show wpAny _ _ (compareOp _ (Value.str (tx _) _) (Value.str _ _)) _ _ _); first | refine r_notin2 isWs H_ws ?_ | refine r_notin2 isPu H_pu ?_))
local macro_rules | `(tactic| walk_at "compareOp Eq str str") => `(tactic| ((with_reducible show wpAny _ _ (compareOp _ (Value.str (tx _) _) (Value.str _ _)) _ _ _); first | refine r_eq1 L_lt ?_ | refine r_eq1 L_gt ?_ | refine r_eq1 L_bs ?_ | refine r_eq1 L_lp ?_ | refine r_eq1 L_rp ?_ | refine r_eq1 L_del ?_ | refine r_eq1 L_nul ?_ | refine r_eq1 L_n ?_ | refine r_eq1 L_r ?_))
local macro_rules | `(tactic| walk_at "compareOp NotEq str str") => `(tactic| ((with_reducible show wpAny _ _ (compareOp _ (Value.str (tx _) _) (Value.str _ _)) _ _ _); first | refine r_ne1 L_rp ?_))
local macro_rules | `(tactic| walk_at "subscriptTail Name Slice str ref") => `(tactic| ((with_reducible show wpAny _ _ (subscriptTail _ (Expr.Slice (some _) (some _) none _) (Value.str (tx _) _) _) _ _ _); (with_reducible rename Fr _ _ _ _ => F'); (with_reducible rename News _ _ _ _ => N'); (refine r_slice (s := ⟨_, _, _, _, _⟩) (by walk_at "ix") (by walk_at "ix") (by walk_at "ix") F' N' ?_); intro _ _ _ _ _))
local macro_rules | `(tactic| walk_at "compareOp Eq str str") => `(tactic| ((with_reducible show wpAny _ _ (compareOp _ (Value.str (tx _) _) (Value.str _ _)) _ _ _); refine r_eqL L_rn ?_))
local macro_rules | `(tactic| walk_at "fact") => `(tactic| first | assumption | exact beq_iff_eq.mp (by assumption) | exact beq_eq_false_iff_ne.mp (by assumption) | omega)
local macro_rules | `(tactic| walk_at "noesc") => `(tactic| (rintro ⟨e1, e2, e3⟩; first | exact absurd e1 (beq_eq_false_iff_ne.mp (by assumption)) | exact Bool.noConfusion (Eq.trans (Eq.symm (show isPu _ = false from by assumption)) e3) | exact absurd (Eq.trans (Eq.symm e1) (beq_iff_eq.mp (show (List.getD _ _ _ == _) = true from by assumption))) (by decide) | omega))
local macro_rules | `(tactic| walk_at "cx") => `(tactic| exact ⟨by k_asm, by k_asm, by k_asm, by k_asm, by k_asm, rfl, rfl, rfl, rfl, (by (show _ + _ < _); omega), (by (show _ + 8 * _ < _); omega)⟩)
local macro_rules | `(tactic| walk_at "call ref") => `(tactic| ((with_reducible show wpAny _ _ (call (Value.ref 137) _ _) _ _ _); refine c_begin _ _ _ _ (by walk_at "cx") (by omega) ?_; intro t9 h9 k9 F9 N9; (try dsimp only)))
local macro_rules | `(tactic| walk_at "call ref") => `(tactic| ((with_reducible show wpAny _ _ (call (Value.ref 144) _ _) _ _ _); refine c_angle _ _ _ _ (by walk_at "cx") (by omega) (by omega) ?_ ?_; (all_goals intros); (all_goals (try dsimp only))))
local macro_rules | `(tactic| walk_at "call builtin:min") => `(tactic| ((with_reducible show wpAny _ _ (call (Value.builtin _) [Value.int _ _, Value.int _ _]) _ _ _); refine r_min (by omega) rfl (by assumption) (by assumption) ?_; intro h9 t9 k9 F9 N9))
local macro_rules | `(tactic| walk_at "retx") => `(tactic| (dsimp only; refine hret' _ _ _ _ _ _ (by assumption) (by assumption) fun F2 N2 => ?_))
local macro_rules | `(tactic| walk_at "upd") => `(tactic| first | exact Upd.head (by assumption) | (refine' Upd.tail ?a ?b; (case a => k_ne); (case b => walk_at "upd")))
local macro_rules | `(tactic| walk_at "sz") => `(tactic| ((try simp only [List.size_toArray, PySem.sizeLine_eq]); omega))
local macro_rules | `(tactic| walk_at "call builtin:list.append") => `(tactic| (k_here; (with_reducible show wpAny _ _ (call (Value.builtin _) [Value.ref _, _]) _ _ _); (refine' append_K ?k1 ?k2 ?k3 ?_ ?z; (case k1 => k_asm); (case k2 => k_asm); (case k3 => walk_at "upd"); (case z => walk_at "sz"); k_whole); intro h' F' N'; (try simp only [List.push_toArray] at N'); (try k_sweep)))
local macro_rules | `(tactic| walk_at "call ref") => `(tactic| ((with_reducible show wpAny _ _ (call (Value.ref 192) _ _) _ _ _); refine c_lbegin _ _ _ _ (by walk_at "cx") (by omega) ?_; intro t9 h9 k9 F9 N9; (try dsimp only)))
local macro_rules | `(tactic| walk_at "call ref") => `(tactic| ((with_reducible show wpAny _ _ (call (Value.ref 166) _ _) _ _ _); refine c_units _ _ _ _ _ _ (by walk_at "cx") (by walk_at "ix") (by walk_at "ix") ?_; intro a9 n9 vs9 tl9 h9 k9 U9 F9 N9 d9; (try dsimp only)))
local macro_rules | `(tactic| walk_at "subscriptTail Name Constant ref int") => `(tactic| ((with_reducible show wpAny _ _ (subscriptTail _ _ (Value.ref _) (Value.int _ _)) _ _ _); (with_unfolding_all refine' item_litK ?k1 ?k2 ?k3 ?k4 ?_ ?k6; (case k1 => exact News.isList (by k_asm) (by first | k_mem | walk_at "mem")); (case k2 => decide); (case k3 => decide); (case k4 => rfl); (case k6 => with_unfolding_all rfl); k_whole)))
local macro_rules | `(tactic| walk_at "offx") => `(tactic| (intro _; repeat' (first | exact List.forall_mem_nil _ | (refine List.forall_mem_cons.mpr ⟨by (show Str.ofString _ ≠ Str.ofString _); decide, ?_⟩))))
local macro_rules | `(tactic| walk_at "sub") => `(tactic| (intro q hq; (try simp only [List.cons_append, List.append_assoc, List.mem_cons, List.mem_append, List.not_mem_nil, or_false, or_assoc] at hq ⊢); (repeat' (first | exact hq | (refine Or.elim hq (fun hq => ?_) (fun hq => ?_)) | exact Or.inl hq | (refine Or.inr ?_)))))
local macro_rules | `(tactic| walk_at "mem") => `(tactic| first | assumption | exact List.mem_cons_self | (refine List.mem_cons_of_mem _ ?_; walk_at "mem") | (refine List.mem_append_left _ ?_; walk_at "mem") | (refine List.mem_append_right _ ?_; walk_at "mem"))
local macro_rules | `(tactic| walk_at "subscriptTail Name Name ref int") => `(tactic| ((with_reducible show wpAny _ _ (subscriptTail _ _ (Value.ref _) (Value.int _ _)) _ _ _); (with_unfolding_all refine' r_unit ?k1 ?k2 ?k3 ?k4 ?k5 ?k6 ?_ ?k7; (case k1 => k_asm); (case k2 => walk_at "mem"); (case k3 => assumption); (case k4 => omega); (case k5 => omega); (case k6 => omega); (case k7 => with_unfolding_all rfl)); intro a8 t8 t7 n8 m8))
local macro_rules | `(tactic| walk_at "subscriptTail Subscript") => `(tactic| with_reducible refine r_turn ?_)
local macro_rules | `(tactic| walk_at "compareOp Eq str str") => `(tactic| ((with_reducible show wpAny _ _ (compareOp _ (Value.str (tx _) _) (Value.str (tx _) _)) _ _ _); refine r_eqT ?_))
local macro_rules | `(tactic| walk_at "compareOp NotEq str str") => `(tactic| ((with_reducible show wpAny _ _ (compareOp _ (Value.str (tx _) _) (Value.str (tx _) _)) _ _ _); refine r_neT ?_))
local macro_rules | `(tactic| walk_at "compareOp NotIn str str") => `(tactic| ((with_reducible show wpAny _ _ (compareOp _ (Value.str (tx _) _) (Value.str _ _)) _ _ _); refine r_notin2 isOp H_open ?_))
local macro_rules | `(tactic| walk_at "eval Constant str") => `(tactic| with_reducible (first | refine r_const E_rp ?_ | refine r_const E_nil ?_))
local macro_rules | `(tactic| walk_at "binaryOp Add str str") => `(tactic| ((with_reducible show wpAny _ _ (binaryOp _ (Value.str (tx _) _) (Value.str (tx _) _)) _ _ _); refine r_cat (by first | omega | (simp only [List.length_append, List.length_cons, List.length_nil]; omega)) ?_; intro t9 k9))
local macro_rules | `(tactic| walk_at "call builtin:len") => `(tactic| ((with_reducible show wpAny _ _ (call (Value.builtin "len") [Value.ref _]) _ _ _); refine r_lenU (by k_asm) (by walk_at "mem") (by assumption) (by omega) ?_; intro t9 k9))
local macro_rules | `(tactic| walk_at "eval Name") => `(tactic| first
  | ((with_reducible refine' ld ?k1 ?k2 ?_ ?k3 ?k4 ?k5); (case k4 => kernel_rfl!); (case k1 => k_asm); (case k2 => k_dflt (exact rfl)); (case k3 => k_dflt (exact rfl)); (case k5 => decide); k_whole)
  | ((with_reducible refine' name_K ?k0 ?k1 ?k2 ?k3 ?_ ?k4 ?k5 ?k6); (case k5 => kernel_rfl!); (case k0 => k_asm); (case k1 => k_asm); (case k2 => k_asm); (case k3 => k_dflt k_is); (case k4 => k_dflt (exact rfl)); (case k6 => decide); k_whole))
local macro_rules | `(tactic| walk_at "ite") => `(tactic| first | with_reducible refine ite_tt ?_ | with_reducible refine ite_ff ?_ | with_reducible refine ite_True_then ?_ | with_reducible refine ite_False_else ?_ | (k_openite; first | refine ite_pos (by with_reducible assumption) ?_ | refine ite_neg (by with_reducible assumption) ?_ | refine ite_isFalse (by with_reducible assumption) ?_ | (with_reducible refine split_ine ?_ ?_ <;> intro _) | (with_reducible refine split_ieq ?_ ?_ <;> intro _) | with_reducible refine split_not ?_ | (refine split_dec ?_ ?_ <;> intro _) | (refine split_bool ?_ ?_ <;> intro _)))
local macro_rules | `(tactic| walk_at "callWith ref") => `(tactic| first
  | ((with_reducible refine' callWith_K ?k1 ?k2 ?_ ?k3 ?k4); (case k1 => k_asm); (case k2 => k_dflt k_is); (case k3 => k_dflt (exact rfl)); (case k4 => k_dflt (exact rfl)); k_whole)
  | ((with_reducible refine' callWith_K0 ?k1 ?k2 ?_); (case k1 => k_dflt k_in); (case k2 => k_dflt k_is); k_whole)
  | ((with_reducible refine' callWith_KW ?k1 ?k2 ?k3 ?_ ?k4 ?k5); (case k1 => k_asm); (case k2 => k_dflt k_is); (case k3 => k_dflt (exact rfl)); (case k4 => k_dflt (exact rfl)); (case k5 => k_dflt (exact rfl)); k_whole))

local macro_rules | `(tactic| walk_at "compareOp In str str") => `(tactic| ((with_reducible show wpAny _ _ (compareOp _ (Value.str (tx _) _) (Value.str (Str.ofString "abcdefghijklmnopqrstuvwxyzABCDEFGHIJKLMNOPQRSTUVWXYZ0123456789_.-~:/?#@!$&()*+,;=%") _)) _ _ _); refine r_in2 isKeep H_keep ?_))
local macro_rules | `(tactic| walk_at "compareOp Eq str str") => `(tactic| ((with_reducible show wpAny _ _ (compareOp _ (Value.str (tx _) _) (Value.str (Str.ofString "é") _)) _ _ _); refine r_eq1 L_e9 ?_))
local macro_rules | `(tactic| walk_at "eval Constant str") => `(tactic| with_reducible (first | refine r_const E_pct ?_ | refine r_const E_c3 ?_))
local macro_rules | `(tactic| walk_at "subscriptTail Name BinOp str int") => `(tactic| ((with_reducible show wpAny _ _ (subscriptTail _ _ (Value.str (Str.ofString "0123456789ABCDEF") _) (Value.int _ _)) _ _ _); first | refine r_hexd (by omega) ?_ | refine r_hexm ?_))
set_option maxHeartbeats 4000000 in
theorem c_url {w : World} {loose : List Str} {mean : ExcName → Option Value} {mg mb : Str → Option Value} {k dp un : Nat} {gd : Option (List Code)}
    {A₀ : Around} {env : Env} {outer : List Env} {base h₀ : Heap} {L : Addr} {m : Str → Option Value} {news : List (Addr × Obj)} {s : Shared}
    {E Q : Value → Shared → Prop} (l : List Nat) (t1 : Tok)
    (C : Cx w loose mean mg mb (k + 1) ⟨none, dp, some (env :: outer), gd, un⟩ A₀ env outer base h₀ L m news s)
    (hl : l.length ≤ 1000) (ha : Alph l)
    (hret : ∀ t h' tk', Fr h₀ L h' m → News h₀ L h' news → Q (.str (tx (urlS l)) t) { s with heap := h', toks := tk' }) :
    wpAny (model PySem.Challenge.pw_br5019_01 w) ⟨none, dp, some (env :: outer), gd, un⟩ (call (.ref 178) [.str (tx l) t1]) Q E s := by
  refine enter [(Str.ofString "text", .str (tx l) t1)] C (by k_is) (by k_is) (BindsTo.of_eq rfl) rfl rfl rfl (by decide) (locs rfl) ?_
  intro g L' h' tk Q' F' N' B' X' T' hd hu hret'
  walk_at "go"
  refine For_invVF (h₀ := g) (by assumption) rfl rfl ?_
  walk_at "go"
  refine fs (σ := List Nat × Tok) l news (fun c => [(Str.ofString "told", .str (tx c.1) c.2)]) (fun r c => c.1 ++ urlS r = urlS l ∧ (∀ x ∈ r, x < 128 ∨ x = 233)) ([], _)
    rfl (by walk_at "offx") (by assumption) (by assumption) (fun _ h => h) (by walk_at "look") ⟨rfl, ha⟩ ?_ ?_
  · rintro c r ⟨acc, ta⟩ u uu I it h tk Q'' ⟨hp, hal⟩ F N hnext
    dsimp only at hp hal F N hnext ⊢
    have hc := hal c (.head _)
    have hlen : acc.length + 6 ≤ 6006 := by
      have := urlS_len l
      rw [← hp, List.length_append] at this
      omega
    walk_at "go"
    all_goals
      (try dsimp only)
      refine' (hnext (acc ++ urlC c, _) _ _ _ _ (by assumption) (by assumption) (fun _ h => h) ?gL1 ?gP1).1
      case gP1 => exact ⟨by rw [← hp]; show _ = acc ++ (c :: r).flatMap urlC; rw [List.flatMap_cons, ← List.append_assoc]; rfl, fun x hx => hal x (.tail _ hx)⟩
      case gL1 =>
        first
        | rw [urlC_a (by assumption)]
        | rw [urlC_b (by assumption) (by assumption)]
        | rw [urlC_c (by assumption) (by assumption)]
        (try simp only [List.append_assoc, List.cons_append, List.nil_append])
        walk_at "look"
  · rintro ⟨acc, ta⟩ u h tk ⟨hp, _⟩ F N
    dsimp only at hp F N ⊢
    walk_at "go"
    dsimp only
    refine hret' _ _ _ _ _ _ F N fun F2 N2 => ?_
    have e : acc = urlS l := by rw [← hp]; exact (List.append_nil _).symm
    rw [e]
    exact hret _ _ _ F2 N2

end Mine
end
noncomputable section
open Lean PySem PySem.W PySem.Spec PySem.Calls PyProof.Rows
set_option maxRecDepth 100000
namespace Mine
/-- a def with cells is entered -/
theorem enterC {w : World} {loose : List Str} {mean : ExcName → Option Value} {mg mb : Str → Option Value} {k dp un : Nat} {gd : Option (List Code)}
    {A₀ : Around} {env : Env} {outer : List Env} {base h₀ : Heap} {L : Addr} {m : Str → Option Value} {news : List (Addr × Obj)} {s : Shared}
    {E Q : Value → Shared → Prop}
    {name qual : Str} {params : Arguments} {body : List Stmt} {scope : Scope} {dV kV doc pm cdv ct oc : Value} {an od : Option Addr} {osl : Array (Option Value)} {f : Addr} {args : List Value} {kw : List (Str × Value)}
    (binds : List (Str × Value))
    (C : Cx w loose mean mg mb (k + 1) ⟨none, dp, some (env :: outer), gd, un⟩ A₀ env outer base h₀ L m news s)
    (ho : (hd.heap_39 w.params).lookup f = some ⟨oc, od, .func (fnOf name qual params body scope dV kV doc pm an cdv ct), osl⟩) (hcd : codeIn (hd.heap_39 w.params) cdv qual = true)
    (hbind : BindsTo s (fnOf name qual params body scope dV kV doc pm an cdv ct) ⟨args, kw⟩ binds)
    (hco : scope.isCoroutine = false) (hgen : scope.isGenerator = false) (hk : scope.kind = .function)
    (hkind : (binds.all fun y => scope.names.lookup y.1 == some .local || scope.names.lookup y.1 == some .cell) = true)
    (hnd : ((cellsFrom 0 scope.names []).map (·.1)).Nodup)
    (h : ∀ g L' h₁ tk cells (Q' : Flow → Shared → Prop), Fr g L' h₁ (bindL (envOfC qual scope L' f cdv).kindOf binds fun _ => none) → News g L' h₁ (cells ++ news) →
      CellsAre (bindC (envOfC qual scope L' f cdv).kindOf binds fun _ => none) (cellsFrom (L' + 1) scope.names []) cells →
      Below ⟨none, dp, some (env :: outer), gd, un⟩ base (env :: outer) g → (hd.heap_39 w.params).In g → Top topProg loose mean mg mb g → (∀ p ∈ news, p.1 < L') →
      dp + 1 + k < recursionLimit → un + 3 + 8 * k < cLine →
      (∀ v L₂ m₂ news₂ h₂ tk₂, Fr g L₂ h₂ m₂ → News g L₂ h₂ news₂ → (Fr h₀ L h₂ m → News h₀ L h₂ news₂ → Q v { s with heap := h₂, toks := tk₂ }) → Q' (.ret v) { s with heap := h₂, toks := tk₂ }) →
      wpAny (model PySem.Challenge.pw_br5019_01 w) ⟨none, dp + 1, some (envOfC qual scope L' f cdv :: env :: outer), gd, un + 3⟩ (execs body (envOfC qual scope L' f cdv)) Q' (fun _ _ => False)
        { s with heap := h₁, toks := tk }) :
    wpAny (model PySem.Challenge.pw_br5019_01 w) ⟨none, dp, some (env :: outer), gd, un⟩ (call (.ref f) args kw) Q E s := by
  refine wpAny_call ?_
  have hroom : dp + (k + 1) < recursionLimit := C.hd
  have hunits : un + 8 * (k + 1) < cLine := C.hu
  refine code_defC C.B C.F C.X C.N C.T rfl C.hf C.hk ho hcd (by show dp < recursionLimit; omega) hbind hkind hnd (fun g L' h₁ tk cells FG F' N' Y B' X' T' l => ?_) hco hgen hk
  refine wpAny_mono (h g L' h₁ tk cells (fun fl s' => LeaveK h₀ L m g (fun r s' => match r with | .ok (.ret v) => Q v s' | .ok _ => False | .error e => E e s') (match fl with | .ret v => v | _ => .none) s') F' N' Y B' X' T' l (by omega) (by omega) ?_) (fun _ _ x => x) (fun _ _ x => x.elim)
  intro v L₂ m₂ news₂ h₂ tk₂ F₂ N₂ hq
  exact ⟨L₂, m₂, news₂, F₂, N₂, hq⟩
end Mine
end
noncomputable section
open Lean PySem PySem.W PySem.Spec PySem.Calls PyProof.Rows
set_option maxRecDepth 100000
namespace Mine
open LCg
section
variable {prog : Program} {w : World} {A : Around} {E : Value → Shared → Prop} {s : Shared} {h₀ : Heap} {L : Addr} {m : Str → Option Value} {env : Env}
def SrcB (prog : Program) (w : World) (A : Around) (h₀ : Heap) (L : Addr) (m : Str → Option Value) (env : Env) (elt : PySem.Expr) (x : Str) (scope : Scope) (cl : List (Str × Addr)) (Fin : Shared → List Value → List (Addr × Obj) → Prop) (xv : Value) (s₁ : Shared) : Prop :=
  ∃ (b : Array UInt8) (tb : Tok) (news : List (Addr × Obj)), xv = .bytes b tb ∧ A.handled = none ∧ Fr h₀ L s₁.heap m ∧ News h₀ L s₁.heap news ∧ b.size ≤ sizeLine ∧
      ∀ s₂ : Shared, (∃ h, s₂ = { s₁ with heap := h }) → CompRest prog w A h₀ L m env elt x scope cl s₂ (fun _ => True) (fun i v => ∃ c u, b[i]? = some c ∧ v = .int (c.toNat : Int) u) (Fin s₂) b.size 0 [] news
def SrcS (prog : Program) (w : World) (A : Around) (h₀ : Heap) (L : Addr) (m : Str → Option Value) (env : Env) (elt : PySem.Expr) (x : Str) (scope : Scope) (cl : List (Str × Addr)) (Fin : Shared → List Value → List (Addr × Obj) → Prop) (xv : Value) (s₁ : Shared) : Prop :=
  ∃ (t : Str) (tb : Tok) (news : List (Addr × Obj)), xv = .str t tb ∧ A.handled = none ∧ Fr h₀ L s₁.heap m ∧ News h₀ L s₁.heap news ∧ t.cps.size ≤ sizeLine ∧
      ∀ s₂ : Shared, (∃ h, s₂ = { s₁ with heap := h }) → CompRest prog w A h₀ L m env elt x scope cl s₂ (fun _ => True) (SignAt t) (Fin s₂) t.cps.size 0 [] news
theorem ListComp_B {elt iter : PySem.Expr} {x : Str} {px : Pos} {scope : Scope} {cl : List (Str × Addr)} {pos : Pos} {Q : Value → Shared → Prop} (_F₀ : Fr h₀ L s.heap m)
    (hclos : closureFor scope env = pure cl) (hcell : ∀ y ∈ scope.names, y.2 ≠ .cell) (hkind : scope.kind = .function)
    (hnames : ∀ y ∈ scope.names, y.2 = .local → scope.names.lookup y.1 = some .local) (hx : scope.names.lookup x = some .local)
    (h : wpAny (model prog w) A (eval iter env) (SrcB prog w A h₀ L m env elt x scope cl fun s₂ => FinE h₀ L m s₂ Q) E s)
    (hs : ∀ x, foldedSetIterable iter env x = pure x := by intro _; rfl) :
    wpAny (model prog w) A (eval (.ListComp elt [⟨.Name x px, iter, [], 0⟩] scope pos) env) Q E s := by
  rw [eval_ListComp]
  refine wpAny_comprehension_free (use := none) rfl hs hclos hkind hnames (wpAny_mono h (fun xv s₁ h₁ => ?_) fun _ _ e => e)
  obtain ⟨b, tb, news, rfl, hh, F, N, hsz, R⟩ := h₁
  refine KBw.pyIter_bytes ?_
  refine block_U (KBw.walks hh s₁.heap.objs.size b tb) hsz (fun i h st => by obtain ⟨o, e, _⟩ := st; exact ⟨o, e⟩)
    (fun i h h' o nw st e e' _ _ _ => by obtain ⟨o', q, r⟩ := st; rw [e] at q; cases q; exact ⟨o, e', r⟩) hcell hkind hx ⟨_, Heap.get?_push_size _ rfl, rfl, rfl⟩ (fun b hb => ?_)
    (F.push _) (fun p hp => ⟨Heap.get?_push_of_some _ (N p hp).1, (N p hp).2⟩) (Nat.ne_of_lt F.ns.lt) (next_is_new F) (fun p hp => Nat.ne_of_lt (Heap.lt_size (N p hp).1)) trivial (R _ ⟨_, rfl⟩) ?_
  · rw [List.mem_singleton.mp hb]
    show s₁.heap.objs.size < (s₁.heap.push _).objs.size
    rw [Heap.size_push]; exact Nat.lt_succ_self _
  · intro D C h' tk m' ys news' F' N' o1 hn hC₀ hD₀ hCL hDL hCD offC fin
    refine ⟨m', hn, fun h'' hs'' => fin D h'' tk (F'.change hs'' hCL hC₀) (fun p hp => ?_) o1⟩
    refine ⟨hs''.extBut _ _ ?_ (N' p hp).1, (N' p hp).2⟩
    rcases List.mem_cons.mp hp with rfl | hp
    · exact Ne.symm hCD
    · exact offC p hp
theorem Assign_ListComp_S {elt iter : PySem.Expr} {x y : Str} {px py : Pos} {scope : Scope} {cl : List (Str × Addr)} {pos spos : Pos} {Q : Flow → Shared → Prop} (_F₀ : Fr h₀ L s.heap m) (hLe : env.locals = L)
    (hsw : swapsWith (.ListComp elt [⟨.Name x px, iter, [], 0⟩] scope pos) (some (.Name y py)) spos.line env = pure true)
    (hclos : closureFor scope env = pure cl) (hcell : ∀ z ∈ scope.names, z.2 ≠ .cell) (hkind : scope.kind = .function)
    (hnames : ∀ z ∈ scope.names, z.2 = .local → scope.names.lookup z.1 = some .local) (hx : scope.names.lookup x = some .local)
    (hy : env.kindOf y = some .local) (hp : (env.scope.kind == .class || (env.scope.kind == .module && env.locals != env.globals)) = false)
    (h : wpAny (model prog w) A (eval iter env) (SrcS prog w A h₀ L m env elt x scope cl fun s₂ => FinA h₀ L m s₂ y Q) E s)
    (hs : ∀ x, foldedSetIterable iter env x = pure x := by intro _; rfl) :
    wpAny (model prog w) A (exec (.Assign [.Name y py] (.ListComp elt [⟨.Name x px, iter, [], 0⟩] scope pos) spos) env) Q E s := by
  subst hLe
  rw [exec_Assign_Name_used _ _ _ _ hsw]
  refine wpAny_bind (wpAny_standAt (wpAny_bind ?_))
  show wpAny _ A (do let _ ← comprehension (.ListComp elt [⟨.Name x px, iter, [], 0⟩] scope pos) scope env _ (newList []) false (eval iter env) (some (assign (.Name y py) env))) _ _ s
  refine wpAny_bind (wpAny_mono (wpAny_comprehension_free (use := some (assign (.Name y py) env)) (Q := fun _ s' => Q .next s') rfl hs hclos hkind hnames
    (wpAny_mono h (fun xv s₁ h₁ => ?_) fun _ _ e => e)) (fun _ s' hq => wpAny_pure (wpAny_pure hq)) fun _ _ e => e)
  obtain ⟨t, tb, news, rfl, hh, F, N, hsz, R⟩ := h₁
  have go : ∀ (T : String) (o : Obj), Walks prog w A s₁.heap.objs.size [s₁.heap.objs.size] [s₁.heap.objs.size] t.cps.size (SignAt t) (fun i h => h.IsStrIter s₁.heap.objs.size T t tb i) →
      (s₁.heap.push o).IsStrIter s₁.heap.objs.size T t tb 0 → wpAny (model prog w) A (newList []) (fun acc s₃ => wpAny (model prog w) A (newFunctionEnv scope env.globals cl [] env.qual none .none (some env)) (fun cenv s₄ =>
      codeAny (model prog w) A (.compStart (.ListComp elt [⟨.Name x px, iter, [], 0⟩] scope pos) 0 (.ref s₁.heap.objs.size) acc { cenv with scope := relabel scope env }) (compPost (model prog w) A E (some (assign (.Name y py) env)) (fun _ s' => Q .next s') acc cenv.locals) s₄) E s₃) E { s₁ with heap := s₁.heap.push o } := by
    intro T o W hst
    refine block_U (RR := fun acc C => compPost (model prog w) A E (some (assign (.Name y py) env)) (fun _ s' => Q .next s') acc C) W hsz (fun i h st => by obtain ⟨o, e, _⟩ := st; exact ⟨o, e⟩)
      (fun i h h' o nw st e e' _ _ _ => by obtain ⟨o', q, r⟩ := st; rw [e] at q; cases q; exact ⟨o, e', r⟩) hcell hkind hx hst (fun b hb => ?_)
      (F.push _) (fun p hp => ⟨Heap.get?_push_of_some _ (N p hp).1, (N p hp).2⟩) (Nat.ne_of_lt F.ns.lt) (next_is_new F) (fun p hp => Nat.ne_of_lt (Heap.lt_size (N p hp).1)) trivial (R _ ⟨_, rfl⟩) ?_
    · rw [List.mem_singleton.mp hb]
      show s₁.heap.objs.size < (s₁.heap.push _).objs.size
      rw [Heap.size_push]; exact Nat.lt_succ_self _
    · intro D C h' tk m' ys news' F' N' o1 hn hC₀ hD₀ hCL hDL hCD offC fin
      show wpAny _ A (assign (.Name y py) env (.ref D)) _ _ _
      refine wpAny_assign_Name (wpAny_storeName_local hy F'.ns (fun h₂ hn₂ hs₂ => ?_) hp)
      have hL₀ : h₀.get? env.locals = none := Heap.get?_none_of_le F'.above
      have F₂ : Fr h₀ env.locals h₂ (fun z => if z = y then some (.ref D) else m z) := ⟨hn₂, fun b o e => hs₂.extBut b o (fun q => by rw [q, hL₀] at e; cases e) (F'.keep b o e), F'.above⟩
      refine ⟨m', hn.sameBut hs₂ hCL, fun h'' hs'' => fin D h'' _ (F₂.change hs'' hCL hC₀) (fun p hp => ?_) o1⟩
      have z : h₂.get? p.1 = some p.2 := hs₂.extBut _ _ (N' p hp).2.1 (N' p hp).1
      refine ⟨hs''.extBut _ _ ?_ z, (N' p hp).2⟩
      rcases List.mem_cons.mp hp with rfl | hp
      · exact Ne.symm hCD
      · exact offC p hp
  cases ha : t.cps.all (· < 128)
  · exact wpAny_pyIter_wide ha (go "str_iterator" _ (Walks.strWide hh _ t tb) ⟨_, Heap.get?_push_size _ rfl, rfl, rfl⟩)
  · exact wpAny_pyIter_ascii ha (go "str_ascii_iterator" _ (Walks.strAscii hh _ t tb) ⟨_, Heap.get?_push_size _ rfl, rfl, rfl⟩)
end
end Mine
end
noncomputable section
open Lean PySem PySem.W PySem.Spec PySem.Calls PyProof.Rows
set_option maxRecDepth 100000

namespace Mine
open PySem.Builtin
theorem enc_lo (c : Nat) (hc : c < 128) (t u : Tok) : «str.encode» ⟨[.str (tx [c]) t, .str (Str.ofString "utf-8") u], []⟩ = (Made.bytes #[c.toUInt8]).tree := by
  match c, hc with
  | 0, _ => kernel_rfl
  | 1, _ => kernel_rfl
  | 2, _ => kernel_rfl
  | 3, _ => kernel_rfl
  | 4, _ => kernel_rfl
  | 5, _ => kernel_rfl
  | 6, _ => kernel_rfl
  | 7, _ => kernel_rfl
  | 8, _ => kernel_rfl
  | 9, _ => kernel_rfl
  | 10, _ => kernel_rfl
  | 11, _ => kernel_rfl
  | 12, _ => kernel_rfl
  | 13, _ => kernel_rfl
  | 14, _ => kernel_rfl
  | 15, _ => kernel_rfl
  | 16, _ => kernel_rfl
  | 17, _ => kernel_rfl
  | 18, _ => kernel_rfl
  | 19, _ => kernel_rfl
  | 20, _ => kernel_rfl
  | 21, _ => kernel_rfl
  | 22, _ => kernel_rfl
  | 23, _ => kernel_rfl
  | 24, _ => kernel_rfl
  | 25, _ => kernel_rfl
  | 26, _ => kernel_rfl
  | 27, _ => kernel_rfl
  | 28, _ => kernel_rfl
  | 29, _ => kernel_rfl
  | 30, _ => kernel_rfl
  | 31, _ => kernel_rfl
  | 32, _ => kernel_rfl
  | 33, _ => kernel_rfl
  | 34, _ => kernel_rfl
  | 35, _ => kernel_rfl
  | 36, _ => kernel_rfl
  | 37, _ => kernel_rfl
  | 38, _ => kernel_rfl
  | 39, _ => kernel_rfl
  | 40, _ => kernel_rfl
  | 41, _ => kernel_rfl
  | 42, _ => kernel_rfl
  | 43, _ => kernel_rfl
  | 44, _ => kernel_rfl
  | 45, _ => kernel_rfl
  | 46, _ => kernel_rfl
  | 47, _ => kernel_rfl
  | 48, _ => kernel_rfl
  | 49, _ => kernel_rfl
  | 50, _ => kernel_rfl
  | 51, _ => kernel_rfl
  | 52, _ => kernel_rfl
  | 53, _ => kernel_rfl
  | 54, _ => kernel_rfl
  | 55, _ => kernel_rfl
  | 56, _ => kernel_rfl
  | 57, _ => kernel_rfl
  | 58, _ => kernel_rfl
  | 59, _ => kernel_rfl
  | 60, _ => kernel_rfl
  | 61, _ => kernel_rfl
  | 62, _ => kernel_rfl
  | 63, _ => kernel_rfl
  | 64, _ => kernel_rfl
  | 65, _ => kernel_rfl
  | 66, _ => kernel_rfl
  | 67, _ => kernel_rfl
  | 68, _ => kernel_rfl
  | 69, _ => kernel_rfl
  | 70, _ => kernel_rfl
  | 71, _ => kernel_rfl
  | 72, _ => kernel_rfl
  | 73, _ => kernel_rfl
  | 74, _ => kernel_rfl
  | 75, _ => kernel_rfl
  | 76, _ => kernel_rfl
  | 77, _ => kernel_rfl
  | 78, _ => kernel_rfl
  | 79, _ => kernel_rfl
  | 80, _ => kernel_rfl
  | 81, _ => kernel_rfl
  | 82, _ => kernel_rfl
  | 83, _ => kernel_rfl
  | 84, _ => kernel_rfl
  | 85, _ => kernel_rfl
  | 86, _ => kernel_rfl
  | 87, _ => kernel_rfl
  | 88, _ => kernel_rfl
  | 89, _ => kernel_rfl
  | 90, _ => kernel_rfl
  | 91, _ => kernel_rfl
  | 92, _ => kernel_rfl
  | 93, _ => kernel_rfl
  | 94, _ => kernel_rfl
  | 95, _ => kernel_rfl
  | 96, _ => kernel_rfl
  | 97, _ => kernel_rfl
  | 98, _ => kernel_rfl
  | 99, _ => kernel_rfl
  | 100, _ => kernel_rfl
  | 101, _ => kernel_rfl
  | 102, _ => kernel_rfl
  | 103, _ => kernel_rfl
  | 104, _ => kernel_rfl
  | 105, _ => kernel_rfl
  | 106, _ => kernel_rfl
  | 107, _ => kernel_rfl
  | 108, _ => kernel_rfl
  | 109, _ => kernel_rfl
  | 110, _ => kernel_rfl
  | 111, _ => kernel_rfl
  | 112, _ => kernel_rfl
  | 113, _ => kernel_rfl
  | 114, _ => kernel_rfl
  | 115, _ => kernel_rfl
  | 116, _ => kernel_rfl
  | 117, _ => kernel_rfl
  | 118, _ => kernel_rfl
  | 119, _ => kernel_rfl
  | 120, _ => kernel_rfl
  | 121, _ => kernel_rfl
  | 122, _ => kernel_rfl
  | 123, _ => kernel_rfl
  | 124, _ => kernel_rfl
  | 125, _ => kernel_rfl
  | 126, _ => kernel_rfl
  | 127, _ => kernel_rfl
  | n + 128, h => exact absurd h (by omega)
theorem enc_e9 (t u : Tok) : «str.encode» ⟨[.str (tx [233]) t, .str (Str.ofString "utf-8") u], []⟩ = (Made.bytes #[195, 169]).tree := by kernel_rfl
theorem fmt_lo (c : Nat) (hc : c < 128) (t u : Tok) : «int.__format__» ⟨[.int (c : Int) t, .str (Str.ofString "02X") u], []⟩ = (Made.str (tx [hexL.getD (c / 16) 0, hexL.getD (c % 16) 0])).tree := by
  match c, hc with
  | 0, _ => kernel_rfl
  | 1, _ => kernel_rfl
  | 2, _ => kernel_rfl
  | 3, _ => kernel_rfl
  | 4, _ => kernel_rfl
  | 5, _ => kernel_rfl
  | 6, _ => kernel_rfl
  | 7, _ => kernel_rfl
  | 8, _ => kernel_rfl
  | 9, _ => kernel_rfl
  | 10, _ => kernel_rfl
  | 11, _ => kernel_rfl
  | 12, _ => kernel_rfl
  | 13, _ => kernel_rfl
  | 14, _ => kernel_rfl
  | 15, _ => kernel_rfl
  | 16, _ => kernel_rfl
  | 17, _ => kernel_rfl
  | 18, _ => kernel_rfl
  | 19, _ => kernel_rfl
  | 20, _ => kernel_rfl
  | 21, _ => kernel_rfl
  | 22, _ => kernel_rfl
  | 23, _ => kernel_rfl
  | 24, _ => kernel_rfl
  | 25, _ => kernel_rfl
  | 26, _ => kernel_rfl
  | 27, _ => kernel_rfl
  | 28, _ => kernel_rfl
  | 29, _ => kernel_rfl
  | 30, _ => kernel_rfl
  | 31, _ => kernel_rfl
  | 32, _ => kernel_rfl
  | 33, _ => kernel_rfl
  | 34, _ => kernel_rfl
  | 35, _ => kernel_rfl
  | 36, _ => kernel_rfl
  | 37, _ => kernel_rfl
  | 38, _ => kernel_rfl
  | 39, _ => kernel_rfl
  | 40, _ => kernel_rfl
  | 41, _ => kernel_rfl
  | 42, _ => kernel_rfl
  | 43, _ => kernel_rfl
  | 44, _ => kernel_rfl
  | 45, _ => kernel_rfl
  | 46, _ => kernel_rfl
  | 47, _ => kernel_rfl
  | 48, _ => kernel_rfl
  | 49, _ => kernel_rfl
  | 50, _ => kernel_rfl
  | 51, _ => kernel_rfl
  | 52, _ => kernel_rfl
  | 53, _ => kernel_rfl
  | 54, _ => kernel_rfl
  | 55, _ => kernel_rfl
  | 56, _ => kernel_rfl
  | 57, _ => kernel_rfl
  | 58, _ => kernel_rfl
  | 59, _ => kernel_rfl
  | 60, _ => kernel_rfl
  | 61, _ => kernel_rfl
  | 62, _ => kernel_rfl
  | 63, _ => kernel_rfl
  | 64, _ => kernel_rfl
  | 65, _ => kernel_rfl
  | 66, _ => kernel_rfl
  | 67, _ => kernel_rfl
  | 68, _ => kernel_rfl
  | 69, _ => kernel_rfl
  | 70, _ => kernel_rfl
  | 71, _ => kernel_rfl
  | 72, _ => kernel_rfl
  | 73, _ => kernel_rfl
  | 74, _ => kernel_rfl
  | 75, _ => kernel_rfl
  | 76, _ => kernel_rfl
  | 77, _ => kernel_rfl
  | 78, _ => kernel_rfl
  | 79, _ => kernel_rfl
  | 80, _ => kernel_rfl
  | 81, _ => kernel_rfl
  | 82, _ => kernel_rfl
  | 83, _ => kernel_rfl
  | 84, _ => kernel_rfl
  | 85, _ => kernel_rfl
  | 86, _ => kernel_rfl
  | 87, _ => kernel_rfl
  | 88, _ => kernel_rfl
  | 89, _ => kernel_rfl
  | 90, _ => kernel_rfl
  | 91, _ => kernel_rfl
  | 92, _ => kernel_rfl
  | 93, _ => kernel_rfl
  | 94, _ => kernel_rfl
  | 95, _ => kernel_rfl
  | 96, _ => kernel_rfl
  | 97, _ => kernel_rfl
  | 98, _ => kernel_rfl
  | 99, _ => kernel_rfl
  | 100, _ => kernel_rfl
  | 101, _ => kernel_rfl
  | 102, _ => kernel_rfl
  | 103, _ => kernel_rfl
  | 104, _ => kernel_rfl
  | 105, _ => kernel_rfl
  | 106, _ => kernel_rfl
  | 107, _ => kernel_rfl
  | 108, _ => kernel_rfl
  | 109, _ => kernel_rfl
  | 110, _ => kernel_rfl
  | 111, _ => kernel_rfl
  | 112, _ => kernel_rfl
  | 113, _ => kernel_rfl
  | 114, _ => kernel_rfl
  | 115, _ => kernel_rfl
  | 116, _ => kernel_rfl
  | 117, _ => kernel_rfl
  | 118, _ => kernel_rfl
  | 119, _ => kernel_rfl
  | 120, _ => kernel_rfl
  | 121, _ => kernel_rfl
  | 122, _ => kernel_rfl
  | 123, _ => kernel_rfl
  | 124, _ => kernel_rfl
  | 125, _ => kernel_rfl
  | 126, _ => kernel_rfl
  | 127, _ => kernel_rfl
  | n + 128, h => exact absurd h (by omega)
theorem fmt_c3 (t u : Tok) : «int.__format__» ⟨[.int (195 : Int) t, .str (Str.ofString "02X") u], []⟩ = (Made.str (tx [67, 51])).tree := by kernel_rfl
theorem fmt_a9 (t u : Tok) : «int.__format__» ⟨[.int (169 : Int) t, .str (Str.ofString "02X") u], []⟩ = (Made.str (tx [65, 57])).tree := by kernel_rfl
end Mine
namespace Mine
open PySem.Builtin
section
variable {prog : Program} {w : World} {A : Around} {E : Value → Shared → Prop} {s : Shared} {Q : Value → Shared → Prop}
theorem r_fmt {a : Int} {t : Tok} {y : Str} (g : ∀ u, «int.__format__» ⟨[.int a t, .str (Str.ofString "02X") u], []⟩ = (Made.str y).tree) (hy : y.length ≤ sizeLine)
    (h : ∀ tv tk, Q (.str y tv) { s with toks := tk }) : wpAny (model prog w) A (formatField (.int a t) (Str.ofString "02X")) Q E s := by
  show wpAny _ _ (holding [.int a t] (pyFormat (.int a t) (Str.ofString "02X"))) Q E s
  refine wpAny_holding ?_
  unfold pyFormat
  refine wpAny_bind (wpAny_mkStr ?_ (by decide))
  refine wpAny_bind (m := callSpecial? (.int a t) (Str.ofString "__format__") [.str (Str.ofString "02X") s.toks]) (wpAny_callSpecial?_slot (name := Str.ofString "__format__") (typeIs_int _ a t) F.slot_int_format
    (call_gives F.slot_int_format (typeIs_int _ a t) F.entry_int_format (F.args_int_format_2 _ _) (Gives.of_eq (g _)) ⟨hy, ?_⟩))
  show wpAny _ _ (do if ← isInstance (.str y (s.toks + 1)) (.type "str") then return (.str y (s.toks + 1)) else _) Q E _
  exact wpAny_bind (wpAny_isInstance (typeIs_str _ _ _) isSubtype_str_str (wpAny_pure (h _ _)))
theorem r_enc {x : Str} {t u : Tok} {b : Array UInt8} (g : «str.encode» ⟨[.str x t, .str (Str.ofString "utf-8") u], []⟩ = (Made.bytes b).tree) (hb : b.size ≤ sizeLine)
    (h : ∀ tv tk, Q (.bytes b tv) { s with toks := tk }) : wpAny (model prog w) A (call (.builtin "str.encode") [.str x t, .str (Str.ofString "utf-8") u]) Q E s :=
  call_gives F.slot_str_encode (typeIs_str _ _ _) F.entry_str_encode (F.args_str_encode_2 _ _) (Gives.of_eq g) ⟨hb, h _ _⟩
end
def isKept (c : Nat) : Bool := (Str.ofString "ABCDEFGHIJKLMNOPQRSTUVWXYZabcdefghijklmnopqrstuvwxyz0123456789_.-~:/?#@!$&()*+,;=%").cps.toList.contains c
theorem kept_same (c : Nat) : isKept c = isKeep c := by
  rw [← H_keep]
  unfold isKept
  rw [Bool.eq_iff_iff]
  have h1 : ∀ x ∈ (Str.ofString "ABCDEFGHIJKLMNOPQRSTUVWXYZabcdefghijklmnopqrstuvwxyz0123456789_.-~:/?#@!$&()*+,;=%").cps.toList, x ∈ (Str.ofString "abcdefghijklmnopqrstuvwxyzABCDEFGHIJKLMNOPQRSTUVWXYZ0123456789_.-~:/?#@!$&()*+,;=%").cps.toList := by decide +kernel
  have h2 : ∀ x ∈ (Str.ofString "abcdefghijklmnopqrstuvwxyzABCDEFGHIJKLMNOPQRSTUVWXYZ0123456789_.-~:/?#@!$&()*+,;=%").cps.toList, x ∈ (Str.ofString "ABCDEFGHIJKLMNOPQRSTUVWXYZabcdefghijklmnopqrstuvwxyz0123456789_.-~:/?#@!$&()*+,;=%").cps.toList := by decide +kernel
  simp only [List.contains_iff_mem]
  exact ⟨h1 c, h2 c⟩
theorem H_kept (c : Nat) : (Str.ofString "ABCDEFGHIJKLMNOPQRSTUVWXYZabcdefghijklmnopqrstuvwxyz0123456789_.-~:/?#@!$&()*+,;=%").cps.toList.contains c = isKeep c := kept_same c
end Mine
namespace Mine
theorem u8_lo {c : Nat} (h : c < 128) : ((c.toUInt8).toNat : Int) = (c : Int) := by
  have : (c.toUInt8).toNat = c := by simp [Nat.toUInt8]; omega
  rw [this]
theorem urlC_lo {c : Nat} (h : isKeep c = false) (h2 : c < 128) : urlC c = [37, hexL.getD (c / 16) 0, hexL.getD (c % 16) 0] := urlC_c h (beq_eq_false_iff_ne.mpr (by omega))
theorem tx_at {l : List Nat} {i c : Nat} (h : (tx l).cps[i]? = some c) : l[i]? = some c := by simpa [tx] using h
theorem take_snoc {l : List Nat} {i c : Nat} (h : l[i]? = some c) : l.take (i + 1) = l.take i ++ [c] := by rw [List.take_add_one, h]; rfl
end Mine
namespace Mine
theorem emp_tx (X : List Nat) : Str.empty ++ tx [37] ++ tx X = tx (37 :: X) := by
  rw [show Str.empty = tx [] from rfl, tx_app, tx_app]; rfl
end Mine
end
noncomputable section
open Lean PySem PySem.W PySem.Spec PySem.Calls PyProof.Rows
set_option maxRecDepth 100000
namespace Mine
theorem fill_F11 : 0 = 0 ∧ 0 = 0 := by
  try walk1
  w_top off
  all_goals first | rfl | exact ⟨rfl, rfl⟩
local macro_rules | `(tactic| walk_at "noloop") => `(tactic| first
  | ((fail_if_success (fail_if_success (with_reducible show wpAny _ _ (execs _ _) _ _ _))); fail_if_success ((with_reducible refine st_execs ?_ ?_); (focus rfl)))
  | ((fail_if_success (fail_if_success (with_reducible show wpAny _ _ (exec _ _) _ _ _))); fail_if_success ((with_reducible refine st_exec ?_ ?_); (focus rfl)))
  | ((fail_if_success (with_reducible show wpAny _ _ (execs _ _) _ _ _)); (fail_if_success (with_reducible show wpAny _ _ (exec _ _) _ _ _)); (fail_if_success (with_reducible show wpAny _ _ (eval (Expr.ListComp _ _ _ _) _) _ _ _)); (fail_if_success (with_reducible show wpAny _ _ (pyIter _) _ _ _)); (fail_if_success (with_reducible show wpAny _ _ (truthy (Value.str (tx _) _)) _ _ _))))
local macro_rules | `(tactic| walk_at "go") => `(tactic| repeat' (first
  | (k_unfold; (try dsimp only))
  | (walk_at "noloop"; walk1)
  | (dsimp only; walk_at "noloop"; walk1)))
local macro_rules | `(tactic| walk_at "look") => `(tactic| ((try dsimp only); repeat' (first | exact List.forall_mem_nil _ | (refine List.forall_mem_cons.mpr ⟨by with_unfolding_all rfl, ?_⟩))))
local macro_rules | `(tactic| walk_at "ix") => `(tactic| first | omega | (simp only [List.length_take, List.length_drop] at *; omega))
local macro_rules | `(tactic| walk_at "subscriptTail Name Name str int") => `(tactic| ((with_reducible show wpAny _ _ (subscriptTail _ _ (Value.str (tx _) _) (Value.int _ _)) _ _ _); refine r_item (by walk_at "ix") (by walk_at "ix") (by walk_at "ix") ?_))
local macro_rules | `(tactic| walk_at "subscriptTail Name BinOp str int") => `(tactic| ((with_reducible show wpAny _ _ (subscriptTail _ _ (Value.str (tx _) _) (Value.int _ _)) _ _ _); refine r_item (by walk_at "ix") (by walk_at "ix") (by walk_at "ix") ?_))
local macro_rules | `(tactic| walk_at "compareOp In str str") => `(tactic| ((with_reducible show wpAny _ _ (compareOp _ (Value.str (tx _) _) (Value.str _ _)) _ _ _); refine r_in ?_))
local macro_rules | `(tactic| walk_at "compareOp NotIn str str") => `(tactic| ((with_reducible show wpAny _ _ (compareOp _ (Value.str (tx _) _) (Value.str _ _)) _ _ _); refine r_notin ?_))
local macro_rules | `(tactic| walk_at "compareOp Eq str str") => `(tactic| ((with_reducible show wpAny _ _ (compareOp _ (Value.str (tx _) _) (Value.str _ _)) _ _ _); refine r_eq ?_))
local macro_rules | `(tactic| walk_at "compareOp NotEq str str") => `(tactic| ((with_reducible show wpAny _ _ (compareOp _ (Value.str (tx _) _) (Value.str _ _)) _ _ _); refine r_ne ?_))
local macro_rules | `(tactic| walk_at "call builtin:ord") => `(tactic| ((with_reducible show wpAny _ _ (call _ [Value.str (tx _) _]) _ _ _); refine r_ord ?_))
local macro_rules | `(tactic| walk_at "call builtin:len") => `(tactic| ((with_reducible show wpAny _ _ (call _ [Value.str (tx _) _]) _ _ _); refine r_len (by walk_at "ix") ?_))
local macro_rules | `(tactic| walk_at "compareOp In str str") => `(tactic| ((with_reducible show wpAny _ _ (compareOp _ (Value.str (tx _) _) (Value.str _ _)) _ _ _); first | refine r_in2 isWs H_ws ?_ | refine r_in2 isBl H_bl ?_ | refine r_in2 isNl H_nl ?_ | refine r_in2 isBad H_bad ?_ | refine r_in2 isPu H_pu ?_))
local macro_rules | `(tactic| walk_at "compareOp NotIn str str") => `(tactic| ((with_reducible show wpAny _ _ (compareOp _ (Value.str (tx _) _) (Value.str _ _)) _ _ _); first | refine r_notin2 isWs H_ws ?_ | refine r_notin2 isPu H_pu ?_))
local macro_rules | `(tactic| walk_at "compareOp Eq str str") => `(tactic| ((with_reducible show wpAny _ _ (compareOp _ (Value.str (tx _) _) (Value.str _ _)) _ _ _); first | refine r_eq1 L_lt ?_ | refine r_eq1 L_gt ?_ | refine r_eq1 L_bs ?_ | refine r_eq1 L_lp ?_ | refine r_eq1 L_rp ?_ | refine r_eq1 L_del ?_ | refine r_eq1 L_nul ?_ | refine r_eq1 L_n ?_ | refine r_eq1 L_r ?_))
local macro_rules | `(tactic| walk_at "compareOp NotEq str str") => `(tactic| ((with_reducible show wpAny _ _ (compareOp _ (Value.str (tx _) _) (Value.str _ _)) _ _ _); first | refine r_ne1 L_rp ?_))
local macro_rules | `(tactic| walk_at "subscriptTail Name Slice str ref") => `(tactic| ((with_reducible show wpAny _ _ (subscriptTail _ (Expr.Slice (some _) (some _) none _) (Value.str (tx _) _) _) _ _ _); (with_reducible rename Fr _ _ _ _ => F'); (with_reducible rename News _ _ _ _ => N'); (refine r_slice (s := ⟨_, _, _, _, _⟩) (by walk_at "ix") (by walk_at "ix") (by walk_at "ix") F' N' ?_); intro _ _ _ _ _))
local macro_rules | `(tactic| walk_at "compareOp Eq str str") => `(tactic| ((with_reducible show wpAny _ _ (compareOp _ (Value.str (tx _) _) (Value.str _ _)) _ _ _); refine r_eqL L_rn ?_))
local macro_rules | `(tactic| walk_at "fact") => `(tactic| first | assumption | exact beq_iff_eq.mp (by assumption) | exact beq_eq_false_iff_ne.mp (by assumption) | omega)
local macro_rules | `(tactic| walk_at "noesc") => `(tactic| (rintro ⟨e1, e2, e3⟩; first | exact absurd e1 (beq_eq_false_iff_ne.mp (by assumption)) | exact Bool.noConfusion (Eq.trans (Eq.symm (show isPu _ = false from by assumption)) e3) | exact absurd (Eq.trans (Eq.symm e1) (beq_iff_eq.mp (show (List.getD _ _ _ == _) = true from by assumption))) (by decide) | omega))
local macro_rules | `(tactic| walk_at "cx") => `(tactic| exact ⟨by k_asm, by k_asm, by k_asm, by k_asm, by k_asm, rfl, rfl, rfl, rfl, (by (show _ + _ < _); omega), (by (show _ + 8 * _ < _); omega)⟩)
local macro_rules | `(tactic| walk_at "call ref") => `(tactic| ((with_reducible show wpAny _ _ (call (Value.ref 137) _ _) _ _ _); refine c_begin _ _ _ _ (by walk_at "cx") (by omega) ?_; intro t9 h9 k9 F9 N9; (try dsimp only)))
local macro_rules | `(tactic| walk_at "call ref") => `(tactic| ((with_reducible show wpAny _ _ (call (Value.ref 144) _ _) _ _ _); refine c_angle _ _ _ _ (by walk_at "cx") (by omega) (by omega) ?_ ?_; (all_goals intros); (all_goals (try dsimp only))))
local macro_rules | `(tactic| walk_at "call builtin:min") => `(tactic| ((with_reducible show wpAny _ _ (call (Value.builtin _) [Value.int _ _, Value.int _ _]) _ _ _); refine r_min (by omega) rfl (by assumption) (by assumption) ?_; intro h9 t9 k9 F9 N9))
local macro_rules | `(tactic| walk_at "retx") => `(tactic| (dsimp only; refine hret' _ _ _ _ _ _ (by assumption) (by assumption) fun F2 N2 => ?_))
local macro_rules | `(tactic| walk_at "upd") => `(tactic| first | exact Upd.head (by assumption) | (refine' Upd.tail ?a ?b; (case a => k_ne); (case b => walk_at "upd")))
local macro_rules | `(tactic| walk_at "sz") => `(tactic| ((try simp only [List.size_toArray, PySem.sizeLine_eq]); omega))
local macro_rules | `(tactic| walk_at "call builtin:list.append") => `(tactic| (k_here; (with_reducible show wpAny _ _ (call (Value.builtin _) [Value.ref _, _]) _ _ _); (refine' append_K ?k1 ?k2 ?k3 ?_ ?z; (case k1 => k_asm); (case k2 => k_asm); (case k3 => walk_at "upd"); (case z => walk_at "sz"); k_whole); intro h' F' N'; (try simp only [List.push_toArray] at N'); (try k_sweep)))
local macro_rules | `(tactic| walk_at "call ref") => `(tactic| ((with_reducible show wpAny _ _ (call (Value.ref 192) _ _) _ _ _); refine c_lbegin _ _ _ _ (by walk_at "cx") (by omega) ?_; intro t9 h9 k9 F9 N9; (try dsimp only)))
local macro_rules | `(tactic| walk_at "call ref") => `(tactic| ((with_reducible show wpAny _ _ (call (Value.ref 166) _ _) _ _ _); refine c_units _ _ _ _ _ _ (by walk_at "cx") (by walk_at "ix") (by walk_at "ix") ?_; intro a9 n9 vs9 tl9 h9 k9 U9 F9 N9 d9; (try dsimp only)))
local macro_rules | `(tactic| walk_at "subscriptTail Name Constant ref int") => `(tactic| ((with_reducible show wpAny _ _ (subscriptTail _ _ (Value.ref _) (Value.int _ _)) _ _ _); (with_unfolding_all refine' item_litK ?k1 ?k2 ?k3 ?k4 ?_ ?k6; (case k1 => exact News.isList (by k_asm) (by first | k_mem | walk_at "mem")); (case k2 => decide); (case k3 => decide); (case k4 => rfl); (case k6 => with_unfolding_all rfl); k_whole)))
local macro_rules | `(tactic| walk_at "offx") => `(tactic| (intro _; repeat' (first | exact List.forall_mem_nil _ | (refine List.forall_mem_cons.mpr ⟨by (show Str.ofString _ ≠ Str.ofString _); decide, ?_⟩))))
local macro_rules | `(tactic| walk_at "sub") => `(tactic| (intro q hq; (try simp only [List.cons_append, List.append_assoc, List.mem_cons, List.mem_append, List.not_mem_nil, or_false, or_assoc] at hq ⊢); (repeat' (first | exact hq | (refine Or.elim hq (fun hq => ?_) (fun hq => ?_)) | exact Or.inl hq | (refine Or.inr ?_)))))
local macro_rules | `(tactic| walk_at "mem") => `(tactic| first | assumption | exact List.mem_cons_self | (refine List.mem_cons_of_mem _ ?_; walk_at "mem") | (refine List.mem_append_left _ ?_; walk_at "mem") | (refine List.mem_append_right _ ?_; walk_at "mem"))
local macro_rules | `(tactic| walk_at "subscriptTail Name Name ref int") => `(tactic| ((with_reducible show wpAny _ _ (subscriptTail _ _ (Value.ref _) (Value.int _ _)) _ _ _); (with_unfolding_all refine' r_unit ?k1 ?k2 ?k3 ?k4 ?k5 ?k6 ?_ ?k7; (case k1 => k_asm); (case k2 => walk_at "mem"); (case k3 => assumption); (case k4 => omega); (case k5 => omega); (case k6 => omega); (case k7 => with_unfolding_all rfl)); intro a8 t8 t7 n8 m8))
local macro_rules | `(tactic| walk_at "subscriptTail Subscript") => `(tactic| with_reducible refine r_turn ?_)
local macro_rules | `(tactic| walk_at "compareOp Eq str str") => `(tactic| ((with_reducible show wpAny _ _ (compareOp _ (Value.str (tx _) _) (Value.str (tx _) _)) _ _ _); refine r_eqT ?_))
local macro_rules | `(tactic| walk_at "compareOp NotEq str str") => `(tactic| ((with_reducible show wpAny _ _ (compareOp _ (Value.str (tx _) _) (Value.str (tx _) _)) _ _ _); refine r_neT ?_))
local macro_rules | `(tactic| walk_at "compareOp NotIn str str") => `(tactic| ((with_reducible show wpAny _ _ (compareOp _ (Value.str (tx _) _) (Value.str _ _)) _ _ _); refine r_notin2 isOp H_open ?_))
local macro_rules | `(tactic| walk_at "eval Constant str") => `(tactic| with_reducible (first | refine r_const E_rp ?_ | refine r_const E_nil ?_))
local macro_rules | `(tactic| walk_at "binaryOp Add str str") => `(tactic| ((with_reducible show wpAny _ _ (binaryOp _ (Value.str (tx _) _) (Value.str (tx _) _)) _ _ _); refine r_cat (by first | omega | (simp only [List.length_append, List.length_cons, List.length_nil]; omega)) ?_; intro t9 k9))
local macro_rules | `(tactic| walk_at "call builtin:len") => `(tactic| ((with_reducible show wpAny _ _ (call (Value.builtin "len") [Value.ref _]) _ _ _); refine r_lenU (by k_asm) (by walk_at "mem") (by assumption) (by omega) ?_; intro t9 k9))
local macro_rules | `(tactic| walk_at "eval Name") => `(tactic| first
  | ((with_reducible refine' ld ?k1 ?k2 ?_ ?k3 ?k4 ?k5); (case k4 => kernel_rfl!); (case k1 => k_asm); (case k2 => k_dflt (exact rfl)); (case k3 => k_dflt (exact rfl)); (case k5 => decide); k_whole)
  | ((with_reducible refine' name_K ?k0 ?k1 ?k2 ?k3 ?_ ?k4 ?k5 ?k6); (case k5 => kernel_rfl!); (case k0 => k_asm); (case k1 => k_asm); (case k2 => k_asm); (case k3 => k_dflt k_is); (case k4 => k_dflt (exact rfl)); (case k6 => decide); k_whole))
local macro_rules | `(tactic| walk_at "ite") => `(tactic| first | with_reducible refine ite_tt ?_ | with_reducible refine ite_ff ?_ | with_reducible refine ite_True_then ?_ | with_reducible refine ite_False_else ?_ | (k_openite; first | refine ite_pos (by with_reducible assumption) ?_ | refine ite_neg (by with_reducible assumption) ?_ | refine ite_isFalse (by with_reducible assumption) ?_ | (with_reducible refine split_ine ?_ ?_ <;> intro _) | (with_reducible refine split_ieq ?_ ?_ <;> intro _) | with_reducible refine split_not ?_ | (refine split_dec ?_ ?_ <;> intro _) | (refine split_bool ?_ ?_ <;> intro _)))
local macro_rules | `(tactic| walk_at "callWith ref") => `(tactic| first
  | ((with_reducible refine' callWith_K ?k1 ?k2 ?_ ?k3 ?k4); (case k1 => k_asm); (case k2 => k_dflt k_is); (case k3 => k_dflt (exact rfl)); (case k4 => k_dflt (exact rfl)); k_whole)
  | ((with_reducible refine' callWith_K0 ?k1 ?k2 ?_); (case k1 => k_dflt k_in); (case k2 => k_dflt k_is); k_whole)
  | ((with_reducible refine' callWith_KW ?k1 ?k2 ?k3 ?_ ?k4 ?k5); (case k1 => k_asm); (case k2 => k_dflt k_is); (case k3 => k_dflt (exact rfl)); (case k4 => k_dflt (exact rfl)); (case k5 => k_dflt (exact rfl)); k_whole))

local macro_rules | `(tactic| walk_at "getMethod str") => `(tactic| ((with_reducible show wpAny _ _ (getMethod (Value.str _ _) (Str.ofString "encode") _) _ _ _); refine getMethod_builtin (typeIs_str _ _ _) PySem.F.plainAttrs_str PySem.F.slot_str_encode PySem.F.type_str_encode (fun _ e => nomatch e) ?_))
local macro_rules | `(tactic| walk_at "eval Name") => `(tactic| ((with_reducible show wpAny _ _ (eval (Expr.Name (Str.ofString "octet") _) (compEnvC _ _ _ _)) _ _ _); (with_reducible rename News _ _ _ _ => N'); (refine LCgL.ld_own N' (.tail _ (.head _)) (by assumption) (by assumption) ?_ rfl rfl)))
local macro_rules | `(tactic| walk_at "call builtin:str.encode") => `(tactic| ((with_reducible show wpAny _ _ (call (Value.builtin "str.encode") [Value.str (tx _) _, _]) _ _ _); first | refine r_enc (enc_lo _ (by assumption) _ _) (by rw [sizeLine_eq]; exact Nat.le_of_ble_eq_true rfl) ?_ | refine r_enc (enc_e9 _ _) (by rw [sizeLine_eq]; exact Nat.le_of_ble_eq_true rfl) ?_))
local macro_rules | `(tactic| walk_at "formatField int") => `(tactic| ((with_reducible show wpAny _ _ (formatField (Value.int _ _) (Str.ofString "02X")) _ _ _); first | refine r_fmt (fmt_c3 _) (by rw [tx_len, sizeLine_eq]; exact Nat.le_of_ble_eq_true rfl) ?_ | refine r_fmt (fmt_a9 _) (by rw [tx_len, sizeLine_eq]; exact Nat.le_of_ble_eq_true rfl) ?_ | refine r_fmt (fmt_lo _ (by assumption) _) (by rw [tx_len, sizeLine_eq]; exact Nat.le_of_ble_eq_true rfl) ?_))
local macro_rules | `(tactic| walk_at "eval Name") => `(tactic| ((with_reducible show wpAny _ _ (eval (Expr.Name (Str.ofString "kept") _) (compEnvC _ _ _ _)) _ _ _); (with_reducible rename News _ _ _ _ => N'); (refine lcf_cell N' rfl (by walk_at "mem") (by assumption) ?_ rfl rfl)))
local macro_rules | `(tactic| walk_at "eval Name") => `(tactic| ((with_reducible show wpAny _ _ (eval (Expr.Name (Str.ofString "sign") _) (compEnvC _ _ _ _)) _ _ _); (with_reducible rename News _ _ _ _ => N'); (refine LCgL.ld_own N' (.tail _ (.head _)) (by assumption) (by assumption) ?_ rfl rfl)))
local macro_rules | `(tactic| walk_at "compareOp In str str") => `(tactic| ((with_reducible show wpAny _ _ (compareOp _ (Value.str (tx _) _) (Value.str (Str.ofString "ABCDEFGHIJKLMNOPQRSTUVWXYZabcdefghijklmnopqrstuvwxyz0123456789_.-~:/?#@!$&()*+,;=%") _)) _ _ _); refine r_in2 isKeep H_kept ?_))
local macro_rules | `(tactic| walk_at "eval Constant str") => `(tactic| with_reducible (first | refine r_const E_pct ?_ | refine r_const E_c3 ?_))
set_option maxHeartbeats 4000000 in
theorem c_quote {w : World} {loose : List Str} {mean : ExcName → Option Value} {mg mb : Str → Option Value} {k dp un : Nat} {gd : Option (List Code)}
    {A₀ : Around} {env : Env} {outer : List Env} {base h₀ : Heap} {L : Addr} {m : Str → Option Value} {news : List (Addr × Obj)} {s : Shared}
    {E Q : Value → Shared → Prop} (l : List Nat) (t1 t2 : Tok)
    (C : Cx w loose mean mg mb (k + 1) ⟨none, dp, some (env :: outer), gd, un⟩ A₀ env outer base h₀ L m news s)
    (hl : l.length ≤ 1000) (ha : Alph l)
    (hret : ∀ t h' tk', Fr h₀ L h' m → News h₀ L h' news → Q (.str (tx (urlS l)) t) { s with heap := h', toks := tk' }) :
    wpAny (model PySem.Challenge.pw_br5019_01 w) ⟨none, dp, some (env :: outer), gd, un⟩ (call (.ref 38) [.str (tx l) t1] [(Str.ofString "safe", .str (Str.ofString ":/?#@!$&()*+,;=%") t2)]) Q E s := by
  refine enterC [(Str.ofString "text", .str (tx l) t1), (Str.ofString "safe", .str (Str.ofString ":/?#@!$&()*+,;=%") t2)] C (by k_is) (by k_is) (by first | exact BindsTo.of_eq rfl | exact binds_K (C.X.keeps C.F.keep) rfl (by k_is) rfl rfl rfl) rfl rfl rfl (by rfl) (by decide +kernel) ?_
  intro g L' h' tk cells Q' F' N' Y' B' X' T' l1 hd hu hret'
  k_cells Y'
  (try simp only [List.cons_append, List.nil_append] at N')
  (try dsimp only)
  walk_at "go"
  refine stCN (own := []) (by assumption) N' rfl (by assumption) (fun _ h => nomatch h) (fun p hp e => by have h8 := l1 p hp; rw [e] at h8; exact absurd h8 (Nat.not_lt.mpr (Nat.le_succ _))) ?_
  intro h8 o8 F8 N8 d8
  (try simp only [List.cons_append, List.nil_append] at N8)
  walk_at "go"
  refine wpAny_execs_cons ?_
  refine Assign_ListComp_S (by assumption) rfl (by with_unfolding_all rfl) (by with_unfolding_all rfl) (by decide) rfl (by decide) rfl rfl rfl ?_
  walk_at "go"
  refine ⟨_, _, _, rfl, rfl, by assumption, by assumption, by rw [show (tx l).cps.size = l.length from tx_len l, sizeLine_eq]; omega, ?_⟩
  rintro _ ⟨gg, rfl⟩
  refine rest_ind (fun i ys news' => StrsAre ys ((l.take i).map (fun c => tx (urlC c))) ∧ ∀ p ∈ (L' + 1, o8) :: news, p ∈ news') ?_ ?_ ⟨.nil, fun _ h => h⟩
  · rintro ys news' ⟨hV, hsub⟩
    intro D h tk F N off
    walk_at "go"
    rw [show (tx l).cps.size = l.length from tx_len l, List.take_of_length_le (Nat.le_refl _)] at hV
    have hyl := StrsAre.len hV
    rw [List.length_map] at hyl
    have hV' : StrsAre ys ((l.map urlC).map tx) := by rw [List.map_map]; exact hV
    have hul := urlS_len l
    have hfl : (l.map urlC).flatten = urlS l := rfl
    refine join_ok (nn := ys.length) N (.head _) hV' (by rw [hfl]; omega) (by omega) fun tj kj => ?_
    rw [hfl]
    refine hret' _ _ _ _ _ _ F N fun F2 N2 => ?_
    exact hret _ _ _ F2 (subN N2 (fun p hp => .tail _ (hsub p (.tail _ hp))))
  · intro i ys news' next hi hJ hnext v I oI C oC D m₂ h tk E' hv hC hx F N off ne
    obtain ⟨hV, hsub⟩ := hJ
    obtain ⟨c, u, hcc, hv2⟩ := hv
    have hv3 : v = .str (tx [c]) u := hv2
    subst hv3
    clear hv2
    have hm8 := hsub _ (.head _)
    walk_at "go"
    · refine LCg.CompEnd.intro F (by assumption) news' (fun _ h => h) off trivial (hnext _ _ ⟨?_, hsub⟩)
      rw [take_snoc (tx_at hcc), List.map_append, List.map_cons, List.map_nil, urlC_a (by assumption)]
      exact StrsAre.snoc hV _ _
    · have hkeep : isKeep c = false := by assumption
      rcases ha c (List.mem_of_getElem? (tx_at hcc)) with hlt | rfl
      · have hurl : urlC c = [[37, hexL.getD (c / 16) 0, hexL.getD (c % 16) 0]].flatten := urlC_lo hkeep hlt
        refine ListComp_B (_F₀ := F) rfl (by decide) rfl (by decide) rfl ?_
        walk_at "go"
        intros
        refine ⟨_, _, _, rfl, rfl, by assumption, by assumption, by rw [sizeLine_eq]; exact Nat.le_of_ble_eq_true rfl, ?_⟩
        rintro _ ⟨gg, rfl⟩
        refine rest_ind (fun i ys2 news2 => StrsAre ys2 (([[37, hexL.getD (c / 16) 0, hexL.getD (c % 16) 0]].take i).map tx) ∧ ∀ p ∈ (I, oI) :: (C, oC) :: (D, LCg.lst ys) :: news', p ∈ news2) ?_ ?_ ⟨.nil, fun _ h => h⟩
        · rintro ys2 news2 ⟨hV2, hsub2⟩
          intro D2 h2 tk2 F2 N2 off2
          walk_at "go"
          refine join_ok (ps := [[37, hexL.getD (c / 16) 0, hexL.getD (c % 16) 0]]) (nn := ys2.length) N2 (.head _) hV2 (by show 3 ≤ 20000; omega) (by have h4 : ys2.length = 1 := StrsAre.len hV2; omega) fun tj kj => ?_
          refine LCg.CompEnd.intro F2 N2 news' (fun p hp => .tail _ (hsub2 p hp)) off trivial (hnext _ _ ⟨?_, hsub⟩)
          rw [take_snoc (tx_at hcc), List.map_append, List.map_cons, List.map_nil, hurl]
          exact StrsAre.snoc hV _ _
        · intro i2 ys2 news2 next2 hi2 hJ2 hnext2 v2 I2 oI2 C2 oC2 D2 m2 h2 tk2 E2 hv2 hC2 hx2 F2 N2 off2 ne2
          obtain ⟨hV2, hsub2⟩ := hJ2
          obtain ⟨c2, u2, hb2, rfl⟩ := hv2
          have hi3 : i2 = 0 := Nat.lt_one_iff.mp hi2
          subst hi3
          have hc3 : c2 = c.toUInt8 := (Option.some.inj hb2).symm
          subst hc3
          rw [u8_lo hlt] at hx2
          walk_at "go"
          rw [emp_tx]
          refine LCg.CompEnd.intro F2 (by assumption) news2 (fun _ h => h) off2 trivial (hnext2 _ _ ⟨?_, hsub2⟩)
          exact StrsAre.snoc hV2 _ _
      · have hurl : urlC 233 = [[37, 67, 51], [37, 65, 57]].flatten := rfl
        refine ListComp_B (_F₀ := F) rfl (by decide) rfl (by decide) rfl ?_
        walk_at "go"
        intros
        refine ⟨_, _, _, rfl, rfl, by assumption, by assumption, by rw [sizeLine_eq]; exact Nat.le_of_ble_eq_true rfl, ?_⟩
        rintro _ ⟨gg, rfl⟩
        refine rest_ind (fun i ys2 news2 => StrsAre ys2 (([[37, 67, 51], [37, 65, 57]].take i).map tx) ∧ ∀ p ∈ (I, oI) :: (C, oC) :: (D, LCg.lst ys) :: news', p ∈ news2) ?_ ?_ ⟨.nil, fun _ h => h⟩
        · rintro ys2 news2 ⟨hV2, hsub2⟩
          intro D2 h2 tk2 F2 N2 off2
          walk_at "go"
          refine join_ok (ps := [[37, 67, 51], [37, 65, 57]]) (nn := ys2.length) N2 (.head _) hV2 (by show 6 ≤ 20000; omega) (by have h4 : ys2.length = 2 := StrsAre.len hV2; omega) fun tj kj => ?_
          refine LCg.CompEnd.intro F2 N2 news' (fun p hp => .tail _ (hsub2 p hp)) off trivial (hnext _ _ ⟨?_, hsub⟩)
          rw [take_snoc (tx_at hcc), List.map_append, List.map_cons, List.map_nil, hurl]
          exact StrsAre.snoc hV _ _
        · intro i2 ys2 news2 next2 hi2 hJ2 hnext2 v2 I2 oI2 C2 oC2 D2 m2 h2 tk2 E2 hv2 hC2 hx2 F2 N2 off2 ne2
          obtain ⟨hV2, hsub2⟩ := hJ2
          obtain ⟨c2, u2, hb2, rfl⟩ := hv2
          have hi3 : i2 < 2 := hi2
          rcases Nat.lt_succ_iff_lt_or_eq.mp hi3 with hi4 | hi4
          · have hi5 : i2 = 0 := Nat.lt_one_iff.mp hi4
            subst hi5
            have hc3 : c2 = 195 := (Option.some.inj hb2).symm
            subst hc3
            have hx3 : m2 (Str.ofString "octet") = some (.int (195 : Int) u2) := hx2
            clear hx2
            walk_at "go"
            rw [emp_tx]
            refine LCg.CompEnd.intro F2 (by assumption) news2 (fun _ h => h) off2 trivial (hnext2 _ _ ⟨?_, hsub2⟩)
            exact StrsAre.snoc hV2 _ _
          · subst hi4
            have hc3 : c2 = 169 := (Option.some.inj hb2).symm
            subst hc3
            have hx3 : m2 (Str.ofString "octet") = some (.int (169 : Int) u2) := hx2
            clear hx2
            walk_at "go"
            rw [emp_tx]
            refine LCg.CompEnd.intro F2 (by assumption) news2 (fun _ h => h) off2 trivial (hnext2 _ _ ⟨?_, hsub2⟩)
            exact StrsAre.snoc hV2 _ _

end Mine
end
noncomputable section
open Lean PySem PySem.W PySem.Spec PySem.Calls PyProof.Rows
set_option maxRecDepth 100000
namespace Mine
theorem fill_F12 : 0 = 0 ∧ 0 = 0 := by
  try walk1
  w_top off
  all_goals first | rfl | exact ⟨rfl, rfl⟩
local macro_rules | `(tactic| walk_at "noloop") => `(tactic| first
  | ((fail_if_success (fail_if_success (with_reducible show wpAny _ _ (execs _ _) _ _ _))); fail_if_success ((with_reducible refine st_execs ?_ ?_); (focus rfl)))
  | ((fail_if_success (fail_if_success (with_reducible show wpAny _ _ (exec _ _) _ _ _))); fail_if_success ((with_reducible refine st_exec ?_ ?_); (focus rfl)))
  | ((fail_if_success (with_reducible show wpAny _ _ (execs _ _) _ _ _)); (fail_if_success (with_reducible show wpAny _ _ (exec _ _) _ _ _)); (fail_if_success (with_reducible show wpAny _ _ (eval (Expr.ListComp _ _ _ _) _) _ _ _)); (fail_if_success (with_reducible show wpAny _ _ (pyIter _) _ _ _)); (fail_if_success (with_reducible show wpAny _ _ (truthy (Value.str (tx _) _)) _ _ _))))
local macro_rules | `(tactic| walk_at "go") => `(tactic| repeat' (first
  | (k_unfold; (try dsimp only))
  | (walk_at "noloop"; walk1)
  | (dsimp only; walk_at "noloop"; walk1)))
local macro_rules | `(tactic| walk_at "look") => `(tactic| ((try dsimp only); repeat' (first | exact List.forall_mem_nil _ | (refine List.forall_mem_cons.mpr ⟨by with_unfolding_all rfl, ?_⟩))))
local macro_rules | `(tactic| walk_at "ix") => `(tactic| first | omega | (simp only [List.length_take, List.length_drop] at *; omega))
local macro_rules | `(tactic| walk_at "subscriptTail Name Name str int") => `(tactic| ((with_reducible show wpAny _ _ (subscriptTail _ _ (Value.str (tx _) _) (Value.int _ _)) _ _ _); refine r_item (by walk_at "ix") (by walk_at "ix") (by walk_at "ix") ?_))
local macro_rules | `(tactic| walk_at "subscriptTail Name BinOp str int") => `(tactic| ((with_reducible show wpAny _ _ (subscriptTail _ _ (Value.str (tx _) _) (Value.int _ _)) _ _ _); refine r_item (by walk_at "ix") (by walk_at "ix") (by walk_at "ix") ?_))
local macro_rules | `(tactic| walk_at "compareOp In str str") => `(tactic| ((with_reducible show wpAny _ _ (compareOp _ (Value.str (tx _) _) (Value.str _ _)) _ _ _); refine r_in ?_))
local macro_rules | `(tactic| walk_at "compareOp NotIn str str") => `(tactic| ((with_reducible show wpAny _ _ (compareOp _ (Value.str (tx _) _) (Value.str _ _)) _ _ _); refine r_notin ?_))
local macro_rules | `(tactic| walk_at "compareOp Eq str str") => `(tactic| ((with_reducible show wpAny _ _ (compareOp _ (Value.str (tx _) _) (Value.str _ _)) _ _ _); refine r_eq ?_))
local macro_rules | `(tactic| walk_at "compareOp NotEq str str") => `(tactic| ((with_reducible show wpAny _ _ (compareOp _ (Value.str (tx _) _) (Value.str _ _)) _ _ _); refine r_ne ?_))
local macro_rules | `(tactic| walk_at "call builtin:ord") => `(tactic| ((with_reducible show wpAny _ _ (call _ [Value.str (tx _) _]) _ _ _); refine r_ord ?_))
local macro_rules | `(tactic| walk_at "call builtin:len") => `(tactic| ((with_reducible show wpAny _ _ (call _ [Value.str (tx _) _]) _ _ _); refine r_len (by walk_at "ix") ?_))
local macro_rules | `(tactic| walk_at "compareOp In str str") => `(tactic| ((with_reducible show wpAny _ _ (compareOp _ (Value.str (tx _) _) (Value.str _ _)) _ _ _); first | refine r_in2 isWs H_ws ?_ | refine r_in2 isBl H_bl ?_ | refine r_in2 isNl H_nl ?_ | refine r_in2 isBad H_bad ?_ | refine r_in2 isPu H_pu ?_))
local macro_rules | `(tactic| walk_at "compareOp NotIn str str") => `(tactic| ((with_reducible show wpAny _ _ (compareOp _ (Value.str (tx _) _) (Value.str _ _)) _ _ _); first | refine r_notin2 isWs H_ws ?_ | refine r_notin2 isPu H_pu ?_))
local macro_rules | `(tactic| walk_at "compareOp Eq str str") => `(tactic| ((with_reducible show wpAny _ _ (compareOp _ (Value.str (tx _) _) (Value.str _ _)) _ _ _); first | refine r_eq1 L_lt ?_ | refine r_eq1 L_gt ?_ | refine r_eq1 L_bs ?_ | refine r_eq1 L_lp ?_ | refine r_eq1 L_rp ?_ | refine r_eq1 L_del ?_ | refine r_eq1 L_nul ?_ | refine r_eq1 L_n ?_ | refine r_eq1 L_r ?_))
local macro_rules | `(tactic| walk_at "compareOp NotEq str str") => `(tactic| ((with_reducible show wpAny _ _ (compareOp _ (Value.str (tx _) _) (Value.str _ _)) _ _ _); first | refine r_ne1 L_rp ?_))
local macro_rules | `(tactic| walk_at "subscriptTail Name Slice str ref") => `(tactic| ((with_reducible show wpAny _ _ (subscriptTail _ (Expr.Slice (some _) (some _) none _) (Value.str (tx _) _) _) _ _ _); (with_reducible rename Fr _ _ _ _ => F'); (with_reducible rename News _ _ _ _ => N'); (refine r_slice (s := ⟨_, _, _, _, _⟩) (by walk_at "ix") (by walk_at "ix") (by walk_at "ix") F' N' ?_); intro _ _ _ _ _))
local macro_rules | `(tactic| walk_at "compareOp Eq str str") => `(tactic| ((with_reducible show wpAny _ _ (compareOp _ (Value.str (tx _) _) (Value.str _ _)) _ _ _); refine r_eqL L_rn ?_))
local macro_rules | `(tactic| walk_at "fact") => `(tactic| first | assumption | exact beq_iff_eq.mp (by assumption) | exact beq_eq_false_iff_ne.mp (by assumption) | omega)
local macro_rules | `(tactic| walk_at "noesc") => `(tactic| (rintro ⟨e1, e2, e3⟩; first | exact absurd e1 (beq_eq_false_iff_ne.mp (by assumption)) | exact Bool.noConfusion (Eq.trans (Eq.symm (show isPu _ = false from by assumption)) e3) | exact absurd (Eq.trans (Eq.symm e1) (beq_iff_eq.mp (show (List.getD _ _ _ == _) = true from by assumption))) (by decide) | omega))
local macro_rules | `(tactic| walk_at "cx") => `(tactic| exact ⟨by k_asm, by k_asm, by k_asm, by k_asm, by k_asm, rfl, rfl, rfl, rfl, (by (show _ + _ < _); omega), (by (show _ + 8 * _ < _); omega)⟩)
local macro_rules | `(tactic| walk_at "call ref") => `(tactic| ((with_reducible show wpAny _ _ (call (Value.ref 137) _ _) _ _ _); refine c_begin _ _ _ _ (by walk_at "cx") (by omega) ?_; intro t9 h9 k9 F9 N9; (try dsimp only)))
local macro_rules | `(tactic| walk_at "call ref") => `(tactic| ((with_reducible show wpAny _ _ (call (Value.ref 144) _ _) _ _ _); refine c_angle _ _ _ _ (by walk_at "cx") (by omega) (by omega) ?_ ?_; (all_goals intros); (all_goals (try dsimp only))))
local macro_rules | `(tactic| walk_at "call builtin:min") => `(tactic| ((with_reducible show wpAny _ _ (call (Value.builtin _) [Value.int _ _, Value.int _ _]) _ _ _); refine r_min (by omega) rfl (by assumption) (by assumption) ?_; intro h9 t9 k9 F9 N9))
local macro_rules | `(tactic| walk_at "retx") => `(tactic| (dsimp only; refine hret' _ _ _ _ _ _ (by assumption) (by assumption) fun F2 N2 => ?_))
local macro_rules | `(tactic| walk_at "upd") => `(tactic| first | exact Upd.head (by assumption) | (refine' Upd.tail ?a ?b; (case a => k_ne); (case b => walk_at "upd")))
local macro_rules | `(tactic| walk_at "sz") => `(tactic| ((try simp only [List.size_toArray, PySem.sizeLine_eq]); omega))
local macro_rules | `(tactic| walk_at "call builtin:list.append") => `(tactic| (k_here; (with_reducible show wpAny _ _ (call (Value.builtin _) [Value.ref _, _]) _ _ _); (refine' append_K ?k1 ?k2 ?k3 ?_ ?z; (case k1 => k_asm); (case k2 => k_asm); (case k3 => walk_at "upd"); (case z => walk_at "sz"); k_whole); intro h' F' N'; (try simp only [List.push_toArray] at N'); (try k_sweep)))
local macro_rules | `(tactic| walk_at "call ref") => `(tactic| ((with_reducible show wpAny _ _ (call (Value.ref 192) _ _) _ _ _); refine c_lbegin _ _ _ _ (by walk_at "cx") (by omega) ?_; intro t9 h9 k9 F9 N9; (try dsimp only)))
local macro_rules | `(tactic| walk_at "call ref") => `(tactic| ((with_reducible show wpAny _ _ (call (Value.ref 166) _ _) _ _ _); refine c_units _ _ _ _ _ _ (by walk_at "cx") (by walk_at "ix") (by walk_at "ix") ?_; intro a9 n9 vs9 tl9 h9 k9 U9 F9 N9 d9; (try dsimp only)))
local macro_rules | `(tactic| walk_at "subscriptTail Name Constant ref int") => `(tactic| ((with_reducible show wpAny _ _ (subscriptTail _ _ (Value.ref _) (Value.int _ _)) _ _ _); (with_unfolding_all refine' item_litK ?k1 ?k2 ?k3 ?k4 ?_ ?k6; (case k1 => exact News.isList (by k_asm) (by first | k_mem | walk_at "mem")); (case k2 => decide); (case k3 => decide); (case k4 => rfl); (case k6 => with_unfolding_all rfl); k_whole)))
local macro_rules | `(tactic| walk_at "offx") => `(tactic| (intro _; repeat' (first | exact List.forall_mem_nil _ | (refine List.forall_mem_cons.mpr ⟨by (show Str.ofString _ ≠ Str.ofString _); decide, ?_⟩))))
local macro_rules | `(tactic| walk_at "sub") => `(tactic| (intro q hq; (try simp only [List.cons_append, List.append_assoc, List.mem_cons, List.mem_append, List.not_mem_nil, or_false, or_assoc] at hq ⊢); (repeat' (first | exact hq | (refine Or.elim hq (fun hq => ?_) (fun hq => ?_)) | exact Or.inl hq | (refine Or.inr ?_)))))
local macro_rules | `(tactic| walk_at "mem") => `(tactic| first | assumption | exact List.mem_cons_self | (refine List.mem_cons_of_mem _ ?_; walk_at "mem") | (refine List.mem_append_left _ ?_; walk_at "mem") | (refine List.mem_append_right _ ?_; walk_at "mem"))
local macro_rules | `(tactic| walk_at "subscriptTail Name Name ref int") => `(tactic| ((with_reducible show wpAny _ _ (subscriptTail _ _ (Value.ref _) (Value.int _ _)) _ _ _); (with_unfolding_all refine' r_unit ?k1 ?k2 ?k3 ?k4 ?k5 ?k6 ?_ ?k7; (case k1 => k_asm); (case k2 => walk_at "mem"); (case k3 => assumption); (case k4 => omega); (case k5 => omega); (case k6 => omega); (case k7 => with_unfolding_all rfl)); intro a8 t8 t7 n8 m8))
local macro_rules | `(tactic| walk_at "subscriptTail Subscript") => `(tactic| with_reducible refine r_turn ?_)
local macro_rules | `(tactic| walk_at "compareOp Eq str str") => `(tactic| ((with_reducible show wpAny _ _ (compareOp _ (Value.str (tx _) _) (Value.str (tx _) _)) _ _ _); refine r_eqT ?_))
local macro_rules | `(tactic| walk_at "compareOp NotEq str str") => `(tactic| ((with_reducible show wpAny _ _ (compareOp _ (Value.str (tx _) _) (Value.str (tx _) _)) _ _ _); refine r_neT ?_))
local macro_rules | `(tactic| walk_at "compareOp NotIn str str") => `(tactic| ((with_reducible show wpAny _ _ (compareOp _ (Value.str (tx _) _) (Value.str _ _)) _ _ _); refine r_notin2 isOp H_open ?_))
local macro_rules | `(tactic| walk_at "eval Constant str") => `(tactic| with_reducible (first | refine r_const E_rp ?_ | refine r_const E_nil ?_))
local macro_rules | `(tactic| walk_at "binaryOp Add str str") => `(tactic| ((with_reducible show wpAny _ _ (binaryOp _ (Value.str (tx _) _) (Value.str (tx _) _)) _ _ _); refine r_cat (by first | omega | (simp only [List.length_append, List.length_cons, List.length_nil]; omega)) ?_; intro t9 k9))
local macro_rules | `(tactic| walk_at "call builtin:len") => `(tactic| ((with_reducible show wpAny _ _ (call (Value.builtin "len") [Value.ref _]) _ _ _); refine r_lenU (by k_asm) (by walk_at "mem") (by assumption) (by omega) ?_; intro t9 k9))
local macro_rules | `(tactic| walk_at "eval Name") => `(tactic| first
  | ((with_reducible refine' ld ?k1 ?k2 ?_ ?k3 ?k4 ?k5); (case k4 => kernel_rfl!); (case k1 => k_asm); (case k2 => k_dflt (exact rfl)); (case k3 => k_dflt (exact rfl)); (case k5 => decide); k_whole)
  | ((with_reducible refine' name_K ?k0 ?k1 ?k2 ?k3 ?_ ?k4 ?k5 ?k6); (case k5 => kernel_rfl!); (case k0 => k_asm); (case k1 => k_asm); (case k2 => k_asm); (case k3 => k_dflt k_is); (case k4 => k_dflt (exact rfl)); (case k6 => decide); k_whole))
local macro_rules | `(tactic| walk_at "ite") => `(tactic| first | with_reducible refine ite_tt ?_ | with_reducible refine ite_ff ?_ | with_reducible refine ite_True_then ?_ | with_reducible refine ite_False_else ?_ | (k_openite; first | refine ite_pos (by with_reducible assumption) ?_ | refine ite_neg (by with_reducible assumption) ?_ | refine ite_isFalse (by with_reducible assumption) ?_ | (with_reducible refine split_ine ?_ ?_ <;> intro _) | (with_reducible refine split_ieq ?_ ?_ <;> intro _) | with_reducible refine split_not ?_ | (refine split_dec ?_ ?_ <;> intro _) | (refine split_bool ?_ ?_ <;> intro _)))
local macro_rules | `(tactic| walk_at "callWith ref") => `(tactic| first
  | ((with_reducible refine' callWith_K ?k1 ?k2 ?_ ?k3 ?k4); (case k1 => k_asm); (case k2 => k_dflt k_is); (case k3 => k_dflt (exact rfl)); (case k4 => k_dflt (exact rfl)); k_whole)
  | ((with_reducible refine' callWith_K0 ?k1 ?k2 ?_); (case k1 => k_dflt k_in); (case k2 => k_dflt k_is); k_whole)
  | ((with_reducible refine' callWith_KW ?k1 ?k2 ?k3 ?_ ?k4 ?k5); (case k1 => k_asm); (case k2 => k_dflt k_is); (case k3 => k_dflt (exact rfl)); (case k4 => k_dflt (exact rfl)); (case k5 => k_dflt (exact rfl)); k_whole))

theorem E_amp : Str.ofString "&" = tx [38] := by decide +kernel
theorem r_noamp {prog : Program} {w : World} {A : Around} {E : Value → Shared → Prop} {s : Shared} {Q : Value → Shared → Prop} {t u : Tok} {l : List Nat} (hl : l.contains 38 = false) (h : Q (.bool true) s) :
    wpAny (model prog w) A (compareOp .NotIn (.str (tx [38]) t) (.str (tx l) u)) Q E s := r_notin (by rw [tx_list, hl]; exact h)
local macro_rules | `(tactic| walk_at "eval Constant str") => `(tactic| with_reducible (refine r_const E_amp ?_))
local macro_rules | `(tactic| walk_at "compareOp NotIn str str") => `(tactic| ((with_reducible show wpAny _ _ (compareOp _ (Value.str (tx [38]) _) (Value.str (tx _) _)) _ _ _); refine r_noamp (by assumption) ?_))
set_option maxHeartbeats 4000000 in
theorem c_unent {w : World} {loose : List Str} {mean : ExcName → Option Value} {mg mb : Str → Option Value} {k dp un : Nat} {gd : Option (List Code)}
    {A₀ : Around} {env : Env} {outer : List Env} {base h₀ : Heap} {L : Addr} {m : Str → Option Value} {news : List (Addr × Obj)} {s : Shared}
    {E Q : Value → Shared → Prop} (l : List Nat) (t1 : Tok)
    (C : Cx w loose mean mg mb (k + 1) ⟨none, dp, some (env :: outer), gd, un⟩ A₀ env outer base h₀ L m news s)
    (hl : l.contains 38 = false)
    (hret : ∀ t h' tk', Fr h₀ L h' m → News h₀ L h' news → Q (.str (tx l) t) { s with heap := h', toks := tk' }) :
    wpAny (model PySem.Challenge.pw_br5019_01 w) ⟨none, dp, some (env :: outer), gd, un⟩ (call (.ref 64) [.str (tx l) t1]) Q E s := by
  refine enter [(Str.ofString "s", .str (tx l) t1)] C (by k_is) (by k_is) (BindsTo.of_eq rfl) rfl rfl rfl (by decide) (locs rfl) ?_
  intro g L' h' tk Q' F' N' B' X' T' hd hu hret'
  walk_at "go"
  refine hret' _ _ _ _ _ _ F' N' fun F2 N2 => ?_
  exact hret _ _ _ F2 N2
local macro_rules | `(tactic| walk_at "call ref") => `(tactic| ((with_reducible show wpAny _ _ (call (Value.ref 64) _ _) _ _ _); refine c_unent _ _ (by walk_at "cx") (by assumption) ?_; intro t9 h9 k9 F9 N9; (try dsimp only)))
local macro_rules | `(tactic| walk_at "call ref") => `(tactic| ((with_reducible show wpAny _ _ (call (Value.ref 38) _ _) _ _ _); refine c_quote _ _ _ (by walk_at "cx") (by assumption) (by assumption) ?_; intro t9 h9 k9 F9 N9; (try dsimp only)))
set_option maxHeartbeats 4000000 in
theorem c_escurl {w : World} {loose : List Str} {mean : ExcName → Option Value} {mg mb : Str → Option Value} {k dp un : Nat} {gd : Option (List Code)}
    {A₀ : Around} {env : Env} {outer : List Env} {base h₀ : Heap} {L : Addr} {m : Str → Option Value} {news : List (Addr × Obj)} {s : Shared}
    {E Q : Value → Shared → Prop} (l : List Nat) (t1 : Tok)
    (C : Cx w loose mean mg mb (k + 2) ⟨none, dp, some (env :: outer), gd, un⟩ A₀ env outer base h₀ L m news s)
    (hl : l.length ≤ 1000) (ha : Alph l) (h38 : l.contains 38 = false)
    (hret : ∀ t h' tk', Fr h₀ L h' m → News h₀ L h' news → Q (.str (tx (urlS l)) t) { s with heap := h', toks := tk' }) :
    wpAny (model PySem.Challenge.pw_br5019_01 w) ⟨none, dp, some (env :: outer), gd, un⟩ (call (.ref 52) [.str (tx l) t1]) Q E s := by
  refine enter [(Str.ofString "link", .str (tx l) t1)] C (by k_is) (by k_is) (BindsTo.of_eq rfl) rfl rfl rfl (by decide) (locs rfl) ?_
  intro g L' h' tk Q' F' N' B' X' T' hd hu hret'
  walk_at "go"
  refine hret' _ _ _ _ _ _ (by assumption) (by assumption) fun F2 N2 => ?_
  exact hret _ _ _ F2 N2

end Mine
end
noncomputable section
open Lean PySem PySem.W PySem.Spec PySem.Calls PyProof.Rows
set_option maxRecDepth 100000
namespace Mine
/-- the signs of the law's texts -/
def AlphT (l : List Nat) : Prop := ∀ c ∈ l, (c < 128 ∧ c ≠ 38) ∨ c = 233
theorem mem_units {u : U} : ∀ {l : List Nat} {p : Nat}, u ∈ units l p → u.1 ∈ l
  | [], _, h => nomatch h
  | [c], p, h => by
    simp only [units, List.mem_singleton] at h
    subst h; exact .head _
  | c :: d :: r, p, h => by
    simp only [units] at h
    split at h
    · rcases List.mem_cons.mp h with rfl | h
      · exact .tail _ (.head _)
      · exact .tail _ (.tail _ (mem_units h))
    · rcases List.mem_cons.mp h with rfl | h
      · exact .head _
      · exact .tail _ (mem_units h)
theorem mem_unesc {c : Nat} {l : List Nat} (h : c ∈ unesc l) : c ∈ l := by
  obtain ⟨u, hu, rfl⟩ := List.mem_map.mp h
  exact mem_units hu
theorem href_part {l : List Nat} {start : Nat} {b : Bool} {bound : Int} {hr : List Nat} {q z : Nat} (h : hrefS l start b bound = (some (hr, q), z)) : ∃ i j, hr = (l.take j).drop i := by
  unfold hrefS at h
  dsimp only at h
  split at h
  · split at h
    · split at h
      · cases h; exact ⟨_, _, rfl⟩
      · cases h
    · split at h
      · cases h
      · split at h
        · split at h
          · cases h; exact ⟨_, _, rfl⟩
          · cases h
        · cases h
  · cases h
theorem AlphT.part {l : List Nat} {i j : Nat} (h : AlphT l) : AlphT ((l.take j).drop i) := fun c hc => h c (List.mem_of_mem_take (List.mem_of_mem_drop hc))
theorem AlphT.unesc {l : List Nat} (h : AlphT l) : AlphT (unesc l) := fun c hc => h c (mem_unesc hc)
theorem AlphT.alph {l : List Nat} (h : AlphT l) : Alph l := fun c hc => (h c hc).imp And.left id
theorem AlphT.no38 {l : List Nat} (h : AlphT l) : l.contains 38 = false := by
  rw [Bool.eq_false_iff]
  intro e
  rcases h 38 (List.contains_iff_mem.mp e) with h | h
  · exact h.2 rfl
  · exact absurd h (by decide)
theorem AlphT.href {l : List Nat} {start : Nat} {b : Bool} {bound : Int} {hr : List Nat} {q z : Nat} (ha : AlphT l) (h : hrefS l start b bound = (some (hr, q), z)) : AlphT hr := by
  obtain ⟨i, j, rfl⟩ := href_part h
  exact ha.part
theorem href_len {l : List Nat} {start : Nat} {b : Bool} {bound : Int} {hr : List Nat} {q z : Nat} (h : hrefS l start b bound = (some (hr, q), z)) : hr.length ≤ l.length := by
  obtain ⟨i, j, rfl⟩ := href_part h
  rw [List.length_drop, List.length_take]; omega
/-- the whole: (address, title, the place behind it), or none; and the place -/
def wholeS (l : List Nat) (start : Nat) (bound : Int) : Option (List Nat × List Nat × Nat) × Nat :=
  match (hrefS l start false bound).1 with
  | none => (none, (hrefS l start false bound).2)
  | some (hr, place) =>
    let k0 := match titleS l place l.length with | none => place | some (_, e) => e
    let k := skip isWs (l.drop k0) k0
    if k < l.length ∧ l.getD k 0 = 41 then (some (urlS (unesc hr), (match titleS l place l.length with | none => [] | some (tt, _) => tt), k + 1), k + 1) else (none, k)
theorem whole_none {l : List Nat} {start : Nat} {bound : Int} {q : Nat} (h : hrefS l start false bound = (none, q)) : wholeS l start bound = (none, q) := by
  unfold wholeS; rw [h]
theorem whole_stop {l : List Nat} {start : Nat} {bound : Int} {hr : List Nat} {q k0 k : Nat} (h : hrefS l start false bound = (some (hr, q), q)) (h0 : k0 = match titleS l q l.length with | none => q | some (_, e) => e)
    (hk : k = skip isWs (l.drop k0) k0) (hn : ¬ (k < l.length ∧ l.getD k 0 = 41)) : wholeS l start bound = (none, k) := by
  unfold wholeS; rw [h]; dsimp only; rw [← h0, ← hk, if_neg hn]
theorem whole_good {l : List Nat} {start : Nat} {bound : Int} {hr tt : List Nat} {q k0 k : Nat} (h : hrefS l start false bound = (some (hr, q), q)) (h0 : k0 = match titleS l q l.length with | none => q | some (_, e) => e)
    (ht : tt = match titleS l q l.length with | none => [] | some (tt, _) => tt)
    (hk : k = skip isWs (l.drop k0) k0) (hn : k < l.length ∧ l.getD k 0 = 41) : wholeS l start bound = (some (urlS (unesc hr), tt, k + 1), k + 1) := by
  unfold wholeS; rw [h]; dsimp only; rw [← h0, ← hk, if_pos hn, ← ht]
def attrP (u tt : List Nat) : List (PyData × PyData) := (.str (Str.ofString "url"), .str (tx u)) :: if tt = [] then [] else [(.str (Str.ofString "title"), .str (tx tt))]
/-- an object of the ledger that is the attributes' dict -/
def DictIs (w : World) (o : Obj) (D : List (PyData × PyData)) : Prop := ∃ kvs, Obj.IsDictOf (PySem.strKind PySem.Challenge.pw_br5019_01 w) o kvs ∧ PyProof.V.FlatPairs PyData.str kvs D
theorem title_pos {op : Nat} {us : List U} {acc tt : List Nat} {e : Nat} (h : titleU op us acc = some (tt, e)) : 0 < e := by
  induction us generalizing acc with
  | nil => cases h
  | cons u r ih =>
    obtain ⟨c, f, p⟩ := u
    unfold titleU at h
    split at h
    · exact ih h
    · split at h
      · cases h
      · split at h
        · cases h
        · split at h
          · cases h; exact Nat.succ_pos _
          · exact ih h
theorem titleS_pos {l : List Nat} {a b : Nat} {tt : List Nat} {e : Nat} (h : titleS l a b = some (tt, e)) : 0 < e := by
  unfold titleS at h
  dsimp only at h
  split at h
  · exact title_pos h
  · cases h
theorem titleU_len {op : Nat} {us : List U} {acc tt : List Nat} {e : Nat} (h : titleU op us acc = some (tt, e)) : tt.length ≤ acc.length + us.length := by
  induction us generalizing acc with
  | nil => cases h
  | cons u r ih =>
    obtain ⟨c, f, p⟩ := u
    rw [List.length_cons]
    unfold titleU at h
    split at h
    · have := ih h; rw [List.length_append] at this; simp only [List.length_cons, List.length_nil] at this; omega
    · split at h
      · cases h
      · split at h
        · cases h
        · split at h
          · cases h; omega
          · have := ih h; rw [List.length_append] at this; simp only [List.length_cons, List.length_nil] at this; omega
theorem titleS_len {l : List Nat} {a b : Nat} {tt : List Nat} {e : Nat} (h : titleS l a b = some (tt, e)) : tt.length ≤ l.length := by
  unfold titleS at h
  dsimp only at h
  split at h
  · have h1 := titleU_len h
    have h2 := units_length ((l.take b).drop a) a
    rw [List.length_drop, List.length_take] at h2
    rw [List.length_drop, List.length_nil] at h1
    omega
  · cases h
end Mine
namespace Mine
theorem r_truth {prog : Program} {w : World} {A : Around} {E : Value → Shared → Prop} {s : Shared} {l : List Nat} {t : Tok} {Q : Bool → Shared → Prop} (hl : l.length ≤ 10000) (h1 : l ≠ [] → ∀ k, Q true { s with toks := k }) (h0 : l = [] → ∀ k, Q false { s with toks := k }) :
    wpAny (model prog w) A (truthy (.str (tx l) t)) Q E s := by
  refine PySem.P.truthy_str (by rw [tx_len]; omega) ?_
  rw [tx_len]
  by_cases h : l = []
  · subst h; exact h0 rfl _
  · have : ((l.length : Int) != 0) = true := by
      rw [bne_iff_ne]
      have := List.length_pos_iff.mpr h
      omega
    rw [this]; exact h1 h _
theorem attrP_nil (u : List Nat) : attrP u [] = [(.str (Str.ofString "url"), .str (tx u))] := rfl
theorem attrP_cons {u tt : List Nat} (h : tt ≠ []) : attrP u tt = [(.str (Str.ofString "url"), .str (tx u)), (.str (Str.ofString "title"), .str (tx tt))] := by
  unfold attrP; rw [if_neg h]
end Mine
end
noncomputable section
open Lean PySem PySem.W PySem.Spec PySem.Calls PyProof.Rows
set_option maxRecDepth 100000
namespace Mine
theorem fill_F13 : 0 = 0 ∧ 0 = 0 := by
  try walk1
  w_top off
  all_goals first | rfl | exact ⟨rfl, rfl⟩
local macro_rules | `(tactic| walk_at "noloop") => `(tactic| first
  | ((fail_if_success (fail_if_success (with_reducible show wpAny _ _ (execs _ _) _ _ _))); fail_if_success ((with_reducible refine st_execs ?_ ?_); (focus rfl)))
  | ((fail_if_success (fail_if_success (with_reducible show wpAny _ _ (exec _ _) _ _ _))); fail_if_success ((with_reducible refine st_exec ?_ ?_); (focus rfl)))
  | ((fail_if_success (with_reducible show wpAny _ _ (execs _ _) _ _ _)); (fail_if_success (with_reducible show wpAny _ _ (exec _ _) _ _ _)); (fail_if_success (with_reducible show wpAny _ _ (eval (Expr.ListComp _ _ _ _) _) _ _ _)); (fail_if_success (with_reducible show wpAny _ _ (pyIter _) _ _ _)); (fail_if_success (with_reducible show wpAny _ _ (truthy (Value.str (tx _) _)) _ _ _))))
local macro_rules | `(tactic| walk_at "go") => `(tactic| repeat' (first
  | (k_unfold; (try dsimp only))
  | (walk_at "noloop"; walk1)
  | (dsimp only; walk_at "noloop"; walk1)))
local macro_rules | `(tactic| walk_at "look") => `(tactic| ((try dsimp only); repeat' (first | exact List.forall_mem_nil _ | (refine List.forall_mem_cons.mpr ⟨by with_unfolding_all rfl, ?_⟩))))
local macro_rules | `(tactic| walk_at "ix") => `(tactic| first | omega | (simp only [List.length_take, List.length_drop] at *; omega))
local macro_rules | `(tactic| walk_at "subscriptTail Name Name str int") => `(tactic| ((with_reducible show wpAny _ _ (subscriptTail _ _ (Value.str (tx _) _) (Value.int _ _)) _ _ _); refine r_item (by walk_at "ix") (by walk_at "ix") (by walk_at "ix") ?_))
local macro_rules | `(tactic| walk_at "subscriptTail Name BinOp str int") => `(tactic| ((with_reducible show wpAny _ _ (subscriptTail _ _ (Value.str (tx _) _) (Value.int _ _)) _ _ _); refine r_item (by walk_at "ix") (by walk_at "ix") (by walk_at "ix") ?_))
local macro_rules | `(tactic| walk_at "compareOp In str str") => `(tactic| ((with_reducible show wpAny _ _ (compareOp _ (Value.str (tx _) _) (Value.str _ _)) _ _ _); refine r_in ?_))
local macro_rules | `(tactic| walk_at "compareOp NotIn str str") => `(tactic| ((with_reducible show wpAny _ _ (compareOp _ (Value.str (tx _) _) (Value.str _ _)) _ _ _); refine r_notin ?_))
local macro_rules | `(tactic| walk_at "compareOp Eq str str") => `(tactic| ((with_reducible show wpAny _ _ (compareOp _ (Value.str (tx _) _) (Value.str _ _)) _ _ _); refine r_eq ?_))
local macro_rules | `(tactic| walk_at "compareOp NotEq str str") => `(tactic| ((with_reducible show wpAny _ _ (compareOp _ (Value.str (tx _) _) (Value.str _ _)) _ _ _); refine r_ne ?_))
local macro_rules | `(tactic| walk_at "call builtin:ord") => `(tactic| ((with_reducible show wpAny _ _ (call _ [Value.str (tx _) _]) _ _ _); refine r_ord ?_))
local macro_rules | `(tactic| walk_at "call builtin:len") => `(tactic| ((with_reducible show wpAny _ _ (call _ [Value.str (tx _) _]) _ _ _); refine r_len (by walk_at "ix") ?_))
local macro_rules | `(tactic| walk_at "compareOp In str str") => `(tactic| ((with_reducible show wpAny _ _ (compareOp _ (Value.str (tx _) _) (Value.str _ _)) _ _ _); first | refine r_in2 isWs H_ws ?_ | refine r_in2 isBl H_bl ?_ | refine r_in2 isNl H_nl ?_ | refine r_in2 isBad H_bad ?_ | refine r_in2 isPu H_pu ?_))
local macro_rules | `(tactic| walk_at "compareOp NotIn str str") => `(tactic| ((with_reducible show wpAny _ _ (compareOp _ (Value.str (tx _) _) (Value.str _ _)) _ _ _); first | refine r_notin2 isWs H_ws ?_ | refine r_notin2 isPu H_pu ?_))
local macro_rules | `(tactic| walk_at "compareOp Eq str str") => `(tactic| ((with_reducible show wpAny _ _ (compareOp _ (Value.str (tx _) _) (Value.str _ _)) _ _ _); first | refine r_eq1 L_lt ?_ | refine r_eq1 L_gt ?_ | refine r_eq1 L_bs ?_ | refine r_eq1 L_lp ?_ | refine r_eq1 L_rp ?_ | refine r_eq1 L_del ?_ | refine r_eq1 L_nul ?_ | refine r_eq1 L_n ?_ | refine r_eq1 L_r ?_))
local macro_rules | `(tactic| walk_at "compareOp NotEq str str") => `(tactic| ((with_reducible show wpAny _ _ (compareOp _ (Value.str (tx _) _) (Value.str _ _)) _ _ _); first | refine r_ne1 L_rp ?_))
local macro_rules | `(tactic| walk_at "subscriptTail Name Slice str ref") => `(tactic| ((with_reducible show wpAny _ _ (subscriptTail _ (Expr.Slice (some _) (some _) none _) (Value.str (tx _) _) _) _ _ _); (with_reducible rename Fr _ _ _ _ => F'); (with_reducible rename News _ _ _ _ => N'); (refine r_slice (s := ⟨_, _, _, _, _⟩) (by walk_at "ix") (by walk_at "ix") (by walk_at "ix") F' N' ?_); intro _ _ _ _ _))
local macro_rules | `(tactic| walk_at "compareOp Eq str str") => `(tactic| ((with_reducible show wpAny _ _ (compareOp _ (Value.str (tx _) _) (Value.str _ _)) _ _ _); refine r_eqL L_rn ?_))
local macro_rules | `(tactic| walk_at "fact") => `(tactic| first | assumption | exact beq_iff_eq.mp (by assumption) | exact beq_eq_false_iff_ne.mp (by assumption) | omega)
local macro_rules | `(tactic| walk_at "noesc") => `(tactic| (rintro ⟨e1, e2, e3⟩; first | exact absurd e1 (beq_eq_false_iff_ne.mp (by assumption)) | exact Bool.noConfusion (Eq.trans (Eq.symm (show isPu _ = false from by assumption)) e3) | exact absurd (Eq.trans (Eq.symm e1) (beq_iff_eq.mp (show (List.getD _ _ _ == _) = true from by assumption))) (by decide) | omega))
local macro_rules | `(tactic| walk_at "cx") => `(tactic| exact ⟨by k_asm, by k_asm, by k_asm, by k_asm, by k_asm, rfl, rfl, rfl, rfl, (by (show _ + _ < _); omega), (by (show _ + 8 * _ < _); omega)⟩)
local macro_rules | `(tactic| walk_at "call ref") => `(tactic| ((with_reducible show wpAny _ _ (call (Value.ref 137) _ _) _ _ _); refine c_begin _ _ _ _ (by walk_at "cx") (by omega) ?_; intro t9 h9 k9 F9 N9; (try dsimp only)))
local macro_rules | `(tactic| walk_at "call ref") => `(tactic| ((with_reducible show wpAny _ _ (call (Value.ref 144) _ _) _ _ _); refine c_angle _ _ _ _ (by walk_at "cx") (by omega) (by omega) ?_ ?_; (all_goals intros); (all_goals (try dsimp only))))
local macro_rules | `(tactic| walk_at "call builtin:min") => `(tactic| ((with_reducible show wpAny _ _ (call (Value.builtin _) [Value.int _ _, Value.int _ _]) _ _ _); refine r_min (by omega) rfl (by assumption) (by assumption) ?_; intro h9 t9 k9 F9 N9))
local macro_rules | `(tactic| walk_at "retx") => `(tactic| (dsimp only; refine hret' _ _ _ _ _ _ (by assumption) (by assumption) fun F2 N2 => ?_))
local macro_rules | `(tactic| walk_at "upd") => `(tactic| first | exact Upd.head (by assumption) | (refine' Upd.tail ?a ?b; (case a => k_ne); (case b => walk_at "upd")))
local macro_rules | `(tactic| walk_at "sz") => `(tactic| ((try simp only [List.size_toArray, PySem.sizeLine_eq]); omega))
local macro_rules | `(tactic| walk_at "call builtin:list.append") => `(tactic| (k_here; (with_reducible show wpAny _ _ (call (Value.builtin _) [Value.ref _, _]) _ _ _); (refine' append_K ?k1 ?k2 ?k3 ?_ ?z; (case k1 => k_asm); (case k2 => k_asm); (case k3 => walk_at "upd"); (case z => walk_at "sz"); k_whole); intro h' F' N'; (try simp only [List.push_toArray] at N'); (try k_sweep)))
local macro_rules | `(tactic| walk_at "call ref") => `(tactic| ((with_reducible show wpAny _ _ (call (Value.ref 192) _ _) _ _ _); refine c_lbegin _ _ _ _ (by walk_at "cx") (by omega) ?_; intro t9 h9 k9 F9 N9; (try dsimp only)))
local macro_rules | `(tactic| walk_at "call ref") => `(tactic| ((with_reducible show wpAny _ _ (call (Value.ref 166) _ _) _ _ _); refine c_units _ _ _ _ _ _ (by walk_at "cx") (by walk_at "ix") (by walk_at "ix") ?_; intro a9 n9 vs9 tl9 h9 k9 U9 F9 N9 d9; (try dsimp only)))
local macro_rules | `(tactic| walk_at "subscriptTail Name Constant ref int") => `(tactic| ((with_reducible show wpAny _ _ (subscriptTail _ _ (Value.ref _) (Value.int _ _)) _ _ _); (with_unfolding_all refine' item_litK ?k1 ?k2 ?k3 ?k4 ?_ ?k6; (case k1 => exact News.isList (by k_asm) (by first | k_mem | walk_at "mem")); (case k2 => decide); (case k3 => decide); (case k4 => rfl); (case k6 => with_unfolding_all rfl); k_whole)))
local macro_rules | `(tactic| walk_at "offx") => `(tactic| (intro _; repeat' (first | exact List.forall_mem_nil _ | (refine List.forall_mem_cons.mpr ⟨by (show Str.ofString _ ≠ Str.ofString _); decide, ?_⟩))))
local macro_rules | `(tactic| walk_at "sub") => `(tactic| (intro q hq; (try simp only [List.cons_append, List.append_assoc, List.mem_cons, List.mem_append, List.not_mem_nil, or_false, or_assoc] at hq ⊢); (repeat' (first | exact hq | (refine Or.elim hq (fun hq => ?_) (fun hq => ?_)) | exact Or.inl hq | (refine Or.inr ?_)))))
local macro_rules | `(tactic| walk_at "mem") => `(tactic| first | assumption | exact List.mem_cons_self | (refine List.mem_cons_of_mem _ ?_; walk_at "mem") | (refine List.mem_append_left _ ?_; walk_at "mem") | (refine List.mem_append_right _ ?_; walk_at "mem"))
local macro_rules | `(tactic| walk_at "subscriptTail Name Name ref int") => `(tactic| ((with_reducible show wpAny _ _ (subscriptTail _ _ (Value.ref _) (Value.int _ _)) _ _ _); (with_unfolding_all refine' r_unit ?k1 ?k2 ?k3 ?k4 ?k5 ?k6 ?_ ?k7; (case k1 => k_asm); (case k2 => walk_at "mem"); (case k3 => assumption); (case k4 => omega); (case k5 => omega); (case k6 => omega); (case k7 => with_unfolding_all rfl)); intro a8 t8 t7 n8 m8))
local macro_rules | `(tactic| walk_at "subscriptTail Subscript") => `(tactic| with_reducible refine r_turn ?_)
local macro_rules | `(tactic| walk_at "compareOp Eq str str") => `(tactic| ((with_reducible show wpAny _ _ (compareOp _ (Value.str (tx _) _) (Value.str (tx _) _)) _ _ _); refine r_eqT ?_))
local macro_rules | `(tactic| walk_at "compareOp NotEq str str") => `(tactic| ((with_reducible show wpAny _ _ (compareOp _ (Value.str (tx _) _) (Value.str (tx _) _)) _ _ _); refine r_neT ?_))
local macro_rules | `(tactic| walk_at "compareOp NotIn str str") => `(tactic| ((with_reducible show wpAny _ _ (compareOp _ (Value.str (tx _) _) (Value.str _ _)) _ _ _); refine r_notin2 isOp H_open ?_))
local macro_rules | `(tactic| walk_at "eval Constant str") => `(tactic| with_reducible (first | refine r_const E_rp ?_ | refine r_const E_nil ?_))
local macro_rules | `(tactic| walk_at "binaryOp Add str str") => `(tactic| ((with_reducible show wpAny _ _ (binaryOp _ (Value.str (tx _) _) (Value.str (tx _) _)) _ _ _); refine r_cat (by first | omega | (simp only [List.length_append, List.length_cons, List.length_nil]; omega)) ?_; intro t9 k9))
local macro_rules | `(tactic| walk_at "call builtin:len") => `(tactic| ((with_reducible show wpAny _ _ (call (Value.builtin "len") [Value.ref _]) _ _ _); refine r_lenU (by k_asm) (by walk_at "mem") (by assumption) (by omega) ?_; intro t9 k9))
local macro_rules | `(tactic| walk_at "eval Name") => `(tactic| first
  | ((with_reducible refine' ld ?k1 ?k2 ?_ ?k3 ?k4 ?k5); (case k4 => kernel_rfl!); (case k1 => k_asm); (case k2 => k_dflt (exact rfl)); (case k3 => k_dflt (exact rfl)); (case k5 => decide); k_whole)
  | ((with_reducible refine' name_K ?k0 ?k1 ?k2 ?k3 ?_ ?k4 ?k5 ?k6); (case k5 => kernel_rfl!); (case k0 => k_asm); (case k1 => k_asm); (case k2 => k_asm); (case k3 => k_dflt k_is); (case k4 => k_dflt (exact rfl)); (case k6 => decide); k_whole))
local macro_rules | `(tactic| walk_at "ite") => `(tactic| first | with_reducible refine ite_tt ?_ | with_reducible refine ite_ff ?_ | with_reducible refine ite_True_then ?_ | with_reducible refine ite_False_else ?_ | (k_openite; first | refine ite_pos (by with_reducible assumption) ?_ | refine ite_neg (by with_reducible assumption) ?_ | refine ite_isFalse (by with_reducible assumption) ?_ | (with_reducible refine split_ine ?_ ?_ <;> intro _) | (with_reducible refine split_ieq ?_ ?_ <;> intro _) | with_reducible refine split_not ?_ | (refine split_dec ?_ ?_ <;> intro _) | (refine split_bool ?_ ?_ <;> intro _)))
local macro_rules | `(tactic| walk_at "callWith ref") => `(tactic| first
  | ((with_reducible refine' callWith_K ?k1 ?k2 ?_ ?k3 ?k4); (case k1 => k_asm); (case k2 => k_dflt k_is); (case k3 => k_dflt (exact rfl)); (case k4 => k_dflt (exact rfl)); k_whole)
  | ((with_reducible refine' callWith_K0 ?k1 ?k2 ?_); (case k1 => k_dflt k_in); (case k2 => k_dflt k_is); k_whole)
  | ((with_reducible refine' callWith_KW ?k1 ?k2 ?k3 ?_ ?k4 ?k5); (case k1 => k_asm); (case k2 => k_dflt k_is); (case k3 => k_dflt (exact rfl)); (case k4 => k_dflt (exact rfl)); (case k5 => k_dflt (exact rfl)); k_whole))

local macro_rules | `(tactic| walk_at "call ref") => `(tactic| ((with_reducible show wpAny _ _ (call (Value.ref 199) _ _) _ _ _); refine c_lhref _ _ _ _ _ _ _ (by walk_at "cx") (by omega) ?_ ?_; (all_goals intros); (all_goals (try dsimp only))))
local macro_rules | `(tactic| walk_at "call ref") => `(tactic| ((with_reducible show wpAny _ _ (call (Value.ref 185) _ _) _ _ _); refine c_ltitle _ _ _ _ _ _ (by walk_at "cx") (by omega) (by omega) ?_ ?_; (all_goals intros); (all_goals (try dsimp only))))
local macro_rules | `(tactic| walk_at "call ref") => `(tactic| ((with_reducible show wpAny _ _ (call (Value.ref 171) _ _) _ _ _); refine c_plain _ _ (by walk_at "cx") (by omega) ?_; intro t9 h9 k9 F9 N9; (try dsimp only)))
local macro_rules | `(tactic| walk_at "call ref") => `(tactic| ((with_reducible show wpAny _ _ (call (Value.ref 178) _ _) _ _ _); refine c_url _ _ (by walk_at "cx") (by omega) (by assumption) ?_; intro t9 h9 k9 F9 N9; (try dsimp only)))
set_option maxHeartbeats 4000000 in
theorem c_whole {w : World} {loose : List Str} {mean : ExcName → Option Value} {mg mb : Str → Option Value} {k dp un : Nat} {gd : Option (List Code)}
    {A₀ : Around} {env : Env} {outer : List Env} {base h₀ : Heap} {L : Addr} {m : Str → Option Value} {news : List (Addr × Obj)} {s : Shared}
    {E Q : Value → Shared → Prop} (l : List Nat) (start : Nat) (bound : Int) (t1 t2 t3 : Tok)
    (C : Cx w loose mean mg mb (k + 4) ⟨none, dp, some (env :: outer), gd, un⟩ A₀ env outer base h₀ L m news s)
    (hl : l.length ≤ 1000) (ha : AlphT l)
    (hret1 : ∀ u tt n a d o ta tb h' tk', wholeS l start bound = (some (u, tt, n), n) → (d == sysModules) = false → DictIs w o (attrP u tt) → Fr h₀ L h' m → News h₀ L h' ((a, tupOf [.ref d, .int (n : Nat) ta, .int (n : Nat) tb]) :: (d, o) :: news) → Q (.ref a) { s with heap := h', toks := tk' })
    (hret2 : ∀ q a tb h' tk', wholeS l start bound = (none, q) → Fr h₀ L h' m → News h₀ L h' ((a, tupOf [.none, .none, .int (q : Nat) tb]) :: news) → Q (.ref a) { s with heap := h', toks := tk' }) :
    wpAny (model PySem.Challenge.pw_br5019_01 w) ⟨none, dp, some (env :: outer), gd, un⟩ (call (.ref 206) [.str (tx l) t1, .int start t2, .int bound t3]) Q E s := by
  refine enter [(Str.ofString "text", .str (tx l) t1), (Str.ofString "start", .int start t2), (Str.ofString "bound", .int bound t3)] C (by k_is) (by k_is) (BindsTo.of_eq rfl) rfl rfl rfl (by decide) (locs rfl) ?_
  intro g L' h' tk Q' F' N' B' X' T' hd hu hret'
  walk_at "go"
  · rename_i hr q a3 ta1 tb1 tc1 h9 k9 hH h8 h7 h6 h5 k8 tt e a1 ta tb h4 k7 hT h3 h2 h1 h0 F0 N0
    have hal := ha.href hH
    have hhl := href_len hH
    have hup : (unesc hr).length ≤ 1000 := Nat.le_trans (unesc_len hr) (by omega)
    have haU := hal.unesc.alph
    have hk0 : e = match titleS l q l.length with | none => q | some (_, e) => e := by rw [hT]
    have htt : tt = match titleS l q l.length with | none => [] | some (tt, _) => tt := by rw [hT]
    refine wh (σ := Nat × Tok × Tok) (τ := Nat × Tok × Tok) (fun _ => news) (fun c => [(Str.ofString "text", .str (tx l) t1), (Str.ofString "href", .str (tx hr) ta1), (Str.ofString "title", .str (tx tt) ta), (Str.ofString "k", .int c.1 c.2.1)])
      (fun c => skip isWs ((l).drop c.1) c.1 = skip isWs ((l).drop (e)) (e)) (fun c => (l).length - c.1) (e, _, 0)
      (fun _ => news) (fun c => [(Str.ofString "text", .str (tx l) t1), (Str.ofString "href", .str (tx hr) ta1), (Str.ofString "title", .str (tx tt) ta), (Str.ofString "k", .int c.1 c.2.1)]) (fun c => c.1 = skip isWs ((l).drop (e)) (e))
      (by assumption) (by assumption) (fun _ h => .tail _ (.tail _ h)) (by walk_at "look") (by rfl) ?_ ?_
    · intro c u h tk Q' D hp F N hnext hbrk hr
      dsimp only at hnext hbrk ⊢
      walk_at "go"
      · refine' (hnext (c.1 + 1, _, c.2.2) _ _ _ _ (by assumption) (by assumption) (fun _ h => h) ?gL1 ?gP1 ?gM1).1
        case gL1 => walk_at "look"
        all_goals rename_i h1 h2 _ _ _
        · rw [← hp]; exact skip_t (by walk_at "ix") (by first | exact h2 | (rw [take_get (by omega)]; exact h2))
        · dsimp only; walk_at "ix"
      · refine (hbrk (c.1, c.2.1, c.2.2) _ _ _ _ (by assumption) (by assumption) (fun _ h => h) (by walk_at "look") ?_).2
        rename_i h1 h2
        rw [← hp]; exact skip_f (by walk_at "ix") (by first | exact h2 | (rw [take_get (by omega)]; exact h2))
      · refine (hbrk (c.1, c.2.1, c.2.2) _ _ _ _ (by assumption) (by assumption) (fun _ h => h) (by walk_at "look") ?_).2
        rename_i h1
        rw [← hp]; exact skip_e (by walk_at "ix")
    · rintro ⟨k, tkk, _⟩ u h tk hx F N
      dsimp only at hx F N ⊢
      walk_at "go"
      · refine hret' _ _ _ _ _ _ (by assumption) (by assumption) fun F2 N3 => ?_
        exact hret2 _ _ _ _ _ (whole_stop hH hk0 hx (fun e => by omega)) F2 (subN N3 (by walk_at "sub"))
      · refine hret' _ _ _ _ _ _ (by assumption) (by assumption) fun F2 N3 => ?_
        exact hret2 _ _ _ _ _ (whole_stop hH hk0 hx (fun e => absurd e.2 (bne_iff_ne.mp (by assumption)))) F2 (subN N3 (by walk_at "sub"))
      · have hwg := whole_good hH hk0 htt hx ⟨by omega, by simpa using (show (l.getD k 0 != 41) = false from by assumption)⟩
        with_reducible rename (∀ (p : Addr × Obj), p ∈ news → p.fst < _) => hlt9
        have hnd := fun (p : Addr × Obj) (hp : p ∈ news) => Nat.ne_of_lt (hlt9 p hp)
        dsimp only
        refine r_truth (Nat.le_trans (titleS_len hT) (by omega)) (fun hne k => ?_) (fun hni k => ?_)
        · simp only [if_true]
          walk_at "go"
          refine hret' _ _ _ _ _ _ (by assumption) (by assumption) fun F2 N3 => ?_
          refine hret1 _ _ _ _ _ _ _ _ _ _ hwg (by assumption) ?_ F2 (subN N3 (by walk_at "sub"))
          rw [attrP_cons hne]
          exact ⟨_, by assumption, by assumption⟩
        · simp only [Bool.false_eq_true, if_false]
          walk_at "go"
          refine hret' _ _ _ _ _ _ (by assumption) (by assumption) fun F2 N3 => ?_
          rw [hni] at hwg
          exact hret1 _ _ _ _ _ _ _ _ _ _ hwg (by assumption) ⟨_, by assumption, by assumption⟩ F2 (subN N3 (by walk_at "sub"))
  · rename_i hr q a3 ta1 tb1 tc1 h9 k9 hH h8 h7 h6 h5 k8 a1 h4 k7 hT h3 h2 h1 h0 F0 N0
    have hal := ha.href hH
    have hhl := href_len hH
    have hup : (unesc hr).length ≤ 1000 := Nat.le_trans (unesc_len hr) (by omega)
    have haU := hal.unesc.alph
    have hk0 : q = match titleS l q l.length with | none => q | some (_, e) => e := by rw [hT]
    have htt : ([] : List Nat) = match titleS l q l.length with | none => [] | some (tt, _) => tt := by rw [hT]
    refine wh (σ := Nat × Tok × Tok) (τ := Nat × Tok × Tok) (fun _ => news) (fun c => [(Str.ofString "text", .str (tx l) t1), (Str.ofString "href", .str (tx hr) ta1), (Str.ofString "title", .none), (Str.ofString "k", .int c.1 c.2.1)])
      (fun c => skip isWs ((l).drop c.1) c.1 = skip isWs ((l).drop (q)) (q)) (fun c => (l).length - c.1) (q, _, 0)
      (fun _ => news) (fun c => [(Str.ofString "text", .str (tx l) t1), (Str.ofString "href", .str (tx hr) ta1), (Str.ofString "title", .none), (Str.ofString "k", .int c.1 c.2.1)]) (fun c => c.1 = skip isWs ((l).drop (q)) (q))
      (by assumption) (by assumption) (fun _ h => .tail _ (.tail _ h)) (by walk_at "look") (by rfl) ?_ ?_
    · intro c u h tk Q' D hp F N hnext hbrk hr
      dsimp only at hnext hbrk ⊢
      walk_at "go"
      · refine' (hnext (c.1 + 1, _, c.2.2) _ _ _ _ (by assumption) (by assumption) (fun _ h => h) ?gL2 ?gP2 ?gM2).1
        case gL2 => walk_at "look"
        all_goals rename_i h1 h2 _ _ _
        · rw [← hp]; exact skip_t (by walk_at "ix") (by first | exact h2 | (rw [take_get (by omega)]; exact h2))
        · dsimp only; walk_at "ix"
      · refine (hbrk (c.1, c.2.1, c.2.2) _ _ _ _ (by assumption) (by assumption) (fun _ h => h) (by walk_at "look") ?_).2
        rename_i h1 h2
        rw [← hp]; exact skip_f (by walk_at "ix") (by first | exact h2 | (rw [take_get (by omega)]; exact h2))
      · refine (hbrk (c.1, c.2.1, c.2.2) _ _ _ _ (by assumption) (by assumption) (fun _ h => h) (by walk_at "look") ?_).2
        rename_i h1
        rw [← hp]; exact skip_e (by walk_at "ix")
    · rintro ⟨k, tkk, _⟩ u h tk hx F N
      dsimp only at hx F N ⊢
      walk_at "go"
      · refine hret' _ _ _ _ _ _ (by assumption) (by assumption) fun F2 N3 => ?_
        exact hret2 _ _ _ _ _ (whole_stop hH hk0 hx (fun e => by omega)) F2 (subN N3 (by walk_at "sub"))
      · refine hret' _ _ _ _ _ _ (by assumption) (by assumption) fun F2 N3 => ?_
        exact hret2 _ _ _ _ _ (whole_stop hH hk0 hx (fun e => absurd e.2 (bne_iff_ne.mp (by assumption)))) F2 (subN N3 (by walk_at "sub"))
      · refine hret' _ _ _ _ _ _ (by assumption) (by assumption) fun F2 N3 => ?_
        exact hret1 _ _ _ _ _ _ _ _ _ _ (whole_good hH hk0 htt hx ⟨by omega, by simpa using (show (l.getD k 0 != 41) = false from by assumption)⟩) (by assumption) ⟨_, by assumption, by assumption⟩ F2 (subN N3 (by walk_at "sub"))
  · refine hret' _ _ _ _ _ _ (by assumption) (by assumption) fun F2 N3 => ?_
    exact hret2 _ _ _ _ _ (whole_none (by assumption)) F2 (subN N3 (by walk_at "sub"))

end Mine
end
noncomputable section
open Lean PySem PySem.W PySem.Spec PySem.Calls PyProof.Rows
set_option maxRecDepth 100000
namespace Mine
theorem fill_F14 : 0 = 0 ∧ 0 = 0 := by
  try walk1
  w_top off
  all_goals first | rfl | exact ⟨rfl, rfl⟩
local macro_rules | `(tactic| walk_at "noloop") => `(tactic| first
  | ((fail_if_success (fail_if_success (with_reducible show wpAny _ _ (execs _ _) _ _ _))); fail_if_success ((with_reducible refine st_execs ?_ ?_); (focus rfl)))
  | ((fail_if_success (fail_if_success (with_reducible show wpAny _ _ (exec _ _) _ _ _))); fail_if_success ((with_reducible refine st_exec ?_ ?_); (focus rfl)))
  | ((fail_if_success (with_reducible show wpAny _ _ (execs _ _) _ _ _)); (fail_if_success (with_reducible show wpAny _ _ (exec _ _) _ _ _)); (fail_if_success (with_reducible show wpAny _ _ (eval (Expr.ListComp _ _ _ _) _) _ _ _)); (fail_if_success (with_reducible show wpAny _ _ (pyIter _) _ _ _)); (fail_if_success (with_reducible show wpAny _ _ (truthy (Value.str (tx _) _)) _ _ _))))
local macro_rules | `(tactic| walk_at "go") => `(tactic| repeat' (first
  | (k_unfold; (try dsimp only))
  | (walk_at "noloop"; walk1)
  | (dsimp only; walk_at "noloop"; walk1)))
local macro_rules | `(tactic| walk_at "look") => `(tactic| ((try dsimp only); repeat' (first | exact List.forall_mem_nil _ | (refine List.forall_mem_cons.mpr ⟨by with_unfolding_all rfl, ?_⟩))))
local macro_rules | `(tactic| walk_at "ix") => `(tactic| first | omega | (simp only [List.length_take, List.length_drop] at *; omega))
local macro_rules | `(tactic| walk_at "subscriptTail Name Name str int") => `(tactic| ((with_reducible show wpAny _ _ (subscriptTail _ _ (Value.str (tx _) _) (Value.int _ _)) _ _ _); refine r_item (by walk_at "ix") (by walk_at "ix") (by walk_at "ix") ?_))
local macro_rules | `(tactic| walk_at "subscriptTail Name BinOp str int") => `(tactic| ((with_reducible show wpAny _ _ (subscriptTail _ _ (Value.str (tx _) _) (Value.int _ _)) _ _ _); refine r_item (by walk_at "ix") (by walk_at "ix") (by walk_at "ix") ?_))
local macro_rules | `(tactic| walk_at "compareOp In str str") => `(tactic| ((with_reducible show wpAny _ _ (compareOp _ (Value.str (tx _) _) (Value.str _ _)) _ _ _); refine r_in ?_))
local macro_rules | `(tactic| walk_at "compareOp NotIn str str") => `(tactic| ((with_reducible show wpAny _ _ (compareOp _ (Value.str (tx _) _) (Value.str _ _)) _ _ _); refine r_notin ?_))
local macro_rules | `(tactic| walk_at "compareOp Eq str str") => `(tactic| ((with_reducible show wpAny _ _ (compareOp _ (Value.str (tx _) _) (Value.str _ _)) _ _ _); refine r_eq ?_))
local macro_rules | `(tactic| walk_at "compareOp NotEq str str") => `(tactic| ((with_reducible show wpAny _ _ (compareOp _ (Value.str (tx _) _) (Value.str _ _)) _ _ _); refine r_ne ?_))
local macro_rules | `(tactic| walk_at "call builtin:ord") => `(tactic| ((with_reducible show wpAny _ _ (call _ [Value.str (tx _) _]) _ _ _); refine r_ord ?_))
local macro_rules | `(tactic| walk_at "call builtin:len") => `(tactic| ((with_reducible show wpAny _ _ (call _ [Value.str (tx _) _]) _ _ _); refine r_len (by walk_at "ix") ?_))
local macro_rules | `(tactic| walk_at "compareOp In str str") => `(tactic| ((with_reducible show wpAny _ _ (compareOp _ (Value.str (tx _) _) (Value.str _ _)) _ _ _); first | refine r_in2 isWs H_ws ?_ | refine r_in2 isBl H_bl ?_ | refine r_in2 isNl H_nl ?_ | refine r_in2 isBad H_bad ?_ | refine r_in2 isPu H_pu ?_))
local macro_rules | `(tactic| walk_at "compareOp NotIn str str") => `(tactic| ((with_reducible show wpAny _ _ (compareOp _ (Value.str (tx _) _) (Value.str _ _)) _ _ _); first | refine r_notin2 isWs H_ws ?_ | refine r_notin2 isPu H_pu ?_))
local macro_rules | `(tactic| walk_at "compareOp Eq str str") => `(tactic| ((with_reducible show wpAny _ _ (compareOp _ (Value.str (tx _) _) (Value.str _ _)) _ _ _); first | refine r_eq1 L_lt ?_ | refine r_eq1 L_gt ?_ | refine r_eq1 L_bs ?_ | refine r_eq1 L_lp ?_ | refine r_eq1 L_rp ?_ | refine r_eq1 L_del ?_ | refine r_eq1 L_nul ?_ | refine r_eq1 L_n ?_ | refine r_eq1 L_r ?_))
local macro_rules | `(tactic| walk_at "compareOp NotEq str str") => `(tactic| ((with_reducible show wpAny _ _ (compareOp _ (Value.str (tx _) _) (Value.str _ _)) _ _ _); first | refine r_ne1 L_rp ?_))
local macro_rules | `(tactic| walk_at "subscriptTail Name Slice str ref") => `(tactic| ((with_reducible show wpAny _ _ (subscriptTail _ (Expr.Slice (some _) (some _) none _) (Value.str (tx _) _) _) _ _ _); (with_reducible rename Fr _ _ _ _ => F'); (with_reducible rename News _ _ _ _ => N'); (refine r_slice (s := ⟨_, _, _, _, _⟩) (by walk_at "ix") (by walk_at "ix") (by walk_at "ix") F' N' ?_); intro _ _ _ _ _))
local macro_rules | `(tactic| walk_at "compareOp Eq str str") => `(tactic| ((with_reducible show wpAny _ _ (compareOp _ (Value.str (tx _) _) (Value.str _ _)) _ _ _); refine r_eqL L_rn ?_))
local macro_rules | `(tactic| walk_at "fact") => `(tactic| first | assumption | exact beq_iff_eq.mp (by assumption) | exact beq_eq_false_iff_ne.mp (by assumption) | omega)
local macro_rules | `(tactic| walk_at "noesc") => `(tactic| (rintro ⟨e1, e2, e3⟩; first | exact absurd e1 (beq_eq_false_iff_ne.mp (by assumption)) | exact Bool.noConfusion (Eq.trans (Eq.symm (show isPu _ = false from by assumption)) e3) | exact absurd (Eq.trans (Eq.symm e1) (beq_iff_eq.mp (show (List.getD _ _ _ == _) = true from by assumption))) (by decide) | omega))
local macro_rules | `(tactic| walk_at "cx") => `(tactic| exact ⟨by k_asm, by k_asm, by k_asm, by k_asm, by k_asm, rfl, rfl, rfl, rfl, (by (show _ + _ < _); omega), (by (show _ + 8 * _ < _); omega)⟩)
local macro_rules | `(tactic| walk_at "call ref") => `(tactic| ((with_reducible show wpAny _ _ (call (Value.ref 137) _ _) _ _ _); refine c_begin _ _ _ _ (by walk_at "cx") (by omega) ?_; intro t9 h9 k9 F9 N9; (try dsimp only)))
local macro_rules | `(tactic| walk_at "call ref") => `(tactic| ((with_reducible show wpAny _ _ (call (Value.ref 144) _ _) _ _ _); refine c_angle _ _ _ _ (by walk_at "cx") (by omega) (by omega) ?_ ?_; (all_goals intros); (all_goals (try dsimp only))))
local macro_rules | `(tactic| walk_at "call builtin:min") => `(tactic| ((with_reducible show wpAny _ _ (call (Value.builtin _) [Value.int _ _, Value.int _ _]) _ _ _); refine r_min (by omega) rfl (by assumption) (by assumption) ?_; intro h9 t9 k9 F9 N9))
local macro_rules | `(tactic| walk_at "retx") => `(tactic| (dsimp only; refine hret' _ _ _ _ _ _ (by assumption) (by assumption) fun F2 N2 => ?_))
local macro_rules | `(tactic| walk_at "upd") => `(tactic| first | exact Upd.head (by assumption) | (refine' Upd.tail ?a ?b; (case a => k_ne); (case b => walk_at "upd")))
local macro_rules | `(tactic| walk_at "sz") => `(tactic| ((try simp only [List.size_toArray, PySem.sizeLine_eq]); omega))
local macro_rules | `(tactic| walk_at "call builtin:list.append") => `(tactic| (k_here; (with_reducible show wpAny _ _ (call (Value.builtin _) [Value.ref _, _]) _ _ _); (refine' append_K ?k1 ?k2 ?k3 ?_ ?z; (case k1 => k_asm); (case k2 => k_asm); (case k3 => walk_at "upd"); (case z => walk_at "sz"); k_whole); intro h' F' N'; (try simp only [List.push_toArray] at N'); (try k_sweep)))
local macro_rules | `(tactic| walk_at "call ref") => `(tactic| ((with_reducible show wpAny _ _ (call (Value.ref 192) _ _) _ _ _); refine c_lbegin _ _ _ _ (by walk_at "cx") (by omega) ?_; intro t9 h9 k9 F9 N9; (try dsimp only)))
local macro_rules | `(tactic| walk_at "call ref") => `(tactic| ((with_reducible show wpAny _ _ (call (Value.ref 166) _ _) _ _ _); refine c_units _ _ _ _ _ _ (by walk_at "cx") (by walk_at "ix") (by walk_at "ix") ?_; intro a9 n9 vs9 tl9 h9 k9 U9 F9 N9 d9; (try dsimp only)))
local macro_rules | `(tactic| walk_at "subscriptTail Name Constant ref int") => `(tactic| ((with_reducible show wpAny _ _ (subscriptTail _ _ (Value.ref _) (Value.int _ _)) _ _ _); (with_unfolding_all refine' item_litK ?k1 ?k2 ?k3 ?k4 ?_ ?k6; (case k1 => exact News.isList (by k_asm) (by first | k_mem | walk_at "mem")); (case k2 => decide); (case k3 => decide); (case k4 => rfl); (case k6 => with_unfolding_all rfl); k_whole)))
local macro_rules | `(tactic| walk_at "offx") => `(tactic| (intro _; repeat' (first | exact List.forall_mem_nil _ | (refine List.forall_mem_cons.mpr ⟨by (show Str.ofString _ ≠ Str.ofString _); decide, ?_⟩))))
local macro_rules | `(tactic| walk_at "sub") => `(tactic| (intro q hq; (try simp only [List.cons_append, List.append_assoc, List.mem_cons, List.mem_append, List.not_mem_nil, or_false, or_assoc] at hq ⊢); (repeat' (first | exact hq | (refine Or.elim hq (fun hq => ?_) (fun hq => ?_)) | exact Or.inl hq | (refine Or.inr ?_)))))
local macro_rules | `(tactic| walk_at "mem") => `(tactic| first | assumption | exact List.mem_cons_self | (refine List.mem_cons_of_mem _ ?_; walk_at "mem") | (refine List.mem_append_left _ ?_; walk_at "mem") | (refine List.mem_append_right _ ?_; walk_at "mem"))
local macro_rules | `(tactic| walk_at "subscriptTail Name Name ref int") => `(tactic| ((with_reducible show wpAny _ _ (subscriptTail _ _ (Value.ref _) (Value.int _ _)) _ _ _); (with_unfolding_all refine' r_unit ?k1 ?k2 ?k3 ?k4 ?k5 ?k6 ?_ ?k7; (case k1 => k_asm); (case k2 => walk_at "mem"); (case k3 => assumption); (case k4 => omega); (case k5 => omega); (case k6 => omega); (case k7 => with_unfolding_all rfl)); intro a8 t8 t7 n8 m8))
local macro_rules | `(tactic| walk_at "subscriptTail Subscript") => `(tactic| with_reducible refine r_turn ?_)
local macro_rules | `(tactic| walk_at "compareOp Eq str str") => `(tactic| ((with_reducible show wpAny _ _ (compareOp _ (Value.str (tx _) _) (Value.str (tx _) _)) _ _ _); refine r_eqT ?_))
local macro_rules | `(tactic| walk_at "compareOp NotEq str str") => `(tactic| ((with_reducible show wpAny _ _ (compareOp _ (Value.str (tx _) _) (Value.str (tx _) _)) _ _ _); refine r_neT ?_))
local macro_rules | `(tactic| walk_at "compareOp NotIn str str") => `(tactic| ((with_reducible show wpAny _ _ (compareOp _ (Value.str (tx _) _) (Value.str _ _)) _ _ _); refine r_notin2 isOp H_open ?_))
local macro_rules | `(tactic| walk_at "eval Constant str") => `(tactic| with_reducible (first | refine r_const E_rp ?_ | refine r_const E_nil ?_))
local macro_rules | `(tactic| walk_at "binaryOp Add str str") => `(tactic| ((with_reducible show wpAny _ _ (binaryOp _ (Value.str (tx _) _) (Value.str (tx _) _)) _ _ _); refine r_cat (by first | omega | (simp only [List.length_append, List.length_cons, List.length_nil]; omega)) ?_; intro t9 k9))
local macro_rules | `(tactic| walk_at "call builtin:len") => `(tactic| ((with_reducible show wpAny _ _ (call (Value.builtin "len") [Value.ref _]) _ _ _); refine r_lenU (by k_asm) (by walk_at "mem") (by assumption) (by omega) ?_; intro t9 k9))
local macro_rules | `(tactic| walk_at "eval Name") => `(tactic| first
  | ((with_reducible refine' ld ?k1 ?k2 ?_ ?k3 ?k4 ?k5); (case k4 => kernel_rfl!); (case k1 => k_asm); (case k2 => k_dflt (exact rfl)); (case k3 => k_dflt (exact rfl)); (case k5 => decide); k_whole)
  | ((with_reducible refine' name_K ?k0 ?k1 ?k2 ?k3 ?_ ?k4 ?k5 ?k6); (case k5 => kernel_rfl!); (case k0 => k_asm); (case k1 => k_asm); (case k2 => k_asm); (case k3 => k_dflt k_is); (case k4 => k_dflt (exact rfl)); (case k6 => decide); k_whole))
local macro_rules | `(tactic| walk_at "ite") => `(tactic| first | with_reducible refine ite_tt ?_ | with_reducible refine ite_ff ?_ | with_reducible refine ite_True_then ?_ | with_reducible refine ite_False_else ?_ | (k_openite; first | refine ite_pos (by with_reducible assumption) ?_ | refine ite_neg (by with_reducible assumption) ?_ | refine ite_isFalse (by with_reducible assumption) ?_ | (with_reducible refine split_ine ?_ ?_ <;> intro _) | (with_reducible refine split_ieq ?_ ?_ <;> intro _) | with_reducible refine split_not ?_ | (refine split_dec ?_ ?_ <;> intro _) | (refine split_bool ?_ ?_ <;> intro _)))
local macro_rules | `(tactic| walk_at "callWith ref") => `(tactic| first
  | ((with_reducible refine' callWith_K ?k1 ?k2 ?_ ?k3 ?k4); (case k1 => k_asm); (case k2 => k_dflt k_is); (case k3 => k_dflt (exact rfl)); (case k4 => k_dflt (exact rfl)); k_whole)
  | ((with_reducible refine' callWith_K0 ?k1 ?k2 ?_); (case k1 => k_dflt k_in); (case k2 => k_dflt k_is); k_whole)
  | ((with_reducible refine' callWith_KW ?k1 ?k2 ?k3 ?_ ?k4 ?k5); (case k1 => k_asm); (case k2 => k_dflt k_is); (case k3 => k_dflt (exact rfl)); (case k4 => k_dflt (exact rfl)); (case k5 => k_dflt (exact rfl)); k_whole))

theorem Cx.sub {w : World} {loose : List Str} {mean : ExcName → Option Value} {mg mb : Str → Option Value} {k : Nat} {A A₀ : Around} {env : Env} {outer : List Env} {base h₀ : Heap} {L : Addr} {m : Str → Option Value} {led led' : List (Addr × Obj)} {s : Shared}
    (C : Cx w loose mean mg mb k A A₀ env outer base h₀ L m led' s) (hs : ∀ p ∈ led, p ∈ led') : Cx w loose mean mg mb k A A₀ env outer base h₀ L m led s :=
  ⟨C.B, C.F, C.X, subN C.N hs, C.T, C.hh, C.hA, C.hf, C.hk, C.hd, C.hu⟩
theorem r_truePos {prog : Program} {w : World} {A : Around} {E : Value → Shared → Prop} {s : Shared} {e : Nat} {t : Tok} {Q : Bool → Shared → Prop} (he : 0 < e) (h : Q true s) : wpAny (model prog w) A (truthy (.int (e : Int) t)) Q E s := by
  refine PySem.P.truthy_int ?_
  have : ((e : Int) != 0) = true := by rw [bne_iff_ne]; omega
  rw [this]; exact h
local macro_rules | `(tactic| walk_at "truthy int") => `(tactic| ((with_reducible show wpAny _ _ (truthy (Value.int _ _)) _ _ _); refine r_truePos (by assumption) ?_))
local macro_rules | `(tactic| walk_at "call ref") => `(tactic| ((with_reducible show wpAny _ _ (call (Value.ref 130) [_, _] _) _ _ _); refine c_skip2 _ _ _ _ (by walk_at "cx") (by omega) ?_; intro t9 h9 k9 F9 N9; (try dsimp only)))
local macro_rules | `(tactic| walk_at "call ref") => `(tactic| ((with_reducible show wpAny _ _ (call (Value.ref 52) _ _) _ _ _); refine c_escurl _ _ (by walk_at "cx") (by omega) (by assumption) (by assumption) ?_; intro t9 h9 k9 F9 N9; (try dsimp only)))
set_option maxHeartbeats 4000000 in
theorem c_withend {w : World} {loose : List Str} {mean : ExcName → Option Value} {mg mb : Str → Option Value} {k dp un : Nat} {gd : Option (List Code)}
    {A₀ : Around} {env : Env} {outer : List Env} {base h₀ : Heap} {L : Addr} {m : Str → Option Value} {news : List (Addr × Obj)} {s : Shared}
    {E Q : Value → Shared → Prop} (l : List Nat) (start : Nat) (bound : Int) (t1 t2 t3 : Tok) (b : Option (Addr × Obj))
    (C : Cx w loose mean mg mb (k + 5) ⟨none, dp, some (env :: outer), gd, un⟩ A₀ env outer base h₀ L m (tabL b ++ news) s)
    (hl : l.length ≤ 1000) (ha : AlphT l) (CH : CodeHd base 80 76) (hb : tabG b) (hr : okR news)
    (hret1 : ∀ u tt n a d o ta tb b' h' tk', wholeS l start bound = (some (u, tt, n), n) → (d == sysModules) = false → DictIs w o (attrP u tt) → tabG b' → Fr h₀ L h' m → News h₀ L h' ((a, tupOf [.ref d, .int (n : Nat) ta, .int (n : Nat) tb]) :: (d, o) :: (tabL b' ++ news)) → Q (.ref a) { s with heap := h', toks := tk' })
    (hret2 : ∀ q a tb b' h' tk', wholeS l start bound = (none, q) → tabG b' → Fr h₀ L h' m → News h₀ L h' ((a, tupOf [.none, .none, .int (q : Nat) tb]) :: (tabL b' ++ news)) → Q (.ref a) { s with heap := h', toks := tk' }) :
    wpAny (model PySem.Challenge.pw_br5019_01 w) ⟨none, dp, some (env :: outer), gd, un⟩ (call (.ref 122) [.str (tx l) t1, .int start t2] [(Str.ofString "max_nested_level", .int bound t3)]) Q E s := by
  refine enter [(Str.ofString "src", .str (tx l) t1), (Str.ofString "pos", .int start t2), (Str.ofString "max_nested_level", .int bound t3)] C (by k_is) (by k_is) (by first | exact BindsTo.of_eq rfl | exact binds_K (C.X.keeps C.F.keep) rfl (by k_is) rfl rfl rfl) rfl rfl rfl (by decide) (locs rfl) ?_
  intro g L' h' tk Q' F' N' B' X' T' hd hu hret'
  walk_at "go"
  refine c_phref l start false bound t1 t2 t3 [.str (tx l) t1, .int start t2] [(Str.ofString "max_nested_level", .int bound t3)] (by walk_at "cx") (bindsAt (by k_is) (binds_K (X'.keeps F'.keep) rfl (by k_is) rfl rfl rfl)) hl ?_ ?_
  · intro hr9 q a3 ta1 tb1 h9 k9 hH F9 N9
    have hal := ha.href hH
    have hhl := href_len hH
    have hup : (unesc hr9).length ≤ 1000 := Nat.le_trans (unesc_len hr9) (by omega)
    have haU := hal.unesc.alph
    have h38 := hal.unesc.no38
    walk_at "go"
    with_reducible rename News _ _ _ _ => N5
    have N6 := subN (r' := tabL b ++ news) N5 (fun q hq => .tail _ hq)
    clear N5
    refine c_title l q l.length _ _ _ b (by walk_at "cx") hl (Nat.le_refl _) CH hb hr ?_ ?_
    · intro tt e a4 ta tb b' h8 k8 hT hb' Ft Nt
      have hk0 : e = match titleS l q l.length with | none => q | some (_, e) => e := by rw [hT]
      have htt : tt = match titleS l q l.length with | none => [] | some (tt, _) => tt := by rw [hT]
      have hepos : 0 < e := titleS_pos hT
      walk_at "go"
      · refine hret' _ _ _ _ _ _ (by assumption) (by assumption) fun F2 N3 => ?_
        exact hret2 _ _ _ b' _ _ (whole_stop hH hk0 rfl (fun e => by omega)) hb' F2 (subN N3 (by walk_at "sub"))
      · refine hret' _ _ _ _ _ _ (by assumption) (by assumption) fun F2 N3 => ?_
        exact hret2 _ _ _ b' _ _ (whole_stop hH hk0 rfl (fun e => absurd e.2 (bne_iff_ne.mp (by assumption)))) hb' F2 (subN N3 (by walk_at "sub"))
      · generalize hkz : skip isWs (List.drop e l) e = kz at *
        have hwg := whole_good hH hk0 htt hkz.symm ⟨by omega, by simpa using (show (l.getD kz 0 != 41) = false from by assumption)⟩
        with_reducible rename News _ _ _ _ => N7
        have N8 := subN (r' := tabL b' ++ news) N7 (fun q hq => .tail _ hq)
        clear N7
        refine c_unesc hr9 _ b' (by walk_at "cx") (by omega) CH hb' hr ?_
        intro tu b2 hu ku hb2 Fu Nu
        walk_at "go"
        with_reducible rename (∀ (p : Addr × Obj), p ∈ tabL b2 ++ news → p.fst < _) => hlt9
        have hnd := fun (p : Addr × Obj) (hp : p ∈ tabL b2 ++ news) => Nat.ne_of_lt (hlt9 p hp)
        (try dsimp only)
        refine r_truth (Nat.le_trans (titleS_len hT) (by omega)) (fun hne k => ?_) (fun hni k => ?_)
        · simp only [if_true]
          walk_at "go"
          refine hret' _ _ _ _ _ _ (by assumption) (by assumption) fun F2 N3 => ?_
          refine hret1 _ _ _ _ _ _ _ _ b2 _ _ hwg (by assumption) ?_ hb2 F2 (subN N3 (by walk_at "sub"))
          rw [attrP_cons hne]
          exact ⟨_, by assumption, by assumption⟩
        · simp only [Bool.false_eq_true, if_false]
          walk_at "go"
          refine hret' _ _ _ _ _ _ (by assumption) (by assumption) fun F2 N3 => ?_
          rw [hni] at hwg
          exact hret1 _ _ _ _ _ _ _ _ b2 _ _ hwg (by assumption) ⟨_, by assumption, by assumption⟩ hb2 F2 (subN N3 (by walk_at "sub"))
    · intro a4 h8 k8 hT Ft Nt
      have hk0 : q = match titleS l q l.length with | none => q | some (_, e) => e := by rw [hT]
      have htt : ([] : List Nat) = match titleS l q l.length with | none => [] | some (tt, _) => tt := by rw [hT]
      walk_at "go"
      · refine hret' _ _ _ _ _ _ (by assumption) (by assumption) fun F2 N3 => ?_
        exact hret2 _ _ _ b _ _ (whole_stop hH hk0 rfl (fun e => by omega)) hb F2 (subN N3 (by walk_at "sub"))
      · refine hret' _ _ _ _ _ _ (by assumption) (by assumption) fun F2 N3 => ?_
        exact hret2 _ _ _ b _ _ (whole_stop hH hk0 rfl (fun e => absurd e.2 (bne_iff_ne.mp (by assumption)))) hb F2 (subN N3 (by walk_at "sub"))
      · generalize hkz : skip isWs (List.drop q l) q = kz at *
        have hwg := whole_good hH hk0 htt hkz.symm ⟨by omega, by simpa using (show (l.getD kz 0 != 41) = false from by assumption)⟩
        with_reducible rename News _ _ _ _ => N7
        have N8 := subN (r' := tabL b ++ news) N7 (fun q hq => .tail _ hq)
        clear N7
        refine c_unesc hr9 _ b (by walk_at "cx") (by omega) CH hb hr ?_
        intro tu b2 hu ku hb2 Fu Nu
        walk_at "go"
        refine hret' _ _ _ _ _ _ (by assumption) (by assumption) fun F2 N3 => ?_
        exact hret1 _ _ _ _ _ _ _ _ b2 _ _ hwg (by assumption) ⟨_, by assumption, by assumption⟩ hb2 F2 (subN N3 (by walk_at "sub"))
  · intro q a3 tb1 h9 k9 hH F9 N9
    walk_at "go"
    refine hret' _ _ _ _ _ _ (by assumption) (by assumption) fun F2 N3 => ?_
    exact hret2 _ _ _ b _ _ (whole_none hH) hb F2 (subN N3 (by walk_at "sub"))

end Mine
end
noncomputable section
open Lean PySem PySem.W PySem.Spec PySem.Calls PyProof.Rows
set_option maxRecDepth 100000
namespace Mine
theorem fill_F15 : 0 = 0 ∧ 0 = 0 := by
  try walk1
  w_top off
  all_goals first | rfl | exact ⟨rfl, rfl⟩
local macro_rules | `(tactic| walk_at "noloop") => `(tactic| first
  | ((fail_if_success (fail_if_success (with_reducible show wpAny _ _ (execs _ _) _ _ _))); fail_if_success ((with_reducible refine st_execs ?_ ?_); (focus rfl)))
  | ((fail_if_success (fail_if_success (with_reducible show wpAny _ _ (exec _ _) _ _ _))); fail_if_success ((with_reducible refine st_exec ?_ ?_); (focus rfl)))
  | ((fail_if_success (with_reducible show wpAny _ _ (execs _ _) _ _ _)); (fail_if_success (with_reducible show wpAny _ _ (exec _ _) _ _ _)); (fail_if_success (with_reducible show wpAny _ _ (eval (Expr.ListComp _ _ _ _) _) _ _ _)); (fail_if_success (with_reducible show wpAny _ _ (pyIter _) _ _ _)); (fail_if_success (with_reducible show wpAny _ _ (truthy (Value.str (tx _) _)) _ _ _))))
local macro_rules | `(tactic| walk_at "go") => `(tactic| repeat' (first
  | (k_unfold; (try dsimp only))
  | (walk_at "noloop"; walk1)
  | (dsimp only; walk_at "noloop"; walk1)))
local macro_rules | `(tactic| walk_at "look") => `(tactic| ((try dsimp only); repeat' (first | exact List.forall_mem_nil _ | (refine List.forall_mem_cons.mpr ⟨by with_unfolding_all rfl, ?_⟩))))
local macro_rules | `(tactic| walk_at "ix") => `(tactic| first | omega | (simp only [List.length_take, List.length_drop] at *; omega))
local macro_rules | `(tactic| walk_at "subscriptTail Name Name str int") => `(tactic| ((with_reducible show wpAny _ _ (subscriptTail _ _ (Value.str (tx _) _) (Value.int _ _)) _ _ _); refine r_item (by walk_at "ix") (by walk_at "ix") (by walk_at "ix") ?_))
local macro_rules | `(tactic| walk_at "subscriptTail Name BinOp str int") => `(tactic| ((with_reducible show wpAny _ _ (subscriptTail _ _ (Value.str (tx _) _) (Value.int _ _)) _ _ _); refine r_item (by walk_at "ix") (by walk_at "ix") (by walk_at "ix") ?_))
local macro_rules | `(tactic| walk_at "compareOp In str str") => `(tactic| ((with_reducible show wpAny _ _ (compareOp _ (Value.str (tx _) _) (Value.str _ _)) _ _ _); refine r_in ?_))
local macro_rules | `(tactic| walk_at "compareOp NotIn str str") => `(tactic| ((with_reducible show wpAny _ _ (compareOp _ (Value.str (tx _) _) (Value.str _ _)) _ _ _); refine r_notin ?_))
local macro_rules | `(tactic| walk_at "compareOp Eq str str") => `(tactic| ((with_reducible show wpAny _ _ (compareOp _ (Value.str (tx _) _) (Value.str _ _)) _ _ _); refine r_eq ?_))
local macro_rules | `(tactic| walk_at "compareOp NotEq str str") => `(tactic| ((with_reducible show wpAny _ _ (compareOp _ (Value.str (tx _) _) (Value.str _ _)) _ _ _); refine r_ne ?_))
local macro_rules | `(tactic| walk_at "call builtin:ord") => `(tactic| ((with_reducible show wpAny _ _ (call _ [Value.str (tx _) _]) _ _ _); refine r_ord ?_))
local macro_rules | `(tactic| walk_at "call builtin:len") => `(tactic| ((with_reducible show wpAny _ _ (call _ [Value.str (tx _) _]) _ _ _); refine r_len (by walk_at "ix") ?_))
local macro_rules | `(tactic| walk_at "compareOp In str str") => `(tactic| ((with_reducible show wpAny _ _ (compareOp _ (Value.str (tx _) _) (Value.str _ _)) _ _ _); first | refine r_in2 isWs H_ws ?_ | refine r_in2 isBl H_bl ?_ | refine r_in2 isNl H_nl ?_ | refine r_in2 isBad H_bad ?_ | refine r_in2 isPu H_pu ?_))
local macro_rules | `(tactic| walk_at "compareOp NotIn str str") => `(tactic| ((with_reducible show wpAny _ _ (compareOp _ (Value.str (tx _) _) (Value.str _ _)) _ _ _); first | refine r_notin2 isWs H_ws ?_ | refine r_notin2 isPu H_pu ?_))
local macro_rules | `(tactic| walk_at "compareOp Eq str str") => `(tactic| ((with_reducible show wpAny _ _ (compareOp _ (Value.str (tx _) _) (Value.str _ _)) _ _ _); first | refine r_eq1 L_lt ?_ | refine r_eq1 L_gt ?_ | refine r_eq1 L_bs ?_ | refine r_eq1 L_lp ?_ | refine r_eq1 L_rp ?_ | refine r_eq1 L_del ?_ | refine r_eq1 L_nul ?_ | refine r_eq1 L_n ?_ | refine r_eq1 L_r ?_))
local macro_rules | `(tactic| walk_at "compareOp NotEq str str") => `(tactic| ((with_reducible show wpAny _ _ (compareOp _ (Value.str (tx _) _) (Value.str _ _)) _ _ _); first | refine r_ne1 L_rp ?_))
local macro_rules | `(tactic| walk_at "subscriptTail Name Slice str ref") => `(tactic| ((with_reducible show wpAny _ _ (subscriptTail _ (Expr.Slice (some _) (some _) none _) (Value.str (tx _) _) _) _ _ _); (with_reducible rename Fr _ _ _ _ => F'); (with_reducible rename News _ _ _ _ => N'); (refine r_slice (s := ⟨_, _, _, _, _⟩) (by walk_at "ix") (by walk_at "ix") (by walk_at "ix") F' N' ?_); intro _ _ _ _ _))
local macro_rules | `(tactic| walk_at "compareOp Eq str str") => `(tactic| ((with_reducible show wpAny _ _ (compareOp _ (Value.str (tx _) _) (Value.str _ _)) _ _ _); refine r_eqL L_rn ?_))
local macro_rules | `(tactic| walk_at "fact") => `(tactic| first | assumption | exact beq_iff_eq.mp (by assumption) | exact beq_eq_false_iff_ne.mp (by assumption) | omega)
local macro_rules | `(tactic| walk_at "noesc") => `(tactic| (rintro ⟨e1, e2, e3⟩; first | exact absurd e1 (beq_eq_false_iff_ne.mp (by assumption)) | exact Bool.noConfusion (Eq.trans (Eq.symm (show isPu _ = false from by assumption)) e3) | exact absurd (Eq.trans (Eq.symm e1) (beq_iff_eq.mp (show (List.getD _ _ _ == _) = true from by assumption))) (by decide) | omega))
local macro_rules | `(tactic| walk_at "cx") => `(tactic| exact ⟨by k_asm, by k_asm, by k_asm, by k_asm, by k_asm, rfl, rfl, rfl, rfl, (by (show _ + _ < _); omega), (by (show _ + 8 * _ < _); omega)⟩)
local macro_rules | `(tactic| walk_at "call ref") => `(tactic| ((with_reducible show wpAny _ _ (call (Value.ref 137) _ _) _ _ _); refine c_begin _ _ _ _ (by walk_at "cx") (by omega) ?_; intro t9 h9 k9 F9 N9; (try dsimp only)))
local macro_rules | `(tactic| walk_at "call ref") => `(tactic| ((with_reducible show wpAny _ _ (call (Value.ref 144) _ _) _ _ _); refine c_angle _ _ _ _ (by walk_at "cx") (by omega) (by omega) ?_ ?_; (all_goals intros); (all_goals (try dsimp only))))
local macro_rules | `(tactic| walk_at "call builtin:min") => `(tactic| ((with_reducible show wpAny _ _ (call (Value.builtin _) [Value.int _ _, Value.int _ _]) _ _ _); refine r_min (by omega) rfl (by assumption) (by assumption) ?_; intro h9 t9 k9 F9 N9))
local macro_rules | `(tactic| walk_at "retx") => `(tactic| (dsimp only; refine hret' _ _ _ _ _ _ (by assumption) (by assumption) fun F2 N2 => ?_))
local macro_rules | `(tactic| walk_at "upd") => `(tactic| first | exact Upd.head (by assumption) | (refine' Upd.tail ?a ?b; (case a => k_ne); (case b => walk_at "upd")))
local macro_rules | `(tactic| walk_at "sz") => `(tactic| ((try simp only [List.size_toArray, PySem.sizeLine_eq]); omega))
local macro_rules | `(tactic| walk_at "call builtin:list.append") => `(tactic| (k_here; (with_reducible show wpAny _ _ (call (Value.builtin _) [Value.ref _, _]) _ _ _); (refine' append_K ?k1 ?k2 ?k3 ?_ ?z; (case k1 => k_asm); (case k2 => k_asm); (case k3 => walk_at "upd"); (case z => walk_at "sz"); k_whole); intro h' F' N'; (try simp only [List.push_toArray] at N'); (try k_sweep)))
local macro_rules | `(tactic| walk_at "call ref") => `(tactic| ((with_reducible show wpAny _ _ (call (Value.ref 192) _ _) _ _ _); refine c_lbegin _ _ _ _ (by walk_at "cx") (by omega) ?_; intro t9 h9 k9 F9 N9; (try dsimp only)))
local macro_rules | `(tactic| walk_at "call ref") => `(tactic| ((with_reducible show wpAny _ _ (call (Value.ref 166) _ _) _ _ _); refine c_units _ _ _ _ _ _ (by walk_at "cx") (by walk_at "ix") (by walk_at "ix") ?_; intro a9 n9 vs9 tl9 h9 k9 U9 F9 N9 d9; (try dsimp only)))
local macro_rules | `(tactic| walk_at "subscriptTail Name Constant ref int") => `(tactic| ((with_reducible show wpAny _ _ (subscriptTail _ _ (Value.ref _) (Value.int _ _)) _ _ _); (with_unfolding_all refine' item_litK ?k1 ?k2 ?k3 ?k4 ?_ ?k6; (case k1 => exact News.isList (by k_asm) (by first | k_mem | walk_at "mem")); (case k2 => decide); (case k3 => decide); (case k4 => rfl); (case k6 => with_unfolding_all rfl); k_whole)))
local macro_rules | `(tactic| walk_at "offx") => `(tactic| (intro _; repeat' (first | exact List.forall_mem_nil _ | (refine List.forall_mem_cons.mpr ⟨by (show Str.ofString _ ≠ Str.ofString _); decide, ?_⟩))))
local macro_rules | `(tactic| walk_at "sub") => `(tactic| (intro q hq; (try simp only [List.cons_append, List.append_assoc, List.mem_cons, List.mem_append, List.not_mem_nil, or_false, or_assoc] at hq ⊢); (repeat' (first | exact hq | (refine Or.elim hq (fun hq => ?_) (fun hq => ?_)) | exact Or.inl hq | (refine Or.inr ?_)))))
local macro_rules | `(tactic| walk_at "mem") => `(tactic| first | assumption | exact List.mem_cons_self | (refine List.mem_cons_of_mem _ ?_; walk_at "mem") | (refine List.mem_append_left _ ?_; walk_at "mem") | (refine List.mem_append_right _ ?_; walk_at "mem"))
local macro_rules | `(tactic| walk_at "subscriptTail Name Name ref int") => `(tactic| ((with_reducible show wpAny _ _ (subscriptTail _ _ (Value.ref _) (Value.int _ _)) _ _ _); (with_unfolding_all refine' r_unit ?k1 ?k2 ?k3 ?k4 ?k5 ?k6 ?_ ?k7; (case k1 => k_asm); (case k2 => walk_at "mem"); (case k3 => assumption); (case k4 => omega); (case k5 => omega); (case k6 => omega); (case k7 => with_unfolding_all rfl)); intro a8 t8 t7 n8 m8))
local macro_rules | `(tactic| walk_at "subscriptTail Subscript") => `(tactic| with_reducible refine r_turn ?_)
local macro_rules | `(tactic| walk_at "compareOp Eq str str") => `(tactic| ((with_reducible show wpAny _ _ (compareOp _ (Value.str (tx _) _) (Value.str (tx _) _)) _ _ _); refine r_eqT ?_))
local macro_rules | `(tactic| walk_at "compareOp NotEq str str") => `(tactic| ((with_reducible show wpAny _ _ (compareOp _ (Value.str (tx _) _) (Value.str (tx _) _)) _ _ _); refine r_neT ?_))
local macro_rules | `(tactic| walk_at "compareOp NotIn str str") => `(tactic| ((with_reducible show wpAny _ _ (compareOp _ (Value.str (tx _) _) (Value.str _ _)) _ _ _); refine r_notin2 isOp H_open ?_))
local macro_rules | `(tactic| walk_at "eval Constant str") => `(tactic| with_reducible (first | refine r_const E_rp ?_ | refine r_const E_nil ?_))
local macro_rules | `(tactic| walk_at "binaryOp Add str str") => `(tactic| ((with_reducible show wpAny _ _ (binaryOp _ (Value.str (tx _) _) (Value.str (tx _) _)) _ _ _); refine r_cat (by first | omega | (simp only [List.length_append, List.length_cons, List.length_nil]; omega)) ?_; intro t9 k9))
local macro_rules | `(tactic| walk_at "call builtin:len") => `(tactic| ((with_reducible show wpAny _ _ (call (Value.builtin "len") [Value.ref _]) _ _ _); refine r_lenU (by k_asm) (by walk_at "mem") (by assumption) (by omega) ?_; intro t9 k9))
local macro_rules | `(tactic| walk_at "eval Name") => `(tactic| first
  | ((with_reducible refine' ld ?k1 ?k2 ?_ ?k3 ?k4 ?k5); (case k4 => kernel_rfl!); (case k1 => k_asm); (case k2 => k_dflt (exact rfl)); (case k3 => k_dflt (exact rfl)); (case k5 => decide); k_whole)
  | ((with_reducible refine' name_K ?k0 ?k1 ?k2 ?k3 ?_ ?k4 ?k5 ?k6); (case k5 => kernel_rfl!); (case k0 => k_asm); (case k1 => k_asm); (case k2 => k_asm); (case k3 => k_dflt k_is); (case k4 => k_dflt (exact rfl)); (case k6 => decide); k_whole))
local macro_rules | `(tactic| walk_at "ite") => `(tactic| first | with_reducible refine ite_tt ?_ | with_reducible refine ite_ff ?_ | with_reducible refine ite_True_then ?_ | with_reducible refine ite_False_else ?_ | (k_openite; first | refine ite_pos (by with_reducible assumption) ?_ | refine ite_neg (by with_reducible assumption) ?_ | refine ite_isFalse (by with_reducible assumption) ?_ | (with_reducible refine split_ine ?_ ?_ <;> intro _) | (with_reducible refine split_ieq ?_ ?_ <;> intro _) | with_reducible refine split_not ?_ | (refine split_dec ?_ ?_ <;> intro _) | (refine split_bool ?_ ?_ <;> intro _)))
local macro_rules | `(tactic| walk_at "callWith ref") => `(tactic| first
  | ((with_reducible refine' callWith_K ?k1 ?k2 ?_ ?k3 ?k4); (case k1 => k_asm); (case k2 => k_dflt k_is); (case k3 => k_dflt (exact rfl)); (case k4 => k_dflt (exact rfl)); k_whole)
  | ((with_reducible refine' callWith_K0 ?k1 ?k2 ?_); (case k1 => k_dflt k_in); (case k2 => k_dflt k_is); k_whole)
  | ((with_reducible refine' callWith_KW ?k1 ?k2 ?k3 ?_ ?k4 ?k5); (case k1 => k_asm); (case k2 => k_dflt k_is); (case k3 => k_dflt (exact rfl)); (case k4 => k_dflt (exact rfl)); (case k5 => k_dflt (exact rfl)); k_whole))
set_option maxHeartbeats 4000000 in
theorem c_parselink {w : World} {loose : List Str} {mean : ExcName → Option Value} {mg mb : Str → Option Value} {k dp un : Nat} {gd : Option (List Code)}
    {A₀ : Around} {env : Env} {outer : List Env} {base h₀ : Heap} {L : Addr} {m : Str → Option Value} {news : List (Addr × Obj)} {s : Shared}
    {E Q : Value → Shared → Prop} (l : List Nat) (start : Nat) (bound : Int) (t1 t2 t3 : Tok) (b : Option (Addr × Obj))
    (C : Cx w loose mean mg mb (k + 6) ⟨none, dp, some (env :: outer), gd, un⟩ A₀ env outer base h₀ L m (tabL b ++ news) s)
    (hl : l.length ≤ 1000) (ha : AlphT l) (CH : CodeHd base 80 76) (hb : tabG b) (hr : okR news)
    (hret1 : ∀ u tt n a d o ta b' h' tk', wholeS l start bound = (some (u, tt, n), n) → (d == sysModules) = false → DictIs w o (attrP u tt) → tabG b' → Fr h₀ L h' m → News h₀ L h' ((a, tupOf [.ref d, .int (n : Nat) ta]) :: (d, o) :: (tabL b' ++ news)) → Q (.ref a) { s with heap := h', toks := tk' })
    (hret2 : ∀ q a b' h' tk', wholeS l start bound = (none, q) → tabG b' → Fr h₀ L h' m → News h₀ L h' ((a, tupOf [.none, .none]) :: (tabL b' ++ news)) → Q (.ref a) { s with heap := h', toks := tk' }) :
    wpAny (model PySem.Challenge.pw_br5019_01 w) ⟨none, dp, some (env :: outer), gd, un⟩ (call (.ref 114) [.str (tx l) t1, .int start t2] [(Str.ofString "max_nested_level", .int bound t3)]) Q E s := by
  refine enter [(Str.ofString "src", .str (tx l) t1), (Str.ofString "pos", .int start t2), (Str.ofString "max_nested_level", .int bound t3)] C (by k_is) (by k_is) (by first | exact BindsTo.of_eq rfl | exact binds_K (C.X.keeps C.F.keep) rfl (by k_is) rfl rfl rfl) rfl rfl rfl (by decide) (locs rfl) ?_
  intro g L' h' tk Q' F' N' B' X' T' hd hu hret'
  walk_at "go"
  refine c_withend l start bound t1 t2 t3 b (by walk_at "cx") hl ha CH hb hr ?_ ?_
  · intro u tt n a d o ta tb b' h8 k8 hW hlo hD hb' F8 N8
    walk_at "go"
    refine hret' _ _ _ _ _ _ (by assumption) (by assumption) fun F2 N3 => ?_
    exact hret1 _ _ _ _ _ _ _ b' _ _ hW hlo hD hb' F2 (subN N3 (by walk_at "sub"))
  · intro q a tb b' h8 k8 hW hb' F8 N8
    walk_at "go"
    refine hret' _ _ _ _ _ _ (by assumption) (by assumption) fun F2 N3 => ?_
    exact hret2 _ _ b' _ _ hW hb' F2 (subN N3 (by walk_at "sub"))
set_option maxHeartbeats 4000000 in
theorem c_href2 {w : World} {loose : List Str} {mean : ExcName → Option Value} {mg mb : Str → Option Value} {k dp un : Nat} {gd : Option (List Code)}
    {A₀ : Around} {env : Env} {outer : List Env} {base h₀ : Heap} {L : Addr} {m : Str → Option Value} {news : List (Addr × Obj)} {s : Shared}
    {E Q : Value → Shared → Prop} (l : List Nat) (start : Nat) (block : Bool) (bound : Int) (t1 t2 t3 : Tok)
    (C : Cx w loose mean mg mb (k + 3) ⟨none, dp, some (env :: outer), gd, un⟩ A₀ env outer base h₀ L m news s)
    (hl : l.length ≤ 1000)
    (hret1 : ∀ hr q a ta tb h' tk', hrefS l start block bound = (some (hr, q), q) → Fr h₀ L h' m → News h₀ L h' ((a, tupOf [.str (tx hr) ta, .int (q : Nat) tb]) :: news) → Q (.ref a) { s with heap := h', toks := tk' })
    (hret2 : ∀ q a h' tk', hrefS l start block bound = (none, q) → Fr h₀ L h' m → News h₀ L h' ((a, tupOf [.none, .none]) :: news) → Q (.ref a) { s with heap := h', toks := tk' }) :
    wpAny (model PySem.Challenge.pw_br5019_01 w) ⟨none, dp, some (env :: outer), gd, un⟩ (call (.ref 90) [.str (tx l) t1, .int start t2, .bool block] [(Str.ofString "max_nested_level", .int bound t3)]) Q E s := by
  refine enter [(Str.ofString "src", .str (tx l) t1), (Str.ofString "start_pos", .int start t2), (Str.ofString "block", .bool block), (Str.ofString "max_nested_level", .int bound t3)] C (by k_is) (by k_is) (by first | exact BindsTo.of_eq rfl | exact binds_K (C.X.keeps C.F.keep) rfl (by k_is) rfl rfl rfl) rfl rfl rfl (by decide) (locs rfl) ?_
  intro g L' h' tk Q' F' N' B' X' T' hd hu hret'
  walk_at "go"
  refine c_phref l start block bound t1 t2 t3 [.str (tx l) t1, .int start t2] [(Str.ofString "block", .bool block), (Str.ofString "max_nested_level", .int bound t3)] (by walk_at "cx") (bindsAt (by k_is) (by first | exact BindsTo.of_eq rfl | exact binds_K (X'.keeps F'.keep) rfl (by k_is) rfl rfl rfl)) hl ?_ ?_
  · intro hr9 q a3 ta1 tb1 h9 k9 hH F9 N9
    walk_at "go"
    refine hret' _ _ _ _ _ _ (by assumption) (by assumption) fun F2 N3 => ?_
    exact hret1 _ _ _ _ _ _ _ hH F2 (subN N3 (by walk_at "sub"))
  · intro q a3 tb1 h9 k9 hH F9 N9
    walk_at "go"
    refine hret' _ _ _ _ _ _ (by assumption) (by assumption) fun F2 N3 => ?_
    exact hret2 _ _ _ _ hH F2 (subN N3 (by walk_at "sub"))

end Mine
end
noncomputable section
open Lean PySem PySem.W PySem.Spec PySem.Calls PyProof.Rows
set_option maxRecDepth 100000
namespace Mine
/-- a list object with these items -/
def LO (o : Obj) (items : Array Value) : Prop := o.cls = .type "list" ∧ ∃ n, o.data = .seq items n
theorem LO.of (items : Array Value) (n : Nat) : LO (listOf items n) items := ⟨rfl, n, rfl⟩
theorem LO.isList {h₀ h : Heap} {L D : Addr} {news : List (Addr × Obj)} {o : Obj} {items : Array Value} (x : LO o items) (N : News h₀ L h news) (hm : (D, o) ∈ news) : h.IsList D items :=
  ⟨o, (N _ hm).1, x.1, x.2⟩
section
variable {prog : Program} {w : World} {A : Around} {E : Value → Shared → Prop} {s : Shared} {h₀ : Heap} {L D : Addr} {m : Str → Option Value} {news : List (Addr × Obj)}
theorem setLO {o : Obj} {items : Array Value} {k : Int} {t : Tok} {v : Value} {Q : Unit → Shared → Prop} (x : LO o items) (F : Fr h₀ L s.heap m) (N : News h₀ L s.heap ((D, o) :: news)) (hD : ∀ p ∈ news, p.1 ≠ D) (h0 : 0 ≤ k) (h1 : k < items.size) (h2 : items.size ≤ 10000)
    (h : ∀ h' o', Fr h₀ L h' m → News h₀ L h' ((D, o') :: news) → LO o' (items.setIfInBounds k.toNat v) → Q () { s with heap := h' }) : wpAny (model prog w) A (setItem (.ref D) (.int k t) v) Q E s := by
  have z := N _ (.head _)
  refine wpAny_setItem_list (x.isList N (.head _)) h0 (by omega) h1 fun h' hl hs => ?_
  obtain ⟨o', e, hc, hd⟩ := hl
  exact h h' o' (F.change hs z.2.1 z.2.2) (N.setHead hD hs e) ⟨hc, hd⟩
end
end Mine
namespace Mine
theorem fm0 {a b : Int} (h : 0 < b) : 0 ≤ a.fmod b := by
  rw [Int.fmod_eq_emod_of_nonneg _ (by omega)]; exact Int.emod_nonneg _ (by omega)
theorem fm1 {a b : Int} (h : 0 < b) : a.fmod b < b := by
  rw [Int.fmod_eq_emod_of_nonneg _ (by omega)]; exact Int.emod_lt_of_pos _ h
end Mine
namespace Mine
/-- a for over range(n) -/
theorem frR {σ : Type} {prog : Program} {w : World} {A : Around} {s : Shared} {env : Env} {h₀ : Heap} {E : Value → Shared → Prop} {Q : Flow → Shared → Prop} {x : Str} {body : List Stmt}
    {r : Addr} {b₀ : Int} {t₀ u₀ v₀ : Tok} {n : Nat} {m₀ : Str → Option Value} {news₀ : List (Addr × Obj)}
    (Led : σ → List (Addr × Obj)) (ps : σ → List (Str × Value)) (P : Nat → σ → Prop) (c₀ : σ)
    (hh : A.handled = none) (hx : ∀ c, ∀ p ∈ ps c, p.1 ≠ x)
    (hr : IsRange s.heap r 0 b₀ 1 t₀ u₀ v₀) (hsmall : Builtin.Range.small 0 b₀ 1 = true) (hrn : Builtin.Range.rangeSize 0 b₀ 1 = (n : Int))
    (F : Fr h₀ env.locals s.heap m₀) (N : News h₀ env.locals s.heap news₀) (hn : ∀ p ∈ Led c₀, p ∈ news₀) (hk : ∀ p ∈ ps c₀, m₀ p.1 = some p.2) (hp : P 0 c₀)
    (turn : ∀ (i : Nat) (k : Int) (t : Tok) (c : σ) (u : Str → Option Value) h tk own (Q' : Flow → Shared → Prop), i < n → TbOff own (Led c) → P i c →
      Fr h₀ env.locals h (kstB u ((x, .int k t) :: ps c)) → News h₀ env.locals h (Led c ++ own) →
      (∀ c' h' tk' m' news', Fr h₀ env.locals h' m' → News h₀ env.locals h' news' → (∀ p ∈ Led c', p ∈ news') → (∀ p ∈ own, p ∈ news') → TbOff own (Led c') → (∀ p ∈ ps c', m' p.1 = some p.2) → P (i + 1) c' →
        Q' .next { s with heap := h', toks := tk' } ∧ Q' .cont { s with heap := h', toks := tk' }) →
      wpAny (model prog w) A (execs body env) Q' (fun _ _ => False) { s with heap := h, toks := tk })
    (done : ∀ (c : σ) (u : Str → Option Value) h tk, P n c → Fr h₀ env.locals h (kstB u (ps c)) → News h₀ env.locals h (Led c) → Q .next { s with heap := h, toks := tk }) :
    wpAny (model prog w) A (pyIter (.ref r)) (fun it s₂ => LoopAtV prog w A h₀ env x body Q E it s₂) E s := by
  have hfr : ∀ {h : Heap} {m₁ : Str → Option Value} {l : List (Str × Value)}, (∀ p ∈ l, m₁ p.1 = some p.2) → Fr h₀ env.locals h m₁ → Fr h₀ env.locals h (kstB m₁ l) := by
    intro h m₁ l h1 F1
    have e : kstB m₁ l = m₁ := funext fun y => kstB_eq h1 fun _ => rfl
    rw [e]; exact F1
  refine tbr_invG (news := Led c₀) (fun i m nx => ∃ c : σ, nx = Led c ∧ (∀ p ∈ ps c, m p.1 = some p.2) ∧ P i c) hh hr hsmall hrn F (fun p hp => N p (hn p hp)) ⟨c₀, rfl, hk, hp⟩ ?_ ?_
  · rintro i k t m₁ nx h tk own hv hoff ⟨c, rfl, h1, hp'⟩ F₁ N₁
    refine wpAny_noRaise ?_
    refine wpAny_mono (turn i k t c (fun y => if y = x then some (.int k t) else m₁ y) h tk own
      (fun f s' => match f with
        | .next | .cont => ∃ c' h' tk' m' news', s' = { s with heap := h', toks := tk' } ∧ Fr h₀ env.locals h' m' ∧ News h₀ env.locals h' news' ∧ (∀ p ∈ Led c', p ∈ news') ∧ (∀ p ∈ own, p ∈ news') ∧ TbOff own (Led c') ∧ (∀ p ∈ ps c', m' p.1 = some p.2) ∧ P (i + 1) c'
        | _ => False) (by have := (List.getElem?_eq_some_iff.mp hv).1; simpa [rangeKs] using this) hoff hp' (hfr ?_ F₁) N₁ ?_) (fun f s' hq => ?_) fun _ _ x => x
    · intro p hp
      rcases List.mem_cons.mp hp with rfl | hp
      · simp
      · show (if p.1 = x then _ else m₁ p.1) = some p.2
        rw [if_neg (hx c p hp)]
        exact h1 p hp
    · intro c' h' tk' m' news' a1 a2 a3 a4 a5 a6 a7
      exact ⟨⟨c', h', tk', m', news', rfl, a1, a2, a3, a4, a5, a6, a7⟩, ⟨c', h', tk', m', news', rfl, a1, a2, a3, a4, a5, a6, a7⟩⟩
    · cases f with
      | ret v => exact hq.elim
      | brk => exact hq.elim
      | next =>
        obtain ⟨c', h', tk', m', news', e, a1, a2, a3, a4, a5, a6, a7⟩ := hq
        exact ⟨h', tk', m', news', Led c', e, a1, a2, a3, a4, a5, c', rfl, a6, a7⟩
      | cont =>
        obtain ⟨c', h', tk', m', news', e, a1, a2, a3, a4, a5, a6, a7⟩ := hq
        exact ⟨h', tk', m', news', Led c', e, a1, a2, a3, a4, a5, c', rfl, a6, a7⟩
  · rintro m₁ nx h tk ⟨c, rfl, h1, hp'⟩ F₁ N₁
    exact done c m₁ h tk hp' (hfr h1 F₁) N₁
end Mine
namespace Mine
/-- a short text of the law's signs -/
def PV (v : Value) : Prop := ∃ x t, v = .str (tx x) t ∧ x.length ≤ 3 ∧ AlphT x
theorem PV.of {y : Str} {t : Tok} (h1 : y.cps.toList.length ≤ 3) (h2 : AlphT y.cps.toList) : PV (.str y t) := ⟨_, _, by rw [← tx_of y], h1, h2⟩
def decAlph (l : List Nat) : Decidable (AlphT l) := inferInstanceAs (Decidable (∀ c ∈ l, (c < 128 ∧ c ≠ 38) ∨ c = 233))
def okStr (y : Str) : Bool := decide (y.cps.toList.length ≤ 3) && @decide (AlphT y.cps.toList) (decAlph _)
theorem PV.ofOk {y : Str} {t : Tok} (h : okStr y = true) : PV (.str y t) := by
  unfold okStr at h
  rw [Bool.and_eq_true] at h
  exact PV.of (of_decide_eq_true h.1) (@of_decide_eq_true _ (decAlph _) h.2)
noncomputable def allOk : List Value → Bool
  | [] => true
  | .str y _ :: r => okStr y && allOk r
  | _ => false
theorem PV.all : ∀ {l : List Value}, allOk l = true → ∀ v ∈ l, PV v
  | [], _, _, h => nomatch h
  | .str y t :: r, h, v, hv => by
    have h' : (okStr y && allOk r) = true := h
    rw [Bool.and_eq_true] at h'
    rcases List.mem_cons.mp hv with rfl | hv
    · exact PV.ofOk h'.1
    · exact PV.all h'.2 v hv
def pieceV : Array Value := #[.str (Str.ofString "a") 620, .str (Str.ofString "b") 621, .str (Str.ofString " ") 622, .str (Str.ofString "\t") 623, .str (Str.ofString "\n") 624, .str (Str.ofString "\x0d") 625,
  .str (Str.ofString "\x0d\n") 626, .str (Str.ofString "\x0c") 627, .str (Str.ofString "\x00") 628, .str (Str.ofString "\x01") 629, .str (Str.ofString "\x7f") 630, .str (Str.ofString "(") 631, .str (Str.ofString ")") 632,
  .str (Str.ofString "<") 633, .str (Str.ofString ">") 634, .str (Str.ofString "\"") 635, .str (Str.ofString "'") 636, .str (Str.ofString "\\") 637, .str (Str.ofString "\\)") 638, .str (Str.ofString "\\(") 639, .str (Str.ofString "\\\"") 640,
  .str (Str.ofString "\\<") 641, .str (Str.ofString "\\a") 642, .str (Str.ofString "\n\n") 643, .str (Str.ofString "\n \n") 644, .str (Str.ofString "é") 645, .str (Str.ofString "\\\\") 646]
theorem pieceV_ok : ∀ v ∈ pieceV.toList, PV v := PV.all (by decide +kernel)
theorem rowsAt {P : Params} {g h : Heap} {L R : Addr} {m : Str → Option Value} {news led : List (Addr × Obj)} {items : Array Value}
    (hR : (∃ oR, (hd.heap_39 P).lookup R = some oR ∧ LO oR items) ∨ (∃ oR, (R, oR) ∈ news ∧ LO oR items)) (X : (hd.heap_39 P).In g) (F : Fr g L h m) (N : News g L h led) (hs : ∀ q ∈ news, q ∈ led) : h.IsList R items := by
  rcases hR with ⟨oR, e, x⟩ | ⟨oR, e, x⟩
  · exact ⟨oR, F.keep _ _ (X _ _ e), x.1, x.2⟩
  · exact x.isList N (hs _ e)
end Mine

namespace Mine
theorem AlphT.app {a b : List Nat} (ha : AlphT a) (hb : AlphT b) : AlphT (a ++ b) := fun c hc => (List.mem_append.mp hc).elim (ha c) (hb c)
theorem tbOff2 {own news : List (Addr × Obj)} {B P : Addr} {o o' q q' : Obj} (h : TbOff own ((B, o) :: (P, q) :: news)) : TbOff own ((B, o') :: (P, q') :: news) := by
  intro p hp z hz
  rcases List.mem_cons.mp hz with rfl | hz
  · exact h p hp (B, o) (.head _)
  · rcases List.mem_cons.mp hz with rfl | hz
    · exact h p hp (P, q) (.tail _ (.head _))
    · exact h p hp z (.tail _ (.tail _ hz))
theorem E_a : Str.ofString "a" = tx [97] := by decide +kernel
theorem E_q1 : Str.ofString " \"" = tx [32, 34] := by decide +kernel
theorem E_q2 : Str.ofString "\")" = tx [34, 41] := by decide +kernel
theorem E_lt : Str.ofString "<" = tx [60] := by decide +kernel
theorem E_gt : Str.ofString ">\n'" = tx [62, 10, 39] := by decide +kernel
theorem E_q3 : Str.ofString "' )" = tx [39, 32, 41] := by decide +kernel
theorem E_tp : Str.ofString "\t(" = tx [9, 40] := by decide +kernel
theorem E_rr : Str.ofString "))" = tx [41, 41] := by decide +kernel
end Mine
namespace Mine
theorem allLt_mem {d : Nat} : ∀ {l : List (Addr × Obj)}, AllLt d l → ∀ q ∈ l, q.1 < d
  | [], _, _, h => nomatch h
  | p :: r, h, q, hq => by
    rcases List.mem_cons.mp hq with rfl | hq
    · exact h.1
    · exact allLt_mem h.2 q hq
theorem swapM {α : Type} {a b : α} {r : List α} : ∀ q ∈ a :: b :: r, q ∈ b :: a :: r := fun q hq => by
  rcases List.mem_cons.mp hq with rfl | hq
  · exact .tail _ (.head _)
  · rcases List.mem_cons.mp hq with rfl | hq
    · exact .head _
    · exact .tail _ (.tail _ hq)
end Mine
namespace Mine
theorem range15 : ∀ j < 15, Builtin.Range.small 0 ((j : Nat) : Int) 1 = true ∧ Builtin.Range.rangeSize 0 ((j : Nat) : Int) 1 = ((j : Nat) : Int) := by decide
theorem AlphT.nil : AlphT [] := fun _ h => nomatch h
end Mine
namespace Mine
theorem int4 {a b c d : Int} {t1 t2 t3 t4 : Tok} {r : Int} (h0 : 0 ≤ r) (h1 : r < 4) : ∃ bd tb, ([.int a t1, .int b t2, .int c t3, .int d t4] : List Value)[r.toNat]? = some (.int bd tb) := by
  have : r = 0 ∨ r = 1 ∨ r = 2 ∨ r = 3 := by omega
  rcases this with rfl | rfl | rfl | rfl
  · exact ⟨_, _, rfl⟩
  · exact ⟨_, _, rfl⟩
  · exact ⟨_, _, rfl⟩
  · exact ⟨_, _, rfl⟩
end Mine
end
noncomputable section
open Lean PySem PySem.W PySem.Spec PySem.Calls PyProof.Rows
set_option maxRecDepth 100000
namespace Mine
theorem fill_F16 : 0 = 0 ∧ 0 = 0 := by
  try walk1
  w_top off
  all_goals first | rfl | exact ⟨rfl, rfl⟩
local macro_rules | `(tactic| walk_at "noloop") => `(tactic| first
  | ((fail_if_success (fail_if_success (with_reducible show wpAny _ _ (execs _ _) _ _ _))); fail_if_success ((with_reducible refine st_execs ?_ ?_); (focus rfl)))
  | ((fail_if_success (fail_if_success (with_reducible show wpAny _ _ (exec _ _) _ _ _))); fail_if_success ((with_reducible refine st_exec ?_ ?_); (focus rfl)))
  | ((fail_if_success (with_reducible show wpAny _ _ (execs _ _) _ _ _)); (fail_if_success (with_reducible show wpAny _ _ (exec _ _) _ _ _)); (fail_if_success (with_reducible show wpAny _ _ (eval (Expr.ListComp _ _ _ _) _) _ _ _)); (fail_if_success (with_reducible show wpAny _ _ (pyIter _) _ _ _)); (fail_if_success (with_reducible show wpAny _ _ (truthy (Value.str (tx _) _)) _ _ _))))
local macro_rules | `(tactic| walk_at "go") => `(tactic| repeat' (first
  | (k_unfold; (try dsimp only))
  | (walk_at "noloop"; walk1)
  | (dsimp only; walk_at "noloop"; walk1)))
local macro_rules | `(tactic| walk_at "look") => `(tactic| ((try dsimp only); repeat' (first | exact List.forall_mem_nil _ | (refine List.forall_mem_cons.mpr ⟨by with_unfolding_all rfl, ?_⟩))))
local macro_rules | `(tactic| walk_at "ix") => `(tactic| first | omega | (simp only [List.length_take, List.length_drop] at *; omega))
local macro_rules | `(tactic| walk_at "subscriptTail Name Name str int") => `(tactic| ((with_reducible show wpAny _ _ (subscriptTail _ _ (Value.str (tx _) _) (Value.int _ _)) _ _ _); refine r_item (by walk_at "ix") (by walk_at "ix") (by walk_at "ix") ?_))
local macro_rules | `(tactic| walk_at "subscriptTail Name BinOp str int") => `(tactic| ((with_reducible show wpAny _ _ (subscriptTail _ _ (Value.str (tx _) _) (Value.int _ _)) _ _ _); refine r_item (by walk_at "ix") (by walk_at "ix") (by walk_at "ix") ?_))
local macro_rules | `(tactic| walk_at "compareOp In str str") => `(tactic| ((with_reducible show wpAny _ _ (compareOp _ (Value.str (tx _) _) (Value.str _ _)) _ _ _); refine r_in ?_))
local macro_rules | `(tactic| walk_at "compareOp NotIn str str") => `(tactic| ((with_reducible show wpAny _ _ (compareOp _ (Value.str (tx _) _) (Value.str _ _)) _ _ _); refine r_notin ?_))
local macro_rules | `(tactic| walk_at "compareOp Eq str str") => `(tactic| ((with_reducible show wpAny _ _ (compareOp _ (Value.str (tx _) _) (Value.str _ _)) _ _ _); refine r_eq ?_))
local macro_rules | `(tactic| walk_at "compareOp NotEq str str") => `(tactic| ((with_reducible show wpAny _ _ (compareOp _ (Value.str (tx _) _) (Value.str _ _)) _ _ _); refine r_ne ?_))
local macro_rules | `(tactic| walk_at "call builtin:ord") => `(tactic| ((with_reducible show wpAny _ _ (call _ [Value.str (tx _) _]) _ _ _); refine r_ord ?_))
local macro_rules | `(tactic| walk_at "call builtin:len") => `(tactic| ((with_reducible show wpAny _ _ (call _ [Value.str (tx _) _]) _ _ _); refine r_len (by walk_at "ix") ?_))
local macro_rules | `(tactic| walk_at "compareOp In str str") => `(tactic| ((with_reducible show wpAny _ _ (compareOp _ (Value.str (tx _) _) (Value.str _ _)) _ _ _); first | refine r_in2 isWs H_ws ?_ | refine r_in2 isBl H_bl ?_ | refine r_in2 isNl H_nl ?_ | refine r_in2 isBad H_bad ?_ | refine r_in2 isPu H_pu ?_))
local macro_rules | `(tactic| walk_at "compareOp NotIn str str") => `(tactic| ((with_reducible show wpAny _ _ (compareOp _ (Value.str (tx _) _) (Value.str _ _)) _ _ _); first | refine r_notin2 isWs H_ws ?_ | refine r_notin2 isPu H_pu ?_))
local macro_rules | `(tactic| walk_at "compareOp Eq str str") => `(tactic| ((with_reducible show wpAny _ _ (compareOp _ (Value.str (tx _) _) (Value.str _ _)) _ _ _); first | refine r_eq1 L_lt ?_ | refine r_eq1 L_gt ?_ | refine r_eq1 L_bs ?_ | refine r_eq1 L_lp ?_ | refine r_eq1 L_rp ?_ | refine r_eq1 L_del ?_ | refine r_eq1 L_nul ?_ | refine r_eq1 L_n ?_ | refine r_eq1 L_r ?_))
local macro_rules | `(tactic| walk_at "compareOp NotEq str str") => `(tactic| ((with_reducible show wpAny _ _ (compareOp _ (Value.str (tx _) _) (Value.str _ _)) _ _ _); first | refine r_ne1 L_rp ?_))
local macro_rules | `(tactic| walk_at "subscriptTail Name Slice str ref") => `(tactic| ((with_reducible show wpAny _ _ (subscriptTail _ (Expr.Slice (some _) (some _) none _) (Value.str (tx _) _) _) _ _ _); (with_reducible rename Fr _ _ _ _ => F'); (with_reducible rename News _ _ _ _ => N'); (refine r_slice (s := ⟨_, _, _, _, _⟩) (by walk_at "ix") (by walk_at "ix") (by walk_at "ix") F' N' ?_); intro _ _ _ _ _))
local macro_rules | `(tactic| walk_at "compareOp Eq str str") => `(tactic| ((with_reducible show wpAny _ _ (compareOp _ (Value.str (tx _) _) (Value.str _ _)) _ _ _); refine r_eqL L_rn ?_))
local macro_rules | `(tactic| walk_at "fact") => `(tactic| first | assumption | exact beq_iff_eq.mp (by assumption) | exact beq_eq_false_iff_ne.mp (by assumption) | omega)
local macro_rules | `(tactic| walk_at "noesc") => `(tactic| (rintro ⟨e1, e2, e3⟩; first | exact absurd e1 (beq_eq_false_iff_ne.mp (by assumption)) | exact Bool.noConfusion (Eq.trans (Eq.symm (show isPu _ = false from by assumption)) e3) | exact absurd (Eq.trans (Eq.symm e1) (beq_iff_eq.mp (show (List.getD _ _ _ == _) = true from by assumption))) (by decide) | omega))
local macro_rules | `(tactic| walk_at "cx") => `(tactic| exact ⟨by k_asm, by k_asm, by k_asm, by k_asm, by k_asm, rfl, rfl, rfl, rfl, (by (show _ + _ < _); omega), (by (show _ + 8 * _ < _); omega)⟩)
local macro_rules | `(tactic| walk_at "call ref") => `(tactic| ((with_reducible show wpAny _ _ (call (Value.ref 137) _ _) _ _ _); refine c_begin _ _ _ _ (by walk_at "cx") (by omega) ?_; intro t9 h9 k9 F9 N9; (try dsimp only)))
local macro_rules | `(tactic| walk_at "call ref") => `(tactic| ((with_reducible show wpAny _ _ (call (Value.ref 144) _ _) _ _ _); refine c_angle _ _ _ _ (by walk_at "cx") (by omega) (by omega) ?_ ?_; (all_goals intros); (all_goals (try dsimp only))))
local macro_rules | `(tactic| walk_at "call builtin:min") => `(tactic| ((with_reducible show wpAny _ _ (call (Value.builtin _) [Value.int _ _, Value.int _ _]) _ _ _); refine r_min (by omega) rfl (by assumption) (by assumption) ?_; intro h9 t9 k9 F9 N9))
local macro_rules | `(tactic| walk_at "retx") => `(tactic| (dsimp only; refine hret' _ _ _ _ _ _ (by assumption) (by assumption) fun F2 N2 => ?_))
local macro_rules | `(tactic| walk_at "upd") => `(tactic| first | exact Upd.head (by assumption) | (refine' Upd.tail ?a ?b; (case a => k_ne); (case b => walk_at "upd")))
local macro_rules | `(tactic| walk_at "sz") => `(tactic| ((try simp only [List.size_toArray, PySem.sizeLine_eq]); omega))
local macro_rules | `(tactic| walk_at "call builtin:list.append") => `(tactic| (k_here; (with_reducible show wpAny _ _ (call (Value.builtin _) [Value.ref _, _]) _ _ _); (refine' append_K ?k1 ?k2 ?k3 ?_ ?z; (case k1 => k_asm); (case k2 => k_asm); (case k3 => walk_at "upd"); (case z => walk_at "sz"); k_whole); intro h' F' N'; (try simp only [List.push_toArray] at N'); (try k_sweep)))
local macro_rules | `(tactic| walk_at "call ref") => `(tactic| ((with_reducible show wpAny _ _ (call (Value.ref 192) _ _) _ _ _); refine c_lbegin _ _ _ _ (by walk_at "cx") (by omega) ?_; intro t9 h9 k9 F9 N9; (try dsimp only)))
local macro_rules | `(tactic| walk_at "call ref") => `(tactic| ((with_reducible show wpAny _ _ (call (Value.ref 166) _ _) _ _ _); refine c_units _ _ _ _ _ _ (by walk_at "cx") (by walk_at "ix") (by walk_at "ix") ?_; intro a9 n9 vs9 tl9 h9 k9 U9 F9 N9 d9; (try dsimp only)))
local macro_rules | `(tactic| walk_at "subscriptTail Name Constant ref int") => `(tactic| ((with_reducible show wpAny _ _ (subscriptTail _ _ (Value.ref _) (Value.int _ _)) _ _ _); (with_unfolding_all refine' item_litK ?k1 ?k2 ?k3 ?k4 ?_ ?k6; (case k1 => exact News.isList (by k_asm) (by first | k_mem | walk_at "mem")); (case k2 => decide); (case k3 => decide); (case k4 => rfl); (case k6 => with_unfolding_all rfl); k_whole)))
local macro_rules | `(tactic| walk_at "offx") => `(tactic| (intro _; repeat' (first | exact List.forall_mem_nil _ | (refine List.forall_mem_cons.mpr ⟨by (show Str.ofString _ ≠ Str.ofString _); decide, ?_⟩))))
local macro_rules | `(tactic| walk_at "sub") => `(tactic| (intro q hq; (try simp only [List.cons_append, List.append_assoc, List.mem_cons, List.mem_append, List.not_mem_nil, or_false, or_assoc] at hq ⊢); (repeat' (first | exact hq | (refine Or.elim hq (fun hq => ?_) (fun hq => ?_)) | exact Or.inl hq | (refine Or.inr ?_)))))
local macro_rules | `(tactic| walk_at "mem") => `(tactic| first | assumption | exact List.mem_cons_self | (refine List.mem_cons_of_mem _ ?_; walk_at "mem") | (refine List.mem_append_left _ ?_; walk_at "mem") | (refine List.mem_append_right _ ?_; walk_at "mem"))
local macro_rules | `(tactic| walk_at "subscriptTail Name Name ref int") => `(tactic| ((with_reducible show wpAny _ _ (subscriptTail _ _ (Value.ref _) (Value.int _ _)) _ _ _); (with_unfolding_all refine' r_unit ?k1 ?k2 ?k3 ?k4 ?k5 ?k6 ?_ ?k7; (case k1 => k_asm); (case k2 => walk_at "mem"); (case k3 => assumption); (case k4 => omega); (case k5 => omega); (case k6 => omega); (case k7 => with_unfolding_all rfl)); intro a8 t8 t7 n8 m8))
local macro_rules | `(tactic| walk_at "subscriptTail Subscript") => `(tactic| with_reducible refine r_turn ?_)
local macro_rules | `(tactic| walk_at "compareOp Eq str str") => `(tactic| ((with_reducible show wpAny _ _ (compareOp _ (Value.str (tx _) _) (Value.str (tx _) _)) _ _ _); refine r_eqT ?_))
local macro_rules | `(tactic| walk_at "compareOp NotEq str str") => `(tactic| ((with_reducible show wpAny _ _ (compareOp _ (Value.str (tx _) _) (Value.str (tx _) _)) _ _ _); refine r_neT ?_))
local macro_rules | `(tactic| walk_at "compareOp NotIn str str") => `(tactic| ((with_reducible show wpAny _ _ (compareOp _ (Value.str (tx _) _) (Value.str _ _)) _ _ _); refine r_notin2 isOp H_open ?_))
local macro_rules | `(tactic| walk_at "eval Constant str") => `(tactic| with_reducible (first | refine r_const E_rp ?_ | refine r_const E_nil ?_))
local macro_rules | `(tactic| walk_at "binaryOp Add str str") => `(tactic| ((with_reducible show wpAny _ _ (binaryOp _ (Value.str (tx _) _) (Value.str (tx _) _)) _ _ _); refine r_cat (by first | omega | (simp only [List.length_append, List.length_cons, List.length_nil]; omega)) ?_; intro t9 k9))
local macro_rules | `(tactic| walk_at "call builtin:len") => `(tactic| ((with_reducible show wpAny _ _ (call (Value.builtin "len") [Value.ref _]) _ _ _); refine r_lenU (by k_asm) (by walk_at "mem") (by assumption) (by omega) ?_; intro t9 k9))
local macro_rules | `(tactic| walk_at "eval Name") => `(tactic| first
  | ((with_reducible refine' ld ?k1 ?k2 ?_ ?k3 ?k4 ?k5); (case k4 => kernel_rfl!); (case k1 => k_asm); (case k2 => k_dflt (exact rfl)); (case k3 => k_dflt (exact rfl)); (case k5 => decide); k_whole)
  | ((with_reducible refine' name_K ?k0 ?k1 ?k2 ?k3 ?_ ?k4 ?k5 ?k6); (case k5 => kernel_rfl!); (case k0 => k_asm); (case k1 => k_asm); (case k2 => k_asm); (case k3 => k_dflt k_is); (case k4 => k_dflt (exact rfl)); (case k6 => decide); k_whole))
local macro_rules | `(tactic| walk_at "ite") => `(tactic| first | with_reducible refine ite_tt ?_ | with_reducible refine ite_ff ?_ | with_reducible refine ite_True_then ?_ | with_reducible refine ite_False_else ?_ | (k_openite; first | refine ite_pos (by with_reducible assumption) ?_ | refine ite_neg (by with_reducible assumption) ?_ | refine ite_isFalse (by with_reducible assumption) ?_ | (with_reducible refine split_ine ?_ ?_ <;> intro _) | (with_reducible refine split_ieq ?_ ?_ <;> intro _) | with_reducible refine split_not ?_ | (refine split_dec ?_ ?_ <;> intro _) | (refine split_bool ?_ ?_ <;> intro _)))
local macro_rules | `(tactic| walk_at "callWith ref") => `(tactic| first
  | ((with_reducible refine' callWith_K ?k1 ?k2 ?_ ?k3 ?k4); (case k1 => k_asm); (case k2 => k_dflt k_is); (case k3 => k_dflt (exact rfl)); (case k4 => k_dflt (exact rfl)); k_whole)
  | ((with_reducible refine' callWith_K0 ?k1 ?k2 ?_); (case k1 => k_dflt k_in); (case k2 => k_dflt k_is); k_whole)
  | ((with_reducible refine' callWith_KW ?k1 ?k2 ?k3 ?_ ?k4 ?k5); (case k1 => k_asm); (case k2 => k_dflt k_is); (case k3 => k_dflt (exact rfl)); (case k4 => k_dflt (exact rfl)); (case k5 => k_dflt (exact rfl)); k_whole))

local macro_rules | `(tactic| walk_at "subscriptTail Name Constant ref int") => `(tactic| ((with_reducible show wpAny _ _ (subscriptTail (Expr.Name (Str.ofString "box") _) _ (Value.ref _) (Value.int _ _)) _ _ _); (with_reducible rename LO _ _ => hLO'); (with_reducible rename News _ _ _ _ => N'); (with_unfolding_all refine' item_litK (hLO'.isList N' (.head _)) ?k2 ?k3 ?k4 ?_ ?k6; (case k2 => decide); (case k3 => decide); (case k4 => rfl); (case k6 => with_unfolding_all rfl); k_whole)))
local macro_rules | `(tactic| walk_at "setItem ref int") => `(tactic| ((with_reducible rename LO _ _ => hLO'); (with_reducible rename News _ _ _ _ => N'); (with_reducible rename Fr _ _ _ _ => F'); refine setLO hLO' F' N' (by assumption) (by decide) (of_decide_eq_true (by rfl)) (Nat.le_of_ble_eq_true (by rfl)) ?_; intro h8 o8 F8 N8 hLO8; (try dsimp only)))
set_option maxHeartbeats 4000000 in
theorem c_draw {w : World} {loose : List Str} {mean : ExcName → Option Value} {mg mb : Str → Option Value} {k dp un : Nat} {gd : Option (List Code)}
    {A₀ : Around} {env : Env} {outer : List Env} {base h₀ : Heap} {L : Addr} {m : Str → Option Value} {news : List (Addr × Obj)} {s : Shared}
    {E Q : Value → Shared → Prop} (B S : Addr) (vs : List Value) (ns : List Int) (o : Obj) (p st size : Int) (tp ts tz : Tok)
    (C : Cx w loose mean mg mb (k + 1) ⟨none, dp, some (env :: outer), gd, un⟩ A₀ env outer base h₀ L m ((B, o) :: news) s)
    (hS : base.IsList S vs.toArray) (hI : IntsAre vs ns) (hns : ns.length ≤ 63) (hLO : LO o #[.ref S, .int p tp, .int st ts]) (h0 : 0 ≤ p) (h1 : 0 ≤ st) (hz : 0 < size) (hz2 : size ≤ 5000) (hB : ∀ q ∈ news, q.1 ≠ B)
    (hret : ∀ r tr o' p' st' tp' ts' h' tk', 0 ≤ r → r < size → LO o' #[.ref S, .int p' tp', .int st' ts'] → 0 ≤ p' → 0 ≤ st' → Fr h₀ L h' m → News h₀ L h' ((B, o') :: news) → Q (.int r tr) { s with heap := h', toks := tk' }) :
    wpAny (model PySem.Challenge.pw_br5019_01 w) ⟨none, dp, some (env :: outer), gd, un⟩ (call (.ref 152) [.ref B, .int size tz]) Q E s := by
  refine enter [(Str.ofString "box", .ref B), (Str.ofString "size", .int size tz)] C (by k_is) (by k_is) (BindsTo.of_eq rfl) rfl rfl rfl (by decide) (locs rfl) ?_
  intro g L' h' tk Q' F' N' B' X' T' hd hu hret'
  have hS2 : g.IsList S vs.toArray := by
    obtain ⟨o, e, r⟩ := hS
    exact ⟨o, B'.stays _ _ e, r⟩
  walk_at "go"
  all_goals
    dsimp only
    with_reducible rename LO _ _ => hLOz
    refine hret' _ _ _ _ _ _ (by assumption) (by assumption) fun F2 N3 => ?_
    exact hret _ _ _ _ _ _ _ _ _ (fm0 hz) (fm1 hz) hLOz (by omega) (fm0 (by decide)) F2 N3

end Mine
end
noncomputable section
open Lean PySem PySem.W PySem.Spec PySem.Calls PyProof.Rows
set_option maxRecDepth 100000
namespace Mine
theorem fill_F17 : 0 = 0 ∧ 0 = 0 := by
  try walk1
  w_top off
  all_goals first | rfl | exact ⟨rfl, rfl⟩
local macro_rules | `(tactic| walk_at "noloop") => `(tactic| first
  | ((fail_if_success (fail_if_success (with_reducible show wpAny _ _ (execs _ _) _ _ _))); fail_if_success ((with_reducible refine st_execs ?_ ?_); (focus rfl)))
  | ((fail_if_success (fail_if_success (with_reducible show wpAny _ _ (exec _ _) _ _ _))); fail_if_success ((with_reducible refine st_exec ?_ ?_); (focus rfl)))
  | ((fail_if_success (with_reducible show wpAny _ _ (execs _ _) _ _ _)); (fail_if_success (with_reducible show wpAny _ _ (exec _ _) _ _ _)); (fail_if_success (with_reducible show wpAny _ _ (eval (Expr.ListComp _ _ _ _) _) _ _ _)); (fail_if_success (with_reducible show wpAny _ _ (pyIter _) _ _ _)); (fail_if_success (with_reducible show wpAny _ _ (truthy (Value.str (tx _) _)) _ _ _))))
local macro_rules | `(tactic| walk_at "go") => `(tactic| repeat' (first
  | (k_unfold; (try dsimp only))
  | (walk_at "noloop"; walk1)
  | (dsimp only; walk_at "noloop"; walk1)))
local macro_rules | `(tactic| walk_at "look") => `(tactic| ((try dsimp only); repeat' (first | exact List.forall_mem_nil _ | (refine List.forall_mem_cons.mpr ⟨by with_unfolding_all rfl, ?_⟩))))
local macro_rules | `(tactic| walk_at "ix") => `(tactic| first | omega | (simp only [List.length_take, List.length_drop] at *; omega))
local macro_rules | `(tactic| walk_at "subscriptTail Name Name str int") => `(tactic| ((with_reducible show wpAny _ _ (subscriptTail _ _ (Value.str (tx _) _) (Value.int _ _)) _ _ _); refine r_item (by walk_at "ix") (by walk_at "ix") (by walk_at "ix") ?_))
local macro_rules | `(tactic| walk_at "subscriptTail Name BinOp str int") => `(tactic| ((with_reducible show wpAny _ _ (subscriptTail _ _ (Value.str (tx _) _) (Value.int _ _)) _ _ _); refine r_item (by walk_at "ix") (by walk_at "ix") (by walk_at "ix") ?_))
local macro_rules | `(tactic| walk_at "compareOp In str str") => `(tactic| ((with_reducible show wpAny _ _ (compareOp _ (Value.str (tx _) _) (Value.str _ _)) _ _ _); refine r_in ?_))
local macro_rules | `(tactic| walk_at "compareOp NotIn str str") => `(tactic| ((with_reducible show wpAny _ _ (compareOp _ (Value.str (tx _) _) (Value.str _ _)) _ _ _); refine r_notin ?_))
local macro_rules | `(tactic| walk_at "compareOp Eq str str") => `(tactic| ((with_reducible show wpAny _ _ (compareOp _ (Value.str (tx _) _) (Value.str _ _)) _ _ _); refine r_eq ?_))
local macro_rules | `(tactic| walk_at "compareOp NotEq str str") => `(tactic| ((with_reducible show wpAny _ _ (compareOp _ (Value.str (tx _) _) (Value.str _ _)) _ _ _); refine r_ne ?_))
local macro_rules | `(tactic| walk_at "call builtin:ord") => `(tactic| ((with_reducible show wpAny _ _ (call _ [Value.str (tx _) _]) _ _ _); refine r_ord ?_))
local macro_rules | `(tactic| walk_at "call builtin:len") => `(tactic| ((with_reducible show wpAny _ _ (call _ [Value.str (tx _) _]) _ _ _); refine r_len (by walk_at "ix") ?_))
local macro_rules | `(tactic| walk_at "compareOp In str str") => `(tactic| ((with_reducible show wpAny _ _ (compareOp _ (Value.str (tx _) _) (Value.str _ _)) _ _ _); first | refine r_in2 isWs H_ws ?_ | refine r_in2 isBl H_bl ?_ | refine r_in2 isNl H_nl ?_ | refine r_in2 isBad H_bad ?_ | refine r_in2 isPu H_pu ?_))
local macro_rules | `(tactic| walk_at "compareOp NotIn str str") => `(tactic| ((with_reducible show wpAny _ _ (compareOp _ (Value.str (tx _) _) (Value.str _ _)) _ _ _); first | refine r_notin2 isWs H_ws ?_ | refine r_notin2 isPu H_pu ?_))
local macro_rules | `(tactic| walk_at "compareOp Eq str str") => `(tactic| ((with_reducible show wpAny _ _ (compareOp _ (Value.str (tx _) _) (Value.str _ _)) _ _ _); first | refine r_eq1 L_lt ?_ | refine r_eq1 L_gt ?_ | refine r_eq1 L_bs ?_ | refine r_eq1 L_lp ?_ | refine r_eq1 L_rp ?_ | refine r_eq1 L_del ?_ | refine r_eq1 L_nul ?_ | refine r_eq1 L_n ?_ | refine r_eq1 L_r ?_))
local macro_rules | `(tactic| walk_at "compareOp NotEq str str") => `(tactic| ((with_reducible show wpAny _ _ (compareOp _ (Value.str (tx _) _) (Value.str _ _)) _ _ _); first | refine r_ne1 L_rp ?_))
local macro_rules | `(tactic| walk_at "subscriptTail Name Slice str ref") => `(tactic| ((with_reducible show wpAny _ _ (subscriptTail _ (Expr.Slice (some _) (some _) none _) (Value.str (tx _) _) _) _ _ _); (with_reducible rename Fr _ _ _ _ => F'); (with_reducible rename News _ _ _ _ => N'); (refine r_slice (s := ⟨_, _, _, _, _⟩) (by walk_at "ix") (by walk_at "ix") (by walk_at "ix") F' N' ?_); intro _ _ _ _ _))
local macro_rules | `(tactic| walk_at "compareOp Eq str str") => `(tactic| ((with_reducible show wpAny _ _ (compareOp _ (Value.str (tx _) _) (Value.str _ _)) _ _ _); refine r_eqL L_rn ?_))
local macro_rules | `(tactic| walk_at "fact") => `(tactic| first | assumption | exact beq_iff_eq.mp (by assumption) | exact beq_eq_false_iff_ne.mp (by assumption) | omega)
local macro_rules | `(tactic| walk_at "noesc") => `(tactic| (rintro ⟨e1, e2, e3⟩; first | exact absurd e1 (beq_eq_false_iff_ne.mp (by assumption)) | exact Bool.noConfusion (Eq.trans (Eq.symm (show isPu _ = false from by assumption)) e3) | exact absurd (Eq.trans (Eq.symm e1) (beq_iff_eq.mp (show (List.getD _ _ _ == _) = true from by assumption))) (by decide) | omega))
local macro_rules | `(tactic| walk_at "cx") => `(tactic| exact ⟨by k_asm, by k_asm, by k_asm, by k_asm, by k_asm, rfl, rfl, rfl, rfl, (by (show _ + _ < _); omega), (by (show _ + 8 * _ < _); omega)⟩)
local macro_rules | `(tactic| walk_at "call ref") => `(tactic| ((with_reducible show wpAny _ _ (call (Value.ref 137) _ _) _ _ _); refine c_begin _ _ _ _ (by walk_at "cx") (by omega) ?_; intro t9 h9 k9 F9 N9; (try dsimp only)))
local macro_rules | `(tactic| walk_at "call ref") => `(tactic| ((with_reducible show wpAny _ _ (call (Value.ref 144) _ _) _ _ _); refine c_angle _ _ _ _ (by walk_at "cx") (by omega) (by omega) ?_ ?_; (all_goals intros); (all_goals (try dsimp only))))
local macro_rules | `(tactic| walk_at "call builtin:min") => `(tactic| ((with_reducible show wpAny _ _ (call (Value.builtin _) [Value.int _ _, Value.int _ _]) _ _ _); refine r_min (by omega) rfl (by assumption) (by assumption) ?_; intro h9 t9 k9 F9 N9))
local macro_rules | `(tactic| walk_at "retx") => `(tactic| (dsimp only; refine hret' _ _ _ _ _ _ (by assumption) (by assumption) fun F2 N2 => ?_))
local macro_rules | `(tactic| walk_at "upd") => `(tactic| first | exact Upd.head (by assumption) | (refine' Upd.tail ?a ?b; (case a => k_ne); (case b => walk_at "upd")))
local macro_rules | `(tactic| walk_at "sz") => `(tactic| ((try simp only [List.size_toArray, PySem.sizeLine_eq]); omega))
local macro_rules | `(tactic| walk_at "call builtin:list.append") => `(tactic| (k_here; (with_reducible show wpAny _ _ (call (Value.builtin _) [Value.ref _, _]) _ _ _); (refine' append_K ?k1 ?k2 ?k3 ?_ ?z; (case k1 => k_asm); (case k2 => k_asm); (case k3 => walk_at "upd"); (case z => walk_at "sz"); k_whole); intro h' F' N'; (try simp only [List.push_toArray] at N'); (try k_sweep)))
local macro_rules | `(tactic| walk_at "call ref") => `(tactic| ((with_reducible show wpAny _ _ (call (Value.ref 192) _ _) _ _ _); refine c_lbegin _ _ _ _ (by walk_at "cx") (by omega) ?_; intro t9 h9 k9 F9 N9; (try dsimp only)))
local macro_rules | `(tactic| walk_at "call ref") => `(tactic| ((with_reducible show wpAny _ _ (call (Value.ref 166) _ _) _ _ _); refine c_units _ _ _ _ _ _ (by walk_at "cx") (by walk_at "ix") (by walk_at "ix") ?_; intro a9 n9 vs9 tl9 h9 k9 U9 F9 N9 d9; (try dsimp only)))
local macro_rules | `(tactic| walk_at "subscriptTail Name Constant ref int") => `(tactic| ((with_reducible show wpAny _ _ (subscriptTail _ _ (Value.ref _) (Value.int _ _)) _ _ _); (with_unfolding_all refine' item_litK ?k1 ?k2 ?k3 ?k4 ?_ ?k6; (case k1 => exact News.isList (by k_asm) (by first | k_mem | walk_at "mem")); (case k2 => decide); (case k3 => decide); (case k4 => rfl); (case k6 => with_unfolding_all rfl); k_whole)))
local macro_rules | `(tactic| walk_at "offx") => `(tactic| (intro _; repeat' (first | exact List.forall_mem_nil _ | (refine List.forall_mem_cons.mpr ⟨by (show Str.ofString _ ≠ Str.ofString _); decide, ?_⟩))))
local macro_rules | `(tactic| walk_at "sub") => `(tactic| (intro q hq; (try simp only [List.cons_append, List.append_assoc, List.mem_cons, List.mem_append, List.not_mem_nil, or_false, or_assoc] at hq ⊢); (repeat' (first | exact hq | (refine Or.elim hq (fun hq => ?_) (fun hq => ?_)) | exact Or.inl hq | (refine Or.inr ?_)))))
local macro_rules | `(tactic| walk_at "mem") => `(tactic| first | assumption | exact List.mem_cons_self | (refine List.mem_cons_of_mem _ ?_; walk_at "mem") | (refine List.mem_append_left _ ?_; walk_at "mem") | (refine List.mem_append_right _ ?_; walk_at "mem"))
local macro_rules | `(tactic| walk_at "subscriptTail Name Name ref int") => `(tactic| ((with_reducible show wpAny _ _ (subscriptTail _ _ (Value.ref _) (Value.int _ _)) _ _ _); (with_unfolding_all refine' r_unit ?k1 ?k2 ?k3 ?k4 ?k5 ?k6 ?_ ?k7; (case k1 => k_asm); (case k2 => walk_at "mem"); (case k3 => assumption); (case k4 => omega); (case k5 => omega); (case k6 => omega); (case k7 => with_unfolding_all rfl)); intro a8 t8 t7 n8 m8))
local macro_rules | `(tactic| walk_at "subscriptTail Subscript") => `(tactic| with_reducible refine r_turn ?_)
local macro_rules | `(tactic| walk_at "compareOp Eq str str") => `(tactic| ((with_reducible show wpAny _ _ (compareOp _ (Value.str (tx _) _) (Value.str (tx _) _)) _ _ _); refine r_eqT ?_))
local macro_rules | `(tactic| walk_at "compareOp NotEq str str") => `(tactic| ((with_reducible show wpAny _ _ (compareOp _ (Value.str (tx _) _) (Value.str (tx _) _)) _ _ _); refine r_neT ?_))
local macro_rules | `(tactic| walk_at "compareOp NotIn str str") => `(tactic| ((with_reducible show wpAny _ _ (compareOp _ (Value.str (tx _) _) (Value.str _ _)) _ _ _); refine r_notin2 isOp H_open ?_))
local macro_rules | `(tactic| walk_at "eval Constant str") => `(tactic| with_reducible (first | refine r_const E_rp ?_ | refine r_const E_nil ?_))
local macro_rules | `(tactic| walk_at "binaryOp Add str str") => `(tactic| ((with_reducible show wpAny _ _ (binaryOp _ (Value.str (tx _) _) (Value.str (tx _) _)) _ _ _); refine r_cat (by first | omega | (simp only [List.length_append, List.length_cons, List.length_nil]; omega)) ?_; intro t9 k9))
local macro_rules | `(tactic| walk_at "call builtin:len") => `(tactic| ((with_reducible show wpAny _ _ (call (Value.builtin "len") [Value.ref _]) _ _ _); refine r_lenU (by k_asm) (by walk_at "mem") (by assumption) (by omega) ?_; intro t9 k9))
local macro_rules | `(tactic| walk_at "eval Name") => `(tactic| first
  | ((with_reducible refine' ld ?k1 ?k2 ?_ ?k3 ?k4 ?k5); (case k4 => kernel_rfl!); (case k1 => k_asm); (case k2 => k_dflt (exact rfl)); (case k3 => k_dflt (exact rfl)); (case k5 => decide); k_whole)
  | ((with_reducible refine' name_K ?k0 ?k1 ?k2 ?k3 ?_ ?k4 ?k5 ?k6); (case k5 => kernel_rfl!); (case k0 => k_asm); (case k1 => k_asm); (case k2 => k_asm); (case k3 => k_dflt k_is); (case k4 => k_dflt (exact rfl)); (case k6 => decide); k_whole))
local macro_rules | `(tactic| walk_at "ite") => `(tactic| first | with_reducible refine ite_tt ?_ | with_reducible refine ite_ff ?_ | with_reducible refine ite_True_then ?_ | with_reducible refine ite_False_else ?_ | (k_openite; first | refine ite_pos (by with_reducible assumption) ?_ | refine ite_neg (by with_reducible assumption) ?_ | refine ite_isFalse (by with_reducible assumption) ?_ | (with_reducible refine split_ine ?_ ?_ <;> intro _) | (with_reducible refine split_ieq ?_ ?_ <;> intro _) | with_reducible refine split_not ?_ | (refine split_dec ?_ ?_ <;> intro _) | (refine split_bool ?_ ?_ <;> intro _)))
local macro_rules | `(tactic| walk_at "callWith ref") => `(tactic| first
  | ((with_reducible refine' callWith_K ?k1 ?k2 ?_ ?k3 ?k4); (case k1 => k_asm); (case k2 => k_dflt k_is); (case k3 => k_dflt (exact rfl)); (case k4 => k_dflt (exact rfl)); k_whole)
  | ((with_reducible refine' callWith_K0 ?k1 ?k2 ?_); (case k1 => k_dflt k_in); (case k2 => k_dflt k_is); k_whole)
  | ((with_reducible refine' callWith_KW ?k1 ?k2 ?k3 ?_ ?k4 ?k5); (case k1 => k_asm); (case k2 => k_dflt k_is); (case k3 => k_dflt (exact rfl)); (case k4 => k_dflt (exact rfl)); (case k5 => k_dflt (exact rfl)); k_whole))
set_option maxHeartbeats 4000000 in
theorem c_pick {w : World} {loose : List Str} {mean : ExcName → Option Value} {mg mb : Str → Option Value} {k dp un : Nat} {gd : Option (List Code)}
    {A₀ : Around} {env : Env} {outer : List Env} {base h₀ : Heap} {L : Addr} {m : Str → Option Value} {news : List (Addr × Obj)} {s : Shared}
    {E Q : Value → Shared → Prop} (B S R : Addr) (vs : List Value) (ns : List Int) (o : Obj) (p st : Int) (tp ts : Tok) (items : Array Value)
    (C : Cx w loose mean mg mb (k + 2) ⟨none, dp, some (env :: outer), gd, un⟩ A₀ env outer base h₀ L m ((B, o) :: news) s)
    (hS : base.IsList S vs.toArray) (hI : IntsAre vs ns) (hns : ns.length ≤ 63) (hLO : LO o #[.ref S, .int p tp, .int st ts]) (h0 : 0 ≤ p) (h1 : 0 ≤ st) (hB : ∀ q ∈ news, q.1 ≠ B)
    (hR : (∃ oR, (hd.heap_39 w.params).lookup R = some oR ∧ LO oR items) ∨ (∃ oR, (R, oR) ∈ news ∧ LO oR items)) (hi0 : 0 < items.size) (hi1 : items.size ≤ 1000) (hP : ∀ v ∈ items.toList, PV v)
    (hret : ∀ x t o' p' st' tp' ts' h' tk', x.length ≤ 3 → AlphT x → LO o' #[.ref S, .int p' tp', .int st' ts'] → 0 ≤ p' → 0 ≤ st' → Fr h₀ L h' m → News h₀ L h' ((B, o') :: news) → Q (.str (tx x) t) { s with heap := h', toks := tk' }) :
    wpAny (model PySem.Challenge.pw_br5019_01 w) ⟨none, dp, some (env :: outer), gd, un⟩ (call (.ref 159) [.ref B, .ref R]) Q E s := by
  refine enter [(Str.ofString "box", .ref B), (Str.ofString "rows", .ref R)] C (by k_is) (by k_is) (BindsTo.of_eq rfl) rfl rfl rfl (by decide) (locs rfl) ?_
  intro g L' h' tk Q' F' N' B' X' T' hd hu hret'
  walk_at "go"
  refine len_list (rowsAt hR X' F' N' (fun q hq => .tail _ hq)) (by omega) ?_
  walk_at "go"
  refine c_draw B S vs ns o p st _ tp ts _ (by walk_at "cx") hS hI hns hLO h0 h1 (by omega) (by omega) hB ?_
  intro r tr o2 p2 st2 tp2 ts2 h2 k2 hr0 hr1 hLO2 hp2 hst2 F2 N2
  walk_at "go"
  have hlt : r.toNat < items.size := by omega
  refine item_litK (rowsAt hR X' F2 N2 (fun q hq => .tail _ hq)) hr0 (by omega) (v := items[r.toNat]) (by rw [Array.getElem?_toList]; exact Array.getElem?_eq_getElem hlt) ?_ (by with_unfolding_all rfl)
  obtain ⟨x, t, hv, hx1, hx2⟩ := hP items[r.toNat] (Array.getElem_mem_toList hlt)
  rw [hv]
  walk_at "go"
  refine hret' _ _ _ _ _ _ F2 N2 fun F3 N3 => ?_
  exact hret _ _ _ _ _ _ _ _ _ hx1 hx2 hLO2 hp2 hst2 F3 N3

end Mine
end
noncomputable section
open Lean PySem PySem.W PySem.Spec PySem.Calls PyProof.Rows
set_option maxRecDepth 100000
namespace Mine
theorem fill_F18 : 0 = 0 ∧ 0 = 0 := by
  try walk1
  w_top off
  all_goals first | rfl | exact ⟨rfl, rfl⟩
local macro_rules | `(tactic| walk_at "noloop") => `(tactic| first
  | ((fail_if_success (fail_if_success (with_reducible show wpAny _ _ (execs _ _) _ _ _))); fail_if_success ((with_reducible refine st_execs ?_ ?_); (focus rfl)))
  | ((fail_if_success (fail_if_success (with_reducible show wpAny _ _ (exec _ _) _ _ _))); fail_if_success ((with_reducible refine st_exec ?_ ?_); (focus rfl)))
  | ((fail_if_success (with_reducible show wpAny _ _ (execs _ _) _ _ _)); (fail_if_success (with_reducible show wpAny _ _ (exec _ _) _ _ _)); (fail_if_success (with_reducible show wpAny _ _ (eval (Expr.ListComp _ _ _ _) _) _ _ _)); (fail_if_success (with_reducible show wpAny _ _ (pyIter _) _ _ _)); (fail_if_success (with_reducible show wpAny _ _ (truthy (Value.str (tx _) _)) _ _ _))))
local macro_rules | `(tactic| walk_at "go") => `(tactic| repeat' (first
  | (k_unfold; (try dsimp only))
  | (walk_at "noloop"; walk1)
  | (dsimp only; walk_at "noloop"; walk1)))
local macro_rules | `(tactic| walk_at "look") => `(tactic| ((try dsimp only); repeat' (first | exact List.forall_mem_nil _ | (refine List.forall_mem_cons.mpr ⟨by with_unfolding_all rfl, ?_⟩))))
local macro_rules | `(tactic| walk_at "ix") => `(tactic| first | omega | (simp only [List.length_take, List.length_drop] at *; omega))
local macro_rules | `(tactic| walk_at "subscriptTail Name Name str int") => `(tactic| ((with_reducible show wpAny _ _ (subscriptTail _ _ (Value.str (tx _) _) (Value.int _ _)) _ _ _); refine r_item (by walk_at "ix") (by walk_at "ix") (by walk_at "ix") ?_))
local macro_rules | `(tactic| walk_at "subscriptTail Name BinOp str int") => `(tactic| ((with_reducible show wpAny _ _ (subscriptTail _ _ (Value.str (tx _) _) (Value.int _ _)) _ _ _); refine r_item (by walk_at "ix") (by walk_at "ix") (by walk_at "ix") ?_))
local macro_rules | `(tactic| walk_at "compareOp In str str") => `(tactic| ((with_reducible show wpAny _ _ (compareOp _ (Value.str (tx _) _) (Value.str _ _)) _ _ _); refine r_in ?_))
local macro_rules | `(tactic| walk_at "compareOp NotIn str str") => `(tactic| ((with_reducible show wpAny _ _ (compareOp _ (Value.str (tx _) _) (Value.str _ _)) _ _ _); refine r_notin ?_))
local macro_rules | `(tactic| walk_at "compareOp Eq str str") => `(tactic| ((with_reducible show wpAny _ _ (compareOp _ (Value.str (tx _) _) (Value.str _ _)) _ _ _); refine r_eq ?_))
local macro_rules | `(tactic| walk_at "compareOp NotEq str str") => `(tactic| ((with_reducible show wpAny _ _ (compareOp _ (Value.str (tx _) _) (Value.str _ _)) _ _ _); refine r_ne ?_))
local macro_rules | `(tactic| walk_at "call builtin:ord") => `(tactic| ((with_reducible show wpAny _ _ (call _ [Value.str (tx _) _]) _ _ _); refine r_ord ?_))
local macro_rules | `(tactic| walk_at "call builtin:len") => `(tactic| ((with_reducible show wpAny _ _ (call _ [Value.str (tx _) _]) _ _ _); refine r_len (by walk_at "ix") ?_))
local macro_rules | `(tactic| walk_at "compareOp In str str") => `(tactic| ((with_reducible show wpAny _ _ (compareOp _ (Value.str (tx _) _) (Value.str _ _)) _ _ _); first | refine r_in2 isWs H_ws ?_ | refine r_in2 isBl H_bl ?_ | refine r_in2 isNl H_nl ?_ | refine r_in2 isBad H_bad ?_ | refine r_in2 isPu H_pu ?_))
local macro_rules | `(tactic| walk_at "compareOp NotIn str str") => `(tactic| ((with_reducible show wpAny _ _ (compareOp _ (Value.str (tx _) _) (Value.str _ _)) _ _ _); first | refine r_notin2 isWs H_ws ?_ | refine r_notin2 isPu H_pu ?_))
local macro_rules | `(tactic| walk_at "compareOp Eq str str") => `(tactic| ((with_reducible show wpAny _ _ (compareOp _ (Value.str (tx _) _) (Value.str _ _)) _ _ _); first | refine r_eq1 L_lt ?_ | refine r_eq1 L_gt ?_ | refine r_eq1 L_bs ?_ | refine r_eq1 L_lp ?_ | refine r_eq1 L_rp ?_ | refine r_eq1 L_del ?_ | refine r_eq1 L_nul ?_ | refine r_eq1 L_n ?_ | refine r_eq1 L_r ?_))
local macro_rules | `(tactic| walk_at "compareOp NotEq str str") => `(tactic| ((with_reducible show wpAny _ _ (compareOp _ (Value.str (tx _) _) (Value.str _ _)) _ _ _); first | refine r_ne1 L_rp ?_))
local macro_rules | `(tactic| walk_at "subscriptTail Name Slice str ref") => `(tactic| ((with_reducible show wpAny _ _ (subscriptTail _ (Expr.Slice (some _) (some _) none _) (Value.str (tx _) _) _) _ _ _); (with_reducible rename Fr _ _ _ _ => F'); (with_reducible rename News _ _ _ _ => N'); (refine r_slice (s := ⟨_, _, _, _, _⟩) (by walk_at "ix") (by walk_at "ix") (by walk_at "ix") F' N' ?_); intro _ _ _ _ _))
local macro_rules | `(tactic| walk_at "compareOp Eq str str") => `(tactic| ((with_reducible show wpAny _ _ (compareOp _ (Value.str (tx _) _) (Value.str _ _)) _ _ _); refine r_eqL L_rn ?_))
local macro_rules | `(tactic| walk_at "fact") => `(tactic| first | assumption | exact beq_iff_eq.mp (by assumption) | exact beq_eq_false_iff_ne.mp (by assumption) | omega)
local macro_rules | `(tactic| walk_at "noesc") => `(tactic| (rintro ⟨e1, e2, e3⟩; first | exact absurd e1 (beq_eq_false_iff_ne.mp (by assumption)) | exact Bool.noConfusion (Eq.trans (Eq.symm (show isPu _ = false from by assumption)) e3) | exact absurd (Eq.trans (Eq.symm e1) (beq_iff_eq.mp (show (List.getD _ _ _ == _) = true from by assumption))) (by decide) | omega))
local macro_rules | `(tactic| walk_at "cx") => `(tactic| exact ⟨by k_asm, by k_asm, by k_asm, by k_asm, by k_asm, rfl, rfl, rfl, rfl, (by (show _ + _ < _); omega), (by (show _ + 8 * _ < _); omega)⟩)
local macro_rules | `(tactic| walk_at "call ref") => `(tactic| ((with_reducible show wpAny _ _ (call (Value.ref 137) _ _) _ _ _); refine c_begin _ _ _ _ (by walk_at "cx") (by omega) ?_; intro t9 h9 k9 F9 N9; (try dsimp only)))
local macro_rules | `(tactic| walk_at "call ref") => `(tactic| ((with_reducible show wpAny _ _ (call (Value.ref 144) _ _) _ _ _); refine c_angle _ _ _ _ (by walk_at "cx") (by omega) (by omega) ?_ ?_; (all_goals intros); (all_goals (try dsimp only))))
local macro_rules | `(tactic| walk_at "call builtin:min") => `(tactic| ((with_reducible show wpAny _ _ (call (Value.builtin _) [Value.int _ _, Value.int _ _]) _ _ _); refine r_min (by omega) rfl (by assumption) (by assumption) ?_; intro h9 t9 k9 F9 N9))
local macro_rules | `(tactic| walk_at "retx") => `(tactic| (dsimp only; refine hret' _ _ _ _ _ _ (by assumption) (by assumption) fun F2 N2 => ?_))
local macro_rules | `(tactic| walk_at "upd") => `(tactic| first | exact Upd.head (by assumption) | (refine' Upd.tail ?a ?b; (case a => k_ne); (case b => walk_at "upd")))
local macro_rules | `(tactic| walk_at "sz") => `(tactic| ((try simp only [List.size_toArray, PySem.sizeLine_eq]); omega))
local macro_rules | `(tactic| walk_at "call builtin:list.append") => `(tactic| (k_here; (with_reducible show wpAny _ _ (call (Value.builtin _) [Value.ref _, _]) _ _ _); (refine' append_K ?k1 ?k2 ?k3 ?_ ?z; (case k1 => k_asm); (case k2 => k_asm); (case k3 => walk_at "upd"); (case z => walk_at "sz"); k_whole); intro h' F' N'; (try simp only [List.push_toArray] at N'); (try k_sweep)))
local macro_rules | `(tactic| walk_at "call ref") => `(tactic| ((with_reducible show wpAny _ _ (call (Value.ref 192) _ _) _ _ _); refine c_lbegin _ _ _ _ (by walk_at "cx") (by omega) ?_; intro t9 h9 k9 F9 N9; (try dsimp only)))
local macro_rules | `(tactic| walk_at "call ref") => `(tactic| ((with_reducible show wpAny _ _ (call (Value.ref 166) _ _) _ _ _); refine c_units _ _ _ _ _ _ (by walk_at "cx") (by walk_at "ix") (by walk_at "ix") ?_; intro a9 n9 vs9 tl9 h9 k9 U9 F9 N9 d9; (try dsimp only)))
local macro_rules | `(tactic| walk_at "subscriptTail Name Constant ref int") => `(tactic| ((with_reducible show wpAny _ _ (subscriptTail _ _ (Value.ref _) (Value.int _ _)) _ _ _); (with_unfolding_all refine' item_litK ?k1 ?k2 ?k3 ?k4 ?_ ?k6; (case k1 => exact News.isList (by k_asm) (by first | k_mem | walk_at "mem")); (case k2 => decide); (case k3 => decide); (case k4 => rfl); (case k6 => with_unfolding_all rfl); k_whole)))
local macro_rules | `(tactic| walk_at "offx") => `(tactic| (intro _; repeat' (first | exact List.forall_mem_nil _ | (refine List.forall_mem_cons.mpr ⟨by (show Str.ofString _ ≠ Str.ofString _); decide, ?_⟩))))
local macro_rules | `(tactic| walk_at "sub") => `(tactic| (intro q hq; (try simp only [List.cons_append, List.append_assoc, List.mem_cons, List.mem_append, List.not_mem_nil, or_false, or_assoc] at hq ⊢); (repeat' (first | exact hq | (refine Or.elim hq (fun hq => ?_) (fun hq => ?_)) | exact Or.inl hq | (refine Or.inr ?_)))))
local macro_rules | `(tactic| walk_at "mem") => `(tactic| first | assumption | exact List.mem_cons_self | (refine List.mem_cons_of_mem _ ?_; walk_at "mem") | (refine List.mem_append_left _ ?_; walk_at "mem") | (refine List.mem_append_right _ ?_; walk_at "mem"))
local macro_rules | `(tactic| walk_at "subscriptTail Name Name ref int") => `(tactic| ((with_reducible show wpAny _ _ (subscriptTail _ _ (Value.ref _) (Value.int _ _)) _ _ _); (with_unfolding_all refine' r_unit ?k1 ?k2 ?k3 ?k4 ?k5 ?k6 ?_ ?k7; (case k1 => k_asm); (case k2 => walk_at "mem"); (case k3 => assumption); (case k4 => omega); (case k5 => omega); (case k6 => omega); (case k7 => with_unfolding_all rfl)); intro a8 t8 t7 n8 m8))
local macro_rules | `(tactic| walk_at "subscriptTail Subscript") => `(tactic| with_reducible refine r_turn ?_)
local macro_rules | `(tactic| walk_at "compareOp Eq str str") => `(tactic| ((with_reducible show wpAny _ _ (compareOp _ (Value.str (tx _) _) (Value.str (tx _) _)) _ _ _); refine r_eqT ?_))
local macro_rules | `(tactic| walk_at "compareOp NotEq str str") => `(tactic| ((with_reducible show wpAny _ _ (compareOp _ (Value.str (tx _) _) (Value.str (tx _) _)) _ _ _); refine r_neT ?_))
local macro_rules | `(tactic| walk_at "compareOp NotIn str str") => `(tactic| ((with_reducible show wpAny _ _ (compareOp _ (Value.str (tx _) _) (Value.str _ _)) _ _ _); refine r_notin2 isOp H_open ?_))
local macro_rules | `(tactic| walk_at "eval Constant str") => `(tactic| with_reducible (first | refine r_const E_rp ?_ | refine r_const E_nil ?_))
local macro_rules | `(tactic| walk_at "binaryOp Add str str") => `(tactic| ((with_reducible show wpAny _ _ (binaryOp _ (Value.str (tx _) _) (Value.str (tx _) _)) _ _ _); refine r_cat (by first | omega | (simp only [List.length_append, List.length_cons, List.length_nil]; omega)) ?_; intro t9 k9))
local macro_rules | `(tactic| walk_at "call builtin:len") => `(tactic| ((with_reducible show wpAny _ _ (call (Value.builtin "len") [Value.ref _]) _ _ _); refine r_lenU (by k_asm) (by walk_at "mem") (by assumption) (by omega) ?_; intro t9 k9))
local macro_rules | `(tactic| walk_at "eval Name") => `(tactic| first
  | ((with_reducible refine' ld ?k1 ?k2 ?_ ?k3 ?k4 ?k5); (case k4 => kernel_rfl!); (case k1 => k_asm); (case k2 => k_dflt (exact rfl)); (case k3 => k_dflt (exact rfl)); (case k5 => decide); k_whole)
  | ((with_reducible refine' name_K ?k0 ?k1 ?k2 ?k3 ?_ ?k4 ?k5 ?k6); (case k5 => kernel_rfl!); (case k0 => k_asm); (case k1 => k_asm); (case k2 => k_asm); (case k3 => k_dflt k_is); (case k4 => k_dflt (exact rfl)); (case k6 => decide); k_whole))
local macro_rules | `(tactic| walk_at "ite") => `(tactic| first | with_reducible refine ite_tt ?_ | with_reducible refine ite_ff ?_ | with_reducible refine ite_True_then ?_ | with_reducible refine ite_False_else ?_ | (k_openite; first | refine ite_pos (by with_reducible assumption) ?_ | refine ite_neg (by with_reducible assumption) ?_ | refine ite_isFalse (by with_reducible assumption) ?_ | (with_reducible refine split_ine ?_ ?_ <;> intro _) | (with_reducible refine split_ieq ?_ ?_ <;> intro _) | with_reducible refine split_not ?_ | (refine split_dec ?_ ?_ <;> intro _) | (refine split_bool ?_ ?_ <;> intro _)))
local macro_rules | `(tactic| walk_at "callWith ref") => `(tactic| first
  | ((with_reducible refine' callWith_K ?k1 ?k2 ?_ ?k3 ?k4); (case k1 => k_asm); (case k2 => k_dflt k_is); (case k3 => k_dflt (exact rfl)); (case k4 => k_dflt (exact rfl)); k_whole)
  | ((with_reducible refine' callWith_K0 ?k1 ?k2 ?_); (case k1 => k_dflt k_in); (case k2 => k_dflt k_is); k_whole)
  | ((with_reducible refine' callWith_KW ?k1 ?k2 ?k3 ?_ ?k4 ?k5); (case k1 => k_asm); (case k2 => k_dflt k_is); (case k3 => k_dflt (exact rfl)); (case k4 => k_dflt (exact rfl)); (case k5 => k_dflt (exact rfl)); k_whole))

local macro_rules | `(tactic| walk_at "eval Constant str") => `(tactic| with_reducible (first | refine r_const E_a ?_ | refine r_const E_q1 ?_ | refine r_const E_q2 ?_ | refine r_const E_lt ?_ | refine r_const E_gt ?_ | refine r_const E_q3 ?_ | refine r_const E_tp ?_ | refine r_const E_rr ?_))
local macro_rules | `(tactic| walk_at "subscriptTail Name Constant ref int") => `(tactic| ((with_reducible show wpAny _ _ (subscriptTail (Expr.Name (Str.ofString "parts") _) _ (Value.ref _) (Value.int _ _)) _ _ _); (with_reducible rename LO _ #[Value.str _ _, Value.str _ _] => hLP'); (with_reducible rename News _ _ _ _ => N'); (with_unfolding_all refine' item_litK (hLP'.isList N' (.tail _ (.head _))) ?k2 ?k3 ?k4 ?_ ?k6; (case k2 => decide); (case k3 => decide); (case k4 => rfl); (case k6 => with_unfolding_all rfl); k_whole)))
local macro_rules | `(tactic| walk_at "subscriptTail Name Name ref int") => `(tactic| ((with_reducible show wpAny _ _ (subscriptTail (Expr.Name (Str.ofString "parts") _) _ (Value.ref _) (Value.int _ _)) _ _ _); (with_reducible rename LO _ #[Value.str _ _, Value.str _ _] => hLP'); (with_reducible rename News _ _ _ _ => N'); (with_unfolding_all refine' item_litK (hLP'.isList N' (.tail _ (.head _))) ?k2 ?k3 ?k4 ?_ ?k6; (case k2 => decide); (case k3 => decide); (case k4 => rfl); (case k6 => with_unfolding_all rfl); k_whole)))
set_option maxHeartbeats 4000000 in
theorem c_laid {w : World} {loose : List Str} {mean : ExcName → Option Value} {mg mb : Str → Option Value} {k dp un : Nat} {gd : Option (List Code)}
    {A₀ : Around} {env : Env} {outer : List Env} {base h₀ : Heap} {L : Addr} {m : Str → Option Value} {news : List (Addr × Obj)} {s : Shared}
    {E Q : Value → Shared → Prop} (B S : Addr) (vs : List Value) (ns : List Int) (o : Obj) (p st : Int) (tp ts : Tok)
    (C : Cx w loose mean mg mb (k + 3) ⟨none, dp, some (env :: outer), gd, un⟩ A₀ env outer base h₀ L m ((B, o) :: news) s)
    (hS : base.IsList S vs.toArray) (hI : IntsAre vs ns) (hns : ns.length ≤ 63) (hLO : LO o #[.ref S, .int p tp, .int st ts]) (h0 : 0 ≤ p) (h1 : 0 ≤ st) (hB : ∀ q ∈ news, q.1 ≠ B)
    (hret : ∀ x t o' p' st' tp' ts' h' tk', x.length ≤ 100 → AlphT x → LO o' #[.ref S, .int p' tp', .int st' ts'] → 0 ≤ p' → 0 ≤ st' → Fr h₀ L h' m → News h₀ L h' ((B, o') :: news) → Q (.str (tx x) t) { s with heap := h', toks := tk' }) :
    wpAny (model PySem.Challenge.pw_br5019_01 w) ⟨none, dp, some (env :: outer), gd, un⟩ (call (.ref 213) [.ref B]) Q E s := by
  refine enter [(Str.ofString "box", .ref B)] C (by k_is) (by k_is) (BindsTo.of_eq rfl) rfl rfl rfl (by decide) (locs rfl) ?_
  intro g L' h' tk Q' F' N' B' X' T' hd hu hret'
  have h145 : (_root_.Mine.hd.heap_39 w.params).lookup 145 = some (listOf pieceV 0) := rfl
  walk_at "go"
  rename_i PA h5 l1P h4 F4 N4
  have hPB : PA ≠ B := fun e => by have := l1P.1; rw [e] at this; exact absurd this (Nat.lt_irrefl _)
  have hPn : ∀ q ∈ news, q.1 ≠ PA := fun q hq => Nat.ne_of_lt (allLt_mem l1P.2 q hq)
  have N5 := subN N4 swapM
  clear N4
  refine For_invVF (h₀ := g) (by assumption) rfl rfl ?_
  walk_at "go"
  refine c_draw B S vs ns o p st 15 tp ts _ (by walk_at "cx") hS hI hns hLO h0 h1 (by decide) (by decide) (List.forall_mem_cons.mpr ⟨hPB, hB⟩) ?_
  intro r0 tr o2 p2 st2 tp2 ts2 h2 k2 hr0 hr1 hLO2 hp2 hst2 F2 N2
  walk_at "go"
  rename_i FX NX h7 k7 tA uA vA hRg F7 N7 keep7
  obtain ⟨j, rfl⟩ := Int.eq_ofNat_of_zero_le hr0
  have hj : j < 15 := by omega
  have hrj := range15 j hj
  refine frR (σ := (Obj × Obj) × (List Nat × List Nat)) (n := j) (fun c => (B, c.1.1) :: (PA, c.1.2) :: news) (fun _ => [(Str.ofString "box", .ref B), (Str.ofString "parts", .ref PA)])
    (fun i c => (∃ p st tp ts, LO c.1.1 #[.ref S, .int p tp, .int st ts] ∧ 0 ≤ p ∧ 0 ≤ st) ∧ (∃ ta tb, LO c.1.2 #[.str (tx c.2.1) ta, .str (tx c.2.2) tb]) ∧ c.2.1.length ≤ 3 * i ∧ c.2.2.length ≤ 3 * i ∧ AlphT c.2.1 ∧ AlphT c.2.2)
    ((o2, _), ([], [])) rfl (by walk_at "offx") hRg hrj.1 hrj.2 F7 N7 (fun _ h => h) (by walk_at "look")
    ⟨⟨p2, st2, tp2, ts2, hLO2, hp2, hst2⟩, ⟨_, _, LO.of _ _⟩, Nat.le_refl _, Nat.le_refl _, AlphT.nil, AlphT.nil⟩ ?_ ?_
  · rintro i kk tt ⟨⟨ob, op⟩, x0, x1⟩ u h tk3 own Q'' hi hoff ⟨⟨p3, st3, tp3, ts3, hLB, hp3, hst3⟩, ⟨ta, tb, hLP⟩, hl0, hl1, ha0, ha1⟩ F N hnext
    dsimp only at hoff hLB hLP hl0 hl1 ha0 ha1 F N hnext ⊢
    have hLPk := hLP
    simp only [List.cons_append] at N
    have hOB : ∀ q ∈ own, q.1 ≠ B := fun q hq => hoff q hq _ (.head _)
    have hOP : ∀ q ∈ own, q.1 ≠ PA := fun q hq => hoff q hq _ (.tail _ (.head _))
    have hnB : ∀ q ∈ news ++ own, q.1 ≠ B := fun q hq => (List.mem_append.mp hq).elim (hB q) (hOB q)
    have hnP : ∀ q ∈ news ++ own, q.1 ≠ PA := fun q hq => (List.mem_append.mp hq).elim (hPn q) (hOP q)
    walk_at "go"
    refine c_draw B S vs ns ob p3 st3 2 tp3 ts3 _ (by walk_at "cx") hS hI hns hLB hp3 hst3 (by decide) (by decide) (List.forall_mem_cons.mpr ⟨hPB, hnB⟩) ?_
    intro r tr ob2 p4 st4 tp4 ts4 h8 k8 hr2 hr3 hLB2 hp4 hst4 F8 N8
    have hBo2 : ∀ q ∈ (PA, op) :: (news ++ own), q.1 ≠ B := List.forall_mem_cons.mpr ⟨hPB, hnB⟩
    have hPo : ∀ {ob : Obj}, ∀ q ∈ (B, ob) :: (news ++ own), q.1 ≠ PA := List.forall_mem_cons.mpr ⟨fun e => hPB e.symm, hnP⟩
    have hr : r = 0 ∨ r = 1 := by omega
    rcases hr with rfl | rfl
    · walk_at "go"
      refine c_pick B S 145 vs ns ob2 p4 st4 tp4 ts4 pieceV (by walk_at "cx") hS hI hns hLB2 hp4 hst4 hBo2 (.inl ⟨_, h145, LO.of _ _⟩) (by decide) (by decide) pieceV_ok ?_
      intro x t ob3 p5 st5 tp5 ts5 h9 k9 hx1 hx2 hLB3 hp5 hst5 F9 N9
      walk_at "go"
      with_reducible rename News _ _ _ _ => N10
      refine setLO hLP (by assumption) (subN N10 swapM) hPo (by decide) (of_decide_eq_true (by rfl)) (Nat.le_of_ble_eq_true (by rfl)) ?_
      intro h11 op2 F11 N11 hLP2
      (try walk_at "go")
      (try dsimp only)
      refine (hnext ((ob3, op2), (x0 ++ x, x1)) _ _ _ _ F11 (subN N11 swapM) ?_ ?_ (tbOff2 hoff) (by walk_at "look") ?_).1
      · intro q hq
        rcases List.mem_cons.mp hq with rfl | hq
        · exact .head _
        · rcases List.mem_cons.mp hq with rfl | hq
          · exact .tail _ (.head _)
          · exact .tail _ (.tail _ (List.mem_append_left _ hq))
      · exact fun q hq => .tail _ (.tail _ (List.mem_append_right _ hq))
      · refine ⟨⟨p5, st5, tp5, ts5, hLB3, hp5, hst5⟩, ⟨_, _, hLP2⟩, ?_, ?_, ?_, ?_⟩
        · (try simp only [List.length_append]); omega
        · (try simp only [List.length_append]); omega
        · first | assumption | exact AlphT.app (by assumption) (by assumption)
        · first | assumption | exact AlphT.app (by assumption) (by assumption)
    · walk_at "go"
      refine c_pick B S 145 vs ns ob2 p4 st4 tp4 ts4 pieceV (by walk_at "cx") hS hI hns hLB2 hp4 hst4 hBo2 (.inl ⟨_, h145, LO.of _ _⟩) (by decide) (by decide) pieceV_ok ?_
      intro x t ob3 p5 st5 tp5 ts5 h9 k9 hx1 hx2 hLB3 hp5 hst5 F9 N9
      walk_at "go"
      with_reducible rename News _ _ _ _ => N10
      refine setLO hLP (by assumption) (subN N10 swapM) hPo (by decide) (of_decide_eq_true (by rfl)) (Nat.le_of_ble_eq_true (by rfl)) ?_
      intro h11 op2 F11 N11 hLP2
      (try walk_at "go")
      (try dsimp only)
      refine (hnext ((ob3, op2), (x0, x1 ++ x)) _ _ _ _ F11 (subN N11 swapM) ?_ ?_ (tbOff2 hoff) (by walk_at "look") ?_).1
      · intro q hq
        rcases List.mem_cons.mp hq with rfl | hq
        · exact .head _
        · rcases List.mem_cons.mp hq with rfl | hq
          · exact .tail _ (.head _)
          · exact .tail _ (.tail _ (List.mem_append_left _ hq))
      · exact fun q hq => .tail _ (.tail _ (List.mem_append_right _ hq))
      · refine ⟨⟨p5, st5, tp5, ts5, hLB3, hp5, hst5⟩, ⟨_, _, hLP2⟩, ?_, ?_, ?_, ?_⟩
        · (try simp only [List.length_append]); omega
        · (try simp only [List.length_append]); omega
        · first | assumption | exact AlphT.app (by assumption) (by assumption)
        · first | assumption | exact AlphT.app (by assumption) (by assumption)
  · rintro ⟨⟨ob, op⟩, x0, x1⟩ u h tk3 ⟨⟨p3, st3, tp3, ts3, hLB, hp3, hst3⟩, ⟨ta, tb, hLP⟩, hl0, hl1, ha0, ha1⟩ F N
    dsimp only at hLB hLP hl0 hl1 ha0 ha1 F N ⊢
    have hLPk := hLP
    walk_at "go"
    refine c_draw B S vs ns ob p3 st3 5 tp3 ts3 _ (by walk_at "cx") hS hI hns hLB hp3 hst3 (by decide) (by decide) (List.forall_mem_cons.mpr ⟨hPB, hB⟩) ?_
    intro r tr ob2 p4 st4 tp4 ts4 h8 k8 hr2 hr3 hLB2 hp4 hst4 F8 N8
    walk_at "go"
    all_goals
      dsimp only
      refine hret' _ _ _ _ _ _ (by assumption) (by assumption) fun F2 N3 => ?_
      refine hret _ _ ob2 p4 st4 tp4 ts4 _ _ ?_ ?_ hLB2 hp4 hst4 F2 (subN N3 (by walk_at "sub"))
      · simp only [List.length_append, List.length_cons, List.length_nil]; omega
      · repeat' (first | assumption | (refine AlphT.app ?_ ?_) | exact @of_decide_eq_true _ (decAlph _) (by rfl))

end Mine
end
noncomputable section
open Lean PySem PySem.W PySem.Spec PySem.Calls PyProof.Rows PyProof.V PySem.SeqAt
set_option maxRecDepth 100000
namespace Mine
/-- two tuples, item by item, in one world -/
theorem ne_tup {prog : Program} {w : World} {A : Around} {E Q : Value → Shared → Prop} {s : Shared} {l b : Addr} {items items2 : Array Value} {e : Nat → Bool} (hl : s.heap.IsTuple l items) (hb : s.heap.IsTuple b items2) (hu : A.units < cLine)
    (he : ∀ j (h1 : j < items.size) (h2 : j < items2.size) (E : Value → Shared → Prop) (Q : Bool → Shared → Prop), Q (e j) s → wpAny (model prog w) A.in1 (eqBool items[j] items2[j]) Q E s)
    (h : Q (.bool (!((List.range (min items.size items2.size)).all e && items.size == items2.size))) s) : wpAny (model prog w) A (compareOp .NotEq (.ref l) (.ref b)) Q E s := by
  obtain ⟨⟨cls, dd, data, sl⟩, ho, hc, n, hd⟩ := id hl
  obtain ⟨⟨cls2, dd2, data2, sl2⟩, ho2, hc2, n2, hd2⟩ := id hb
  simp only at hc hd hc2 hd2
  subst hc hd hc2 hd2
  refine wpAny_richCompare_same_room (op := .NotEq) ⟨_, ho, rfl⟩ ⟨_, ho2, rfl⟩ F.slot_tuple_ne (wpAny_call_entry F.slot_tuple_ne ⟨_, ho, rfl⟩ F.entry_tuple_ne ?_ (F.args_tuple_ne_2 _ _)) hu
  obtain ⟨hp, g, d, tk, os⟩ := s
  have f2 := AutoSeq1.sub_tuple_tuple
  have hZ : (items.toList.zip items2.toList).length = min items.size items2.size := by simp
  wp_walk using wpAny_loadPart' ho, wpAny_loadPart' ho2, wpAny_forIn_list _ (fun rest b s' => b.1 = none ∧ s' = ⟨hp, g, d, tk, os⟩ ∧ ∃ i, rest = (items.toList.zip items2.toList).drop i ∧
      Q (.bool (!(((List.range (min items.size items2.size)).drop i).all e && items.size == items2.size))) ⟨hp, g, d, tk, os⟩) _
  case turn =>
    rintro ⟨y, x⟩ rest b s' ⟨hb', rfl, i, hz, hR⟩
    have hlt : i < (items.toList.zip items2.toList).length := by
      rcases Nat.lt_or_ge i (items.toList.zip items2.toList).length with h' | h'
      · exact h'
      · rw [List.drop_of_length_le h'] at hz; cases hz
    have hm : i < min items.size items2.size := hZ ▸ hlt
    have h1 : i < items.size := Nat.lt_of_lt_of_le hm (Nat.min_le_left _ _)
    have h2 : i < items2.size := Nat.lt_of_lt_of_le hm (Nat.min_le_right _ _)
    rw [List.drop_eq_getElem_cons hlt] at hz
    injection hz with hyx hrest
    have hy : y = items[i] := by have := congrArg Prod.fst hyx; simpa using this
    have hx : x = items2[i] := by have := congrArg Prod.snd hyx; simpa using this
    subst hy hx
    have hd : (List.range (min items.size items2.size)).drop i = i :: (List.range (min items.size items2.size)).drop (i + 1) := by simp [List.drop_eq_getElem_cons, hm]
    rw [hd, List.all_cons] at hR
    refine wpAny_bind (he i h1 h2 _ _ ?_)
    cases hy : e i with
    | true =>
      rw [hy] at hR
      wp_walk
      exact ⟨rfl, rfl, i + 1, hrest, by simpa using hR⟩
    | false =>
      rw [hy] at hR
      wp_walk
      exact ⟨_, rfl, (fun x => nomatch x), by simpa using hR⟩
  case fin =>
    rintro ⟨b1, b2⟩ s' ⟨hb', rfl, i, hz, hR⟩
    simp only at hb'
    subst hb'
    have hge : min items.size items2.size ≤ i := by
      rcases Nat.lt_or_ge i (items.toList.zip items2.toList).length with h' | h'
      · rw [List.drop_eq_getElem_cons h'] at hz; cases hz
      · exact hZ ▸ h'
    rw [List.drop_of_length_le (by simpa using hge)] at hR
    wp_walk
    exact ⟨_, rfl, (fun x => nomatch x), by simpa [Builtin.Tuple.tupleCompareSizes, bne] using hR⟩
  case h =>
    exact ⟨rfl, rfl, 0, rfl, by simpa using h⟩

/-- two values that are the same to the program, at this place of this world -/
def EqF (prog : Program) (w : World) (A : Around) (s : Shared) (v y : Value) : Prop := ∀ (E : Value → Shared → Prop) (Q : Bool → Shared → Prop), Q true s → wpAny (model prog w) A (eqBool v y) Q E s
theorem EqF.of {prog : Program} {w : World} {A : Around} {s : Shared} {v y : Value} (h : EqAt A s v y true) : EqF prog w A s v y := fun E Q q => h prog w E Q q
theorem EqF.none {prog : Program} {w : World} {A : Around} {s : Shared} : EqF prog w A s .none .none := EqF.of (EqAt.same _)
theorem EqF.int {prog : Program} {w : World} {A : Around} {s : Shared} {n : Int} {t u : Tok} : EqF prog w A s (.int n t) (.int n u) := by
  have h := EqAt.int_int (A := A) (s := s) n t n u
  rw [beq_self_eq_true] at h
  exact EqF.of h
theorem EqF.str {prog : Program} {w : World} {A : Around} {s : Shared} {n : Str} {t u : Tok} : EqF prog w A s (.str n t) (.str n u) := by
  have h := EqAt.str_str (A := A) (s := s) n t n u
  rw [beq_self_eq_true] at h
  exact EqF.of h
theorem rows_attr (u tt : List Nat) : KeqRows (attrP u tt) (attrP u tt) true := by
  by_cases h : tt = []
  · subst h
    have := KeqRows.hit (Db := attrP u []) (k := .str (Str.ofString "url")) (v := .str (tx u)) (u := .str (tx u)) (r := []) (by rfl) KeqRows.nil
    simpa [PyData.eqv, attrP] using this
  · rw [attrP_cons h]
    have := KeqRows.hit (Db := [(.str (Str.ofString "url"), .str (tx u)), (.str (Str.ofString "title"), .str (tx tt))]) (k := .str (Str.ofString "url")) (v := .str (tx u)) (u := .str (tx u)) (r := [(.str (Str.ofString "title"), .str (tx tt))]) (by rfl)
      (KeqRows.hit (k := .str (Str.ofString "title")) (v := .str (tx tt)) (u := .str (tx tt)) (by rfl) KeqRows.nil)
    simpa [PyData.eqv] using this
theorem EqF.dict {w : World} {A : Around} {s : Shared} {a b : Addr} {oa ob : Obj} {u tt : List Nat} (la : (a == sysModules) = false) (lb : (b == sysModules) = false) (ga : s.heap.get? a = some oa) (gb : s.heap.get? b = some ob)
    (xa : DictIs w oa (attrP u tt)) (xb : DictIs w ob (attrP u tt)) (hu : A.units < cLine) : EqF PySem.Challenge.pw_br5019_01 w A s (.ref a) (.ref b) := fun E Q q => by
  obtain ⟨ka, da, fa⟩ := xa
  obtain ⟨kb, db, fb⟩ := xb
  unfold eqBool
  refine wpAny_holding ?_
  refine wpAny_ite_split (fun _ => wpAny_bind (wpAny_rule (wpAny_pure q))) (fun _ => ?_)
  refine wpAny_bind ?_
  refine keq_eq la lb (Heap.dictOf_iff.mpr ⟨oa, ga, da⟩) (Heap.dictOf_iff.mpr ⟨ob, gb, db⟩) hu (fun _ => (rows_attr u tt).hits PyProof.V.same_str fb fa) ?_
  rw [← fa.length, ← fb.length, beq_self_eq_true, Bool.true_and]
  exact wpAny_truthy_bool q
inductive EqFs (prog : Program) (w : World) (A : Around) (s : Shared) : List Value → List Value → Prop
  | nil : EqFs prog w A s [] []
  | cons {v y : Value} {vs ys : List Value} : EqF prog w A s v y → EqFs prog w A s vs ys → EqFs prog w A s (v :: vs) (y :: ys)
theorem EqFs.get {prog : Program} {w : World} {A : Around} {s : Shared} {vs ys : List Value} (h : EqFs prog w A s vs ys) : vs.length = ys.length ∧ ∀ j (h1 : j < vs.length) (h2 : j < ys.length), EqF prog w A s vs[j] ys[j] := by
  induction h with
  | nil => exact ⟨rfl, fun j h1 => absurd h1 (Nat.not_lt_zero _)⟩
  | cons a _ ih =>
    refine ⟨congrArg (· + 1) ih.1, fun j h1 h2 => ?_⟩
    cases j with
    | zero => exact a
    | succ j => exact ih.2 j (Nat.lt_of_succ_lt_succ h1) (Nat.lt_of_succ_lt_succ h2)
theorem ne_same {prog : Program} {w : World} {A : Around} {E Q : Value → Shared → Prop} {s : Shared} {l b : Addr} {vs ys : List Value} (hl : s.heap.IsTuple l vs.toArray) (hb : s.heap.IsTuple b ys.toArray) (hu : A.units < cLine)
    (he : EqFs prog w A.in1 s vs ys) (h : Q (.bool false) s) : wpAny (model prog w) A (compareOp .NotEq (.ref l) (.ref b)) Q E s := by
  refine ne_tup (e := fun _ => true) hl hb hu (fun j h1 h2 E Q q => ?_) ?_
  · simp only [List.getElem_toArray]
    exact he.get.2 j (by simpa using h1) (by simpa using h2) E Q q
  · have e : (!((List.range (min vs.toArray.size ys.toArray.size)).all (fun _ => true) && vs.toArray.size == ys.toArray.size)) = false := by
      simp [he.get.1]
    rw [e]; exact h
theorem eq_same {prog : Program} {w : World} {A : Around} {E Q : Value → Shared → Prop} {s : Shared} {l b : Addr} {vs ys : List Value} (hl : s.heap.IsTuple l vs.toArray) (hb : s.heap.IsTuple b ys.toArray) (hu : A.units < cLine)
    (hn : vs.length = ys.length) (he : ∀ j (h1 : j < vs.length) (h2 : j < ys.length), EqAt A.in1 s vs[j] ys[j] true) (h : Q (.bool true) s) : wpAny (model prog w) A (compareOp .Eq (.ref l) (.ref b)) Q E s := by
  refine eq_tupleAt (e := fun _ => true) hl hb hu (fun j h1 h2 => ?_) ?_
  · simp only [List.getElem_toArray]
    exact he j (by simpa using h1) (by simpa using h2)
  · have e : ((List.range (min vs.toArray.size ys.toArray.size)).all (fun _ => true) && vs.toArray.size == ys.toArray.size) = true := by
      simp [hn]
    rw [e]; exact h
end Mine
end
noncomputable section
open Lean PySem PySem.W PySem.Spec PySem.Calls PyProof.Rows PyProof.V PySem.SeqAt
set_option maxRecDepth 100000
namespace Mine
section
variable {prog : Program} {w : World} {A : Around} {E : Value → Shared → Prop} {s : Shared}
theorem part_two {sl : Addr} {u : Tok} {Q : Int × Int × Nat → Shared → Prop} (hs : s.heap.IsSliceOf sl .none (.int 2 u) .none) (h : Q (0, 1, 2) s) :
    wpAny (model prog w) A (Builtin.Slice.sliceApplied (.ref sl) (pure 3)) Q E s := by
  obtain ⟨o, ho, _, hd⟩ := hs
  unfold Builtin.Slice.sliceApplied Builtin.Slice.sliceFields
  refine wpAny_bind (wpAny_bind (wpAny_field ho hd (x := .none) rfl (wpAny_bind (wpAny_field ho hd (x := .int 2 u) rfl (wpAny_bind (wpAny_field ho hd (x := .none) rfl (wpAny_pure ?_)))))))
  refine wpAny_bind (slicePart_none ?_)
  show wpAny _ _ (if ((1 : Int) == 0) = true then _ else _) _ _ s
  rw [if_neg (by decide)]
  refine wpAny_bind (slicePart_none (wpAny_bind (slicePart_int (wpAny_bind (wpAny_pure ?_)))))
  exact wpAny_pure h
theorem getItem_two {t sl : Addr} {x y z : Value} {u : Tok} {Q : Value → Shared → Prop} (ht : IsTup s.heap t #[x, y, z]) (hs : s.heap.IsSliceOf sl .none (.int 2 u) .none)
    (h : Q (.ref s.heap.objs.size) { s with heap := s.heap.push { cls := .type "tuple", data := .seq #[x, y] } }) : wpAny (model prog w) A (getItem (.ref t) (.ref sl)) Q E s := by
  have hok : sizeOk (.seq #[x, y]) := by
    show 2 ≤ sizeLine
    rw [sizeLine_eq]; decide
  have hT : s.TypeIs (.ref sl) "slice" := by
    obtain ⟨o, ho, hc, _⟩ := id hs
    exact ⟨o, ho, hc⟩
  unfold getItem
  try with_reducible refine wpAny_holding ?_
  first | refine wpAny_bind (wpAny_pure ?_) | skip
  refine wpAny_bind (wpAny_sequenceKey ht.typeIs (by decide) ?_)
  refine wpAny_bind (wpAny_callSpecial?_slot (name := Str.ofString "__getitem__") ht.typeIs slot_tuple_getitem
    (wpAny_call_entry slot_tuple_getitem ht.typeIs entry_tuple_getitem ?_ (args_tuple_getitem _ _)))
  show wpAny _ _ (Builtin.Tuple.tupleItemsOf (.ref t) >>= _) _ _ s
  refine wpAny_bind (tupleItemsOf_ ht ?_)
  refine wpAny_bind (wpAny_typeOf hT ?_)
  rw [if_pos (by decide)]
  refine wpAny_bind (part_two hs ?_)
  first
    | exact wpAny_bind (m := Builtin.Tuple.tupleExact _) (wpAny_newObj_type (wpAny_pure ⟨_, rfl, wpAny_pure h⟩) hok)
    | exact wpAny_bind (m := Builtin.Tuple.tupleExact _) (wpAny_newObj_type (wpAny_bind (wpAny_pure (wpAny_pure ⟨_, rfl, wpAny_pure h⟩))) hok)
    | exact wpAny_bind (wpAny_bind (m := Builtin.Tuple.tupleExact _) (wpAny_newObj_type (wpAny_pure (wpAny_pure ⟨_, rfl, wpAny_pure h⟩)) hok))
    | exact wpAny_bind (wpAny_bind (m := Builtin.Tuple.tupleExact _) (wpAny_newObj_type (wpAny_pure ⟨_, rfl, wpAny_pure h⟩) hok))
/-- the first two places of a triple -/
theorem r_two {value slice : PySem.Expr} {h₀ : Heap} {L : Addr} {m : Str → Option Value} {news : List (Addr × Obj)} {t : Addr} {x y z : Value} {u : Tok} {Q : Value → Shared → Prop}
    (F : Fr h₀ L s.heap m) (N : News h₀ L s.heap news) (ht : IsTup s.heap t #[x, y, z])
    (h : ∀ h' a, a = s.heap.objs.size + 1 → Fr h₀ L h' m → News h₀ L h' ((a, tupOf [x, y]) :: news) → Q (.ref a) { s with heap := h' })
    (hs : subscripted slice false (.ref t) (.ref s.heap.objs.size) = operate [.ref s.heap.objs.size, .ref t] (getItem (.ref t) (.ref s.heap.objs.size)) := by with_unfolding_all rfl)
    (hg : ∀ r, letTemporaryGo value (.ref t) r = pure () := by intro _; with_unfolding_all rfl) :
    wpAny (model prog w) A (subscriptTail value slice (.ref t) (.ref s.heap.objs.size)) Q E { s with heap := s.heap.push { cls := .type "slice", data := .fields #[.none, .int 2 u, .none] } } := by
  have ht' : IsTup (s.heap.push { cls := .type "slice", data := .fields #[.none, .int 2 u, .none] }) t #[x, y, z] := ht.keeps fun _ _ e => Heap.get?_push_of_some _ e
  refine subscriptTail_ops (s := { s with heap := s.heap.push { cls := .type "slice", data := .fields #[.none, .int 2 u, .none] } }) ht'.typeIs slot_tuple_getitem.lookup (getItem_two ht' (Heap.IsSliceOf.new ..) ?_) hs hg
  have N1 := News.push (F.push { cls := .type "slice", data := .fields #[.none, .int 2 u, .none] }) (N.grown fun _ _ e => Heap.get?_push_of_some _ e) { cls := .type "tuple", data := .seq #[x, y] }
  rw [Heap.size_push] at N1
  show Q (.ref (s.heap.push _).objs.size) _
  rw [Heap.size_push]
  exact h _ _ rfl ((F.push _).push _) N1
end
end Mine
end
noncomputable section
open Lean PySem PySem.W PySem.Spec PySem.Calls PyProof.Rows
set_option maxRecDepth 100000
namespace Mine
theorem fill_F19 : 0 = 0 ∧ 0 = 0 := by
  try walk1
  w_top off
  all_goals first | rfl | exact ⟨rfl, rfl⟩
local macro_rules | `(tactic| walk_at "noloop") => `(tactic| first
  | ((fail_if_success (fail_if_success (with_reducible show wpAny _ _ (execs _ _) _ _ _))); fail_if_success ((with_reducible refine st_execs ?_ ?_); (focus rfl)))
  | ((fail_if_success (fail_if_success (with_reducible show wpAny _ _ (exec _ _) _ _ _))); fail_if_success ((with_reducible refine st_exec ?_ ?_); (focus rfl)))
  | ((fail_if_success (with_reducible show wpAny _ _ (execs _ _) _ _ _)); (fail_if_success (with_reducible show wpAny _ _ (exec _ _) _ _ _)); (fail_if_success (with_reducible show wpAny _ _ (eval (Expr.ListComp _ _ _ _) _) _ _ _)); (fail_if_success (with_reducible show wpAny _ _ (pyIter _) _ _ _)); (fail_if_success (with_reducible show wpAny _ _ (truthy (Value.str (tx _) _)) _ _ _))))
local macro_rules | `(tactic| walk_at "go") => `(tactic| repeat' (first
  | (k_unfold; (try dsimp only))
  | (walk_at "noloop"; walk1)
  | (dsimp only; walk_at "noloop"; walk1)))
local macro_rules | `(tactic| walk_at "look") => `(tactic| ((try dsimp only); repeat' (first | exact List.forall_mem_nil _ | (refine List.forall_mem_cons.mpr ⟨by with_unfolding_all rfl, ?_⟩))))
local macro_rules | `(tactic| walk_at "ix") => `(tactic| first | omega | (simp only [List.length_take, List.length_drop] at *; omega))
local macro_rules | `(tactic| walk_at "subscriptTail Name Name str int") => `(tactic| ((with_reducible show wpAny _ _ (subscriptTail _ _ (Value.str (tx _) _) (Value.int _ _)) _ _ _); refine r_item (by walk_at "ix") (by walk_at "ix") (by walk_at "ix") ?_))
local macro_rules | `(tactic| walk_at "subscriptTail Name BinOp str int") => `(tactic| ((with_reducible show wpAny _ _ (subscriptTail _ _ (Value.str (tx _) _) (Value.int _ _)) _ _ _); refine r_item (by walk_at "ix") (by walk_at "ix") (by walk_at "ix") ?_))
local macro_rules | `(tactic| walk_at "compareOp In str str") => `(tactic| ((with_reducible show wpAny _ _ (compareOp _ (Value.str (tx _) _) (Value.str _ _)) _ _ _); refine r_in ?_))
local macro_rules | `(tactic| walk_at "compareOp NotIn str str") => `(tactic| ((with_reducible show wpAny _ _ (compareOp _ (Value.str (tx _) _) (Value.str _ _)) _ _ _); refine r_notin ?_))
local macro_rules | `(tactic| walk_at "compareOp Eq str str") => `(tactic| ((with_reducible show wpAny _ _ (compareOp _ (Value.str (tx _) _) (Value.str _ _)) _ _ _); refine r_eq ?_))
local macro_rules | `(tactic| walk_at "compareOp NotEq str str") => `(tactic| ((with_reducible show wpAny _ _ (compareOp _ (Value.str (tx _) _) (Value.str _ _)) _ _ _); refine r_ne ?_))
local macro_rules | `(tactic| walk_at "call builtin:ord") => `(tactic| ((with_reducible show wpAny _ _ (call _ [Value.str (tx _) _]) _ _ _); refine r_ord ?_))
local macro_rules | `(tactic| walk_at "call builtin:len") => `(tactic| ((with_reducible show wpAny _ _ (call _ [Value.str (tx _) _]) _ _ _); refine r_len (by walk_at "ix") ?_))
local macro_rules | `(tactic| walk_at "compareOp In str str") => `(tactic| ((with_reducible show wpAny _ _ (compareOp _ (Value.str (tx _) _) (Value.str _ _)) _ _ _); first | refine r_in2 isWs H_ws ?_ | refine r_in2 isBl H_bl ?_ | refine r_in2 isNl H_nl ?_ | refine r_in2 isBad H_bad ?_ | refine r_in2 isPu H_pu ?_))
local macro_rules | `(tactic| walk_at "compareOp NotIn str str") => `(tactic| ((with_reducible show wpAny _ _ (compareOp _ (Value.str (tx _) _) (Value.str _ _)) _ _ _); first | refine r_notin2 isWs H_ws ?_ | refine r_notin2 isPu H_pu ?_))
local macro_rules | `(tactic| walk_at "compareOp Eq str str") => `(tactic| ((with_reducible show wpAny _ _ (compareOp _ (Value.str (tx _) _) (Value.str _ _)) _ _ _); first | refine r_eq1 L_lt ?_ | refine r_eq1 L_gt ?_ | refine r_eq1 L_bs ?_ | refine r_eq1 L_lp ?_ | refine r_eq1 L_rp ?_ | refine r_eq1 L_del ?_ | refine r_eq1 L_nul ?_ | refine r_eq1 L_n ?_ | refine r_eq1 L_r ?_))
local macro_rules | `(tactic| walk_at "compareOp NotEq str str") => `(tactic| ((with_reducible show wpAny _ _ (compareOp _ (Value.str (tx _) _) (Value.str _ _)) _ _ _); first | refine r_ne1 L_rp ?_))
local macro_rules | `(tactic| walk_at "subscriptTail Name Slice str ref") => `(tactic| ((with_reducible show wpAny _ _ (subscriptTail _ (Expr.Slice (some _) (some _) none _) (Value.str (tx _) _) _) _ _ _); (with_reducible rename Fr _ _ _ _ => F'); (with_reducible rename News _ _ _ _ => N'); (refine r_slice (s := ⟨_, _, _, _, _⟩) (by walk_at "ix") (by walk_at "ix") (by walk_at "ix") F' N' ?_); intro _ _ _ _ _))
local macro_rules | `(tactic| walk_at "compareOp Eq str str") => `(tactic| ((with_reducible show wpAny _ _ (compareOp _ (Value.str (tx _) _) (Value.str _ _)) _ _ _); refine r_eqL L_rn ?_))
local macro_rules | `(tactic| walk_at "fact") => `(tactic| first | assumption | exact beq_iff_eq.mp (by assumption) | exact beq_eq_false_iff_ne.mp (by assumption) | omega)
local macro_rules | `(tactic| walk_at "noesc") => `(tactic| (rintro ⟨e1, e2, e3⟩; first | exact absurd e1 (beq_eq_false_iff_ne.mp (by assumption)) | exact Bool.noConfusion (Eq.trans (Eq.symm (show isPu _ = false from by assumption)) e3) | exact absurd (Eq.trans (Eq.symm e1) (beq_iff_eq.mp (show (List.getD _ _ _ == _) = true from by assumption))) (by decide) | omega))
local macro_rules | `(tactic| walk_at "cx") => `(tactic| exact ⟨by k_asm, by k_asm, by k_asm, by k_asm, by k_asm, rfl, rfl, rfl, rfl, (by (show _ + _ < _); omega), (by (show _ + 8 * _ < _); omega)⟩)
local macro_rules | `(tactic| walk_at "call ref") => `(tactic| ((with_reducible show wpAny _ _ (call (Value.ref 137) _ _) _ _ _); refine c_begin _ _ _ _ (by walk_at "cx") (by omega) ?_; intro t9 h9 k9 F9 N9; (try dsimp only)))
local macro_rules | `(tactic| walk_at "call ref") => `(tactic| ((with_reducible show wpAny _ _ (call (Value.ref 144) _ _) _ _ _); refine c_angle _ _ _ _ (by walk_at "cx") (by omega) (by omega) ?_ ?_; (all_goals intros); (all_goals (try dsimp only))))
local macro_rules | `(tactic| walk_at "call builtin:min") => `(tactic| ((with_reducible show wpAny _ _ (call (Value.builtin _) [Value.int _ _, Value.int _ _]) _ _ _); refine r_min (by omega) rfl (by assumption) (by assumption) ?_; intro h9 t9 k9 F9 N9))
local macro_rules | `(tactic| walk_at "retx") => `(tactic| (dsimp only; refine hret' _ _ _ _ _ _ (by assumption) (by assumption) fun F2 N2 => ?_))
local macro_rules | `(tactic| walk_at "upd") => `(tactic| first | exact Upd.head (by assumption) | (refine' Upd.tail ?a ?b; (case a => k_ne); (case b => walk_at "upd")))
local macro_rules | `(tactic| walk_at "sz") => `(tactic| ((try simp only [List.size_toArray, PySem.sizeLine_eq]); omega))
local macro_rules | `(tactic| walk_at "call builtin:list.append") => `(tactic| (k_here; (with_reducible show wpAny _ _ (call (Value.builtin _) [Value.ref _, _]) _ _ _); (refine' append_K ?k1 ?k2 ?k3 ?_ ?z; (case k1 => k_asm); (case k2 => k_asm); (case k3 => walk_at "upd"); (case z => walk_at "sz"); k_whole); intro h' F' N'; (try simp only [List.push_toArray] at N'); (try k_sweep)))
local macro_rules | `(tactic| walk_at "call ref") => `(tactic| ((with_reducible show wpAny _ _ (call (Value.ref 192) _ _) _ _ _); refine c_lbegin _ _ _ _ (by walk_at "cx") (by omega) ?_; intro t9 h9 k9 F9 N9; (try dsimp only)))
local macro_rules | `(tactic| walk_at "call ref") => `(tactic| ((with_reducible show wpAny _ _ (call (Value.ref 166) _ _) _ _ _); refine c_units _ _ _ _ _ _ (by walk_at "cx") (by walk_at "ix") (by walk_at "ix") ?_; intro a9 n9 vs9 tl9 h9 k9 U9 F9 N9 d9; (try dsimp only)))
local macro_rules | `(tactic| walk_at "subscriptTail Name Constant ref int") => `(tactic| ((with_reducible show wpAny _ _ (subscriptTail _ _ (Value.ref _) (Value.int _ _)) _ _ _); (with_unfolding_all refine' item_litK ?k1 ?k2 ?k3 ?k4 ?_ ?k6; (case k1 => exact News.isList (by k_asm) (by first | k_mem | walk_at "mem")); (case k2 => decide); (case k3 => decide); (case k4 => rfl); (case k6 => with_unfolding_all rfl); k_whole)))
local macro_rules | `(tactic| walk_at "offx") => `(tactic| (intro _; repeat' (first | exact List.forall_mem_nil _ | (refine List.forall_mem_cons.mpr ⟨by (show Str.ofString _ ≠ Str.ofString _); decide, ?_⟩))))
local macro_rules | `(tactic| walk_at "sub") => `(tactic| (intro q hq; (try simp only [List.cons_append, List.append_assoc, List.mem_cons, List.mem_append, List.not_mem_nil, or_false, or_assoc] at hq ⊢); (repeat' (first | exact hq | (refine Or.elim hq (fun hq => ?_) (fun hq => ?_)) | exact Or.inl hq | (refine Or.inr ?_)))))
local macro_rules | `(tactic| walk_at "mem") => `(tactic| first | assumption | exact List.mem_cons_self | (refine List.mem_cons_of_mem _ ?_; walk_at "mem") | (refine List.mem_append_left _ ?_; walk_at "mem") | (refine List.mem_append_right _ ?_; walk_at "mem"))
local macro_rules | `(tactic| walk_at "subscriptTail Name Name ref int") => `(tactic| ((with_reducible show wpAny _ _ (subscriptTail _ _ (Value.ref _) (Value.int _ _)) _ _ _); (with_unfolding_all refine' r_unit ?k1 ?k2 ?k3 ?k4 ?k5 ?k6 ?_ ?k7; (case k1 => k_asm); (case k2 => walk_at "mem"); (case k3 => assumption); (case k4 => omega); (case k5 => omega); (case k6 => omega); (case k7 => with_unfolding_all rfl)); intro a8 t8 t7 n8 m8))
local macro_rules | `(tactic| walk_at "subscriptTail Subscript") => `(tactic| with_reducible refine r_turn ?_)
local macro_rules | `(tactic| walk_at "compareOp Eq str str") => `(tactic| ((with_reducible show wpAny _ _ (compareOp _ (Value.str (tx _) _) (Value.str (tx _) _)) _ _ _); refine r_eqT ?_))
local macro_rules | `(tactic| walk_at "compareOp NotEq str str") => `(tactic| ((with_reducible show wpAny _ _ (compareOp _ (Value.str (tx _) _) (Value.str (tx _) _)) _ _ _); refine r_neT ?_))
local macro_rules | `(tactic| walk_at "compareOp NotIn str str") => `(tactic| ((with_reducible show wpAny _ _ (compareOp _ (Value.str (tx _) _) (Value.str _ _)) _ _ _); refine r_notin2 isOp H_open ?_))
local macro_rules | `(tactic| walk_at "eval Constant str") => `(tactic| with_reducible (first | refine r_const E_rp ?_ | refine r_const E_nil ?_))
local macro_rules | `(tactic| walk_at "binaryOp Add str str") => `(tactic| ((with_reducible show wpAny _ _ (binaryOp _ (Value.str (tx _) _) (Value.str (tx _) _)) _ _ _); refine r_cat (by first | omega | (simp only [List.length_append, List.length_cons, List.length_nil]; omega)) ?_; intro t9 k9))
local macro_rules | `(tactic| walk_at "call builtin:len") => `(tactic| ((with_reducible show wpAny _ _ (call (Value.builtin "len") [Value.ref _]) _ _ _); refine r_lenU (by k_asm) (by walk_at "mem") (by assumption) (by omega) ?_; intro t9 k9))
local macro_rules | `(tactic| walk_at "eval Name") => `(tactic| first
  | ((with_reducible refine' ld ?k1 ?k2 ?_ ?k3 ?k4 ?k5); (case k4 => kernel_rfl!); (case k1 => k_asm); (case k2 => k_dflt (exact rfl)); (case k3 => k_dflt (exact rfl)); (case k5 => decide); k_whole)
  | ((with_reducible refine' name_K ?k0 ?k1 ?k2 ?k3 ?_ ?k4 ?k5 ?k6); (case k5 => kernel_rfl!); (case k0 => k_asm); (case k1 => k_asm); (case k2 => k_asm); (case k3 => k_dflt k_is); (case k4 => k_dflt (exact rfl)); (case k6 => decide); k_whole))
local macro_rules | `(tactic| walk_at "ite") => `(tactic| first | with_reducible refine ite_tt ?_ | with_reducible refine ite_ff ?_ | with_reducible refine ite_True_then ?_ | with_reducible refine ite_False_else ?_ | (k_openite; first | refine ite_pos (by with_reducible assumption) ?_ | refine ite_neg (by with_reducible assumption) ?_ | refine ite_isFalse (by with_reducible assumption) ?_ | (with_reducible refine split_ine ?_ ?_ <;> intro _) | (with_reducible refine split_ieq ?_ ?_ <;> intro _) | with_reducible refine split_not ?_ | (refine split_dec ?_ ?_ <;> intro _) | (refine split_bool ?_ ?_ <;> intro _)))
local macro_rules | `(tactic| walk_at "callWith ref") => `(tactic| first
  | ((with_reducible refine' callWith_K ?k1 ?k2 ?_ ?k3 ?k4); (case k1 => k_asm); (case k2 => k_dflt k_is); (case k3 => k_dflt (exact rfl)); (case k4 => k_dflt (exact rfl)); k_whole)
  | ((with_reducible refine' callWith_K0 ?k1 ?k2 ?_); (case k1 => k_dflt k_in); (case k2 => k_dflt k_is); k_whole)
  | ((with_reducible refine' callWith_KW ?k1 ?k2 ?k3 ?_ ?k4 ?k5); (case k1 => k_asm); (case k2 => k_dflt k_is); (case k3 => k_dflt (exact rfl)); (case k4 => k_dflt (exact rfl)); (case k5 => k_dflt (exact rfl)); k_whole))

/-- what the law's own reader hands back -/
def DueIs (w : World) (l : List Nat) (start : Nat) (bound : Int) (a : Addr) (led : List (Addr × Obj)) : Prop :=
  (∃ u tt n d o ta tb, wholeS l start bound = (some (u, tt, n), n) ∧ (d == sysModules) = false ∧ DictIs w o (attrP u tt) ∧ led = [(a, tupOf [.ref d, .int (n : Nat) ta, .int (n : Nat) tb]), (d, o)]) ∨
  (∃ q tb, wholeS l start bound = (none, q) ∧ led = [(a, tupOf [.none, .none, .int (q : Nat) tb])])
local macro_rules | `(tactic| walk_at "stop9") => `(tactic| ((fail_if_success ((with_reducible refine st_call ?_ ?_); (focus rfl))); (fail_if_success (with_reducible show wpAny _ _ (compareOp .NotEq (Value.ref _) (Value.ref _)) _ _ _)); (fail_if_success (with_reducible show wpAny _ _ (compareOp .Eq (Value.ref _) (Value.ref _)) _ _ _)); (fail_if_success (with_reducible show wpAny _ _ (subscriptTail _ (Expr.Slice none (some _) none _) _ _) _ _ _)); walk_at "noloop"))
local macro_rules | `(tactic| walk_at "go9") => `(tactic| repeat' (first
  | (k_unfold; (try dsimp only))
  | (walk_at "stop9"; walk1)
  | (dsimp only; walk_at "stop9"; walk1)))
local macro_rules | `(tactic| walk_at "cxT") => `(tactic| exact ⟨by k_asm, by k_asm, by k_asm, by k_asm, by k_asm, rfl, rfl, rfl, rfl, Nat.le_of_ble_eq_true (by kernel_rfl), Nat.le_of_ble_eq_true (by kernel_rfl)⟩)
theorem tab_ne {h₀ h : Heap} {L B : Addr} {o : Obj} {b : Option (Addr × Obj)} {items : Array Value} (hb : tabG b) (hLO : LO o items) (N : News h₀ L h (tabL b ++ [(B, o)])) : ∀ q ∈ tabL b, q.1 ≠ B := by
  obtain ⟨hc, n, hd⟩ := hLO
  have gB := (N (B, o) (List.mem_append_right _ (.head _))).1
  have key : ∀ q ∈ tabL b, q.1 = B → q.2 = o := by
    intro q hq e
    have g := (N q (List.mem_append_left _ hq)).1
    rw [e] at g
    exact Option.some.inj (g.symm.trans gB)
  intro q hq e
  have hqo := key q hq e
  cases b with
  | none =>
    rcases List.mem_cons.mp hq with rfl | hq
    · rw [← hqo] at hc; cases hc
    · exact nomatch hq
  | some p =>
    obtain ⟨c, oc⟩ := p
    obtain ⟨_, vs, t, hv, _⟩ := hb
    rcases List.mem_cons.mp hq with rfl | hq
    · rw [← hqo] at hc; cases hc
    · rcases List.mem_cons.mp hq with rfl | hq
      · rw [← hqo] at hd
        have e2 := hv.symm.trans hd
        cases e2
      · exact nomatch hq
theorem tab_grown {h₀ h : Heap} {L : Addr} {b : Option (Addr × Obj)} {led : List (Addr × Obj)} (N : News h₀ L h led) (hs : ∀ q ∈ tabL b, q ∈ led) : GrownAt 76 h := by
  cases b with
  | none => exact ⟨_, (N _ (hs (76, _) (.head _))).1⟩
  | some p => exact ⟨_, (N _ (hs (76, _) (.head _))).1⟩
theorem eqA_str {A : Around} {s : Shared} {n : Str} {t u : Tok} : PySem.SeqAt.EqAt A s (.str n t) (.str n u) true := by
  have h := PySem.SeqAt.EqAt.str_str (A := A) (s := s) n t n u
  rw [beq_self_eq_true] at h
  exact h
theorem eqA_int {A : Around} {s : Shared} {n : Int} {t u : Tok} : PySem.SeqAt.EqAt A s (.int n t) (.int n u) true := by
  have h := PySem.SeqAt.EqAt.int_int (A := A) (s := s) n t n u
  rw [beq_self_eq_true] at h
  exact h
theorem two_eq {A : Around} {s : Shared} {a b c d : Value} (h : PySem.SeqAt.EqAt A s a c true) (h' : PySem.SeqAt.EqAt A s b d true) : ∀ j (h1 : j < [a, b].length) (h2 : j < [c, d].length), PySem.SeqAt.EqAt A s [a, b][j] [c, d][j] true
  | 0, _, _ => h
  | 1, _, _ => h'
  | j + 2, h1, _ => absurd h1 (by simp)
/-- what the law's own reader of a destination hands back -/
def HrefIs (l : List Nat) (start : Nat) (block : Bool) (bound : Int) (a : Addr) (led : List (Addr × Obj)) : Prop :=
  (∃ hr q ta tb tc, hrefS l start block bound = (some (hr, q), q) ∧ led = [(a, tupOf [.str (tx hr) ta, .int (q : Nat) tb, .int (q : Nat) tc])]) ∨
  (∃ q tb, hrefS l start block bound = (none, q) ∧ led = [(a, tupOf [.none, .none, .int (q : Nat) tb])])
theorem cutF {τ : Type} {prog : Program} {w : World} {A : Around} {s : Shared} {env : Env} {h₀ : Heap} {L : Addr} {E : Value → Shared → Prop} {Q : Flow → Shared → Prop} {m : Str → Option Value}
    {st : Stmt} {rest : List Stmt} (F : Fr h₀ L s.heap m) (LedX : τ → List (Addr × Obj)) (psX : τ → List (Str × Value)) (X : τ → Prop)
    (one : ∀ (D : Shared → Prop), (∀ c' h' tk' m' news', Fr h₀ L h' m' → News h₀ L h' news' → (∀ p ∈ LedX c', p ∈ news') → (∀ p ∈ psX c', m' p.1 = some p.2) → X c' → D { s with heap := h', toks := tk' }) →
      wpAny (model prog w) A (exec st env) (fun f s' => match f with | .next => D s' | f => Q f s') E s)
    (two : ∀ (c : τ) (u : Str → Option Value) h tk, X c → Fr h₀ L h (kstB u (psX c)) → News h₀ L h (LedX c) → wpAny (model prog w) A (execs rest env) Q E { s with heap := h, toks := tk }) :
    wpAny (model prog w) A (execs (st :: rest) env) Q E s := cut LedX psX X one two
local macro_rules | `(tactic| walk_at "sub2") => `(tactic| (intro q hq; (try simp only [List.cons_append, List.nil_append, List.append_assoc, List.mem_cons, List.mem_append, List.not_mem_nil, or_false, false_or, or_assoc] at hq ⊢); (repeat' (first | exact hq | exact False.elim hq | (refine Or.elim hq (fun hq => ?_) (fun hq => ?_)) | exact Or.inl hq | (refine Or.inr ?_)))))
set_option maxHeartbeats 8000000 in
theorem topZ : PySem.Challenge.rw_br5019_01.Holds := by
  refine hd ?_
  k_go0
  all_goals (try k_fold)
  all_goals (try dsimp only)
  walk_at "go9"
  with_reducible rename World => w6
  rename_i B h5 l1 h4 F4 N4
  with_reducible rename IntsAre _ _ => hII
  with_reducible rename ¬ _ < _ => hc63
  have hB0 : ∀ q ∈ tabL none ++ ([] : List (Addr × Obj)), q.1 ≠ B := by
    intro q hq
    rcases List.mem_cons.mp hq with rfl | hq
    · exact Nat.ne_of_lt l1
    · exact nomatch hq
  refine c_laid B _ _ _ _ 0 1 _ _ (k := 9) (news := tabL none ++ []) (by walk_at "cxT") lifted hII (by omega) (LO.of _ _) (by decide) (by decide) hB0 ?_
  intro x0 t0 o1 p1 st1 tp1 ts1 h6 k6 hx0 ha0 hLO1 hp1 hst1 F6 N6
  walk_at "go9"
  with_reducible rename News _ _ _ _ => N7
  with_reducible rename Fr _ _ _ _ => F7
  with_reducible rename _ < _ ∧ AllLt _ _ => l2
  have N8 := subN N7 swapM
  clear N7
  have hRB : ∀ {R : Addr} {o : Obj} {news : List (Addr × Obj)}, B < R ∧ AllLt R news → (∀ q ∈ news, q.1 ≠ B) → ∀ q ∈ (R, o) :: news, q.1 ≠ B := fun a b => List.forall_mem_cons.mpr ⟨Nat.ne_of_gt a.1, b⟩
  refine c_pick B _ _ _ _ o1 p1 st1 tp1 ts1 _ (k := 9) (by walk_at "cxT") lifted hII (by omega) hLO1 hp1 hst1 (hRB l2 hB0) (.inr ⟨_, .head _, LO.of _ _⟩) (Nat.le_of_ble_eq_true (by rfl)) (Nat.le_of_ble_eq_true (by rfl)) (PV.all (by kernel_rfl)) ?_
  intro x1 t1 o2 p2 st2 tp2 ts2 h10 k10 hx1 ha1 hLO2 hp2 hst2 F10 N10
  have N11 := subN (r' := (B, o2) :: (tabL none ++ [])) N10 (by walk_at "sub")
  clear N8 N10
  walk_at "go9"
  with_reducible rename News _ _ _ _ => N12
  with_reducible rename Fr _ _ _ _ => F12
  with_reducible rename _ < _ ∧ AllLt _ _ => l3
  have N13 := subN N12 swapM
  clear N12
  refine c_draw B _ _ _ o2 p2 st2 4 tp2 ts2 _ (k := 9) (by walk_at "cxT") lifted hII (by omega) hLO2 hp2 hst2 (by decide) (by decide) (hRB l3 hB0) ?_
  intro r tr o3 p3 st3 tp3 ts3 h14 k14 hr0 hr1 hLO3 hp3 hst3 F14 N14
  walk_at "go9"
  with_reducible rename News _ _ _ _ => N14b
  with_reducible rename Fr _ _ _ _ => F15
  have N15 := subN (r' := (B, o3) :: (tabL none ++ [])) N14b (by walk_at "sub")
  clear N14b
  have hlx : (x1 ++ x0).length ≤ 103 := by rw [List.length_append]; omega
  have hax : AlphT (x1 ++ x0) := ha1.app ha0
  with_reducible (refine cutF F15 (τ := Int × Tok × Tok × Addr × List (Addr × Obj)) (fun c => c.2.2.2.2 ++ ((B, o3) :: (tabL none ++ []))) (fun c => [(Str.ofString "box", .ref B), (Str.ofString "text", .str (tx (x1 ++ x0)) c.2.2.1), (Str.ofString "start", .str (tx x1) t1), (Str.ofString "bound", .int c.1 c.2.1), (Str.ofString "due", .ref c.2.2.2.1)]) (fun c => DueIs w6 (x1 ++ x0) x1.length c.1 c.2.2.2.1 c.2.2.2.2) ?_ ?_)
  · intro D hD
    walk_at "go9"
    refine c_whole (x1 ++ x0) x1.length _ _ _ _ (k := 8) (by walk_at "cxT") (by omega) hax ?_ ?_
    · intro u tt n a d o ta tb h17 k17 hW hds hDI F17 N17
      (try dsimp only)
      walk_at "go9"
      (try dsimp only)
      exact hD (_, _, _, a, [(a, _), (d, o)]) _ _ _ _ (by assumption) (by assumption) (fun _ h => h) (by walk_at "look") (.inl ⟨u, tt, n, d, o, ta, tb, hW, hds, hDI, rfl⟩)
    · intro q a tb h17 k17 hW F17 N17
      (try dsimp only)
      walk_at "go9"
      (try dsimp only)
      exact hD (_, _, _, a, [(a, _)]) _ _ _ _ (by assumption) (by assumption) (fun _ h => h) (by walk_at "look") (.inr ⟨q, tb, hW, rfl⟩)
  rintro ⟨bd, tbd, ttx, D0, led⟩ u0 h20 k20 hx F20 N20
  dsimp only at hx F20 N20 ⊢
  have hoB : okR [(B, o3)] := okR.cons (by rw [hLO3.1]; nofun) okR.nil
  with_reducible (refine cutF F20 (τ := Option (Addr × Obj)) (fun b => tabL b ++ [(B, o3)]) (fun _ => [(Str.ofString "box", .ref B), (Str.ofString "text", .str (tx (x1 ++ x0)) ttx), (Str.ofString "start", .str (tx x1) t1), (Str.ofString "bound", .int bd tbd)]) (fun b => tabG b) ?_ ?_)
  · intro D hD
    rcases hx with ⟨u, tt, n, d, o, ta, tb, hW, hds, hDI, rfl⟩ | ⟨q, tb, hW, rfl⟩
    · have hod : o.cls ≠ .none := by obtain ⟨kvs, ⟨es, ep, hx, _⟩, _⟩ := hDI; rw [hx.1]; nofun
      have hok : okR [(D0, tupOf [.ref d, .int (n : Nat) ta, .int (n : Nat) tb]), (d, o), (B, o3)] := okR.cons nofun (okR.cons hod hoB)
      walk_at "go9"
      with_reducible rename News _ _ _ _ => N21
      have N22 := subN (r' := tabL none ++ [(D0, tupOf [.ref d, .int (n : Nat) ta, .int (n : Nat) tb]), (d, o), (B, o3)]) N21 (by walk_at "sub")
      clear N21
      refine c_withend (x1 ++ x0) x1.length _ _ _ _ none (k := 8) (by walk_at "cxT") (by omega) hax codeHd trivial hok ?_ ?_
      · intro u' tt' n' a' d' o' ta' tb' b' h23 k23 hW' hds' hDI' hb' F23 N23
        cases hW.symm.trans hW'
        (try dsimp only)
        walk_at "go9"
        refine ne_same (vs := [.ref d', .int (n : Nat) ta', .int (n : Nat) tb']) (ys := [.ref d, .int (n : Nat) ta, .int (n : Nat) tb]) ⟨_, (N23 (a', _) (.head _)).1, rfl, _, rfl⟩ ⟨_, (N23 (D0, _) (by walk_at "mem")).1, rfl, _, rfl⟩ (Nat.le_of_ble_eq_true (by kernel_rfl))
          (.cons (EqF.dict hds' hds (N23 (d', o') (by walk_at "mem")).1 (N23 (d, o) (by walk_at "mem")).1 hDI' hDI (Nat.le_of_ble_eq_true (by kernel_rfl))) (.cons EqF.int (.cons EqF.int .nil))) ?_
        (try dsimp only)
        walk_at "go9"
        have N24 := subN (r' := tabL b' ++ [(D0, tupOf [.ref d, .int (n : Nat) ta, .int (n : Nat) tb]), (d, o), (B, o3)]) N23 (fun q hq => .tail _ (.tail _ hq))
        clear N22 N23
        refine c_parselink (x1 ++ x0) x1.length _ _ _ _ b' (k := 7) (by walk_at "cxT") (by omega) hax codeHd hb' hok ?_ ?_
        · intro u' tt' n' a2 d2 o2 ta2 b2 h25 k25 hW2 hds2 hDI2 hb2 F25 N25
          cases hW.symm.trans hW2
          clear N24
          (try dsimp only)
          walk_at "go9"
          refine r_two (s := ⟨_, _, _, _, _⟩) (by assumption) N25 ⟨_, (N25 (D0, _) (by walk_at "mem")).1, rfl, _, rfl⟩ ?_
          intro h26 a26 _ F26 N26
          walk_at "go9"
          refine ne_same (vs := [.ref d2, .int (n : Nat) ta2]) (ys := [.ref d, .int (n : Nat) ta]) ⟨_, (N26 (a2, _) (by walk_at "mem")).1, rfl, _, rfl⟩ ⟨_, (N26 (a26, _) (.head _)).1, rfl, _, rfl⟩ (Nat.le_of_ble_eq_true (by kernel_rfl))
            (.cons (EqF.dict hds2 hds (N26 (d2, o2) (by walk_at "mem")).1 (N26 (d, o) (by walk_at "mem")).1 hDI2 hDI (Nat.le_of_ble_eq_true (by kernel_rfl))) (.cons EqF.int .nil)) ?_
          (try dsimp only)
          walk_at "go9"
          (try dsimp only)
          exact hD b2 _ _ _ _ F26 N26 (by walk_at "sub") (by walk_at "look") hb2
        · intro q a2 b2 h25 k25 hW2
          cases hW.symm.trans hW2
      · intro q a' tb' b' h23 k23 hW'
        cases hW.symm.trans hW'
    · have hok : okR [(D0, tupOf [.none, .none, .int (q : Nat) tb]), (B, o3)] := okR.cons nofun hoB
      walk_at "go9"
      with_reducible rename News _ _ _ _ => N21
      have N22 := subN (r' := tabL none ++ [(D0, tupOf [.none, .none, .int (q : Nat) tb]), (B, o3)]) N21 (by walk_at "sub")
      clear N21
      refine c_withend (x1 ++ x0) x1.length _ _ _ _ none (k := 8) (by walk_at "cxT") (by omega) hax codeHd trivial hok ?_ ?_
      · intro u' tt' n' a' d' o' ta' tb' b' h23 k23 hW'
        cases hW.symm.trans hW'
      · intro q' a' tb' b' h23 k23 hW' hb' F23 N23
        cases hW.symm.trans hW'
        (try dsimp only)
        walk_at "go9"
        refine ne_same (vs := [.none, .none, .int (q : Nat) tb']) (ys := [.none, .none, .int (q : Nat) tb]) ⟨_, (N23 (a', _) (.head _)).1, rfl, _, rfl⟩ ⟨_, (N23 (D0, _) (by walk_at "mem")).1, rfl, _, rfl⟩ (Nat.le_of_ble_eq_true (by kernel_rfl))
          (.cons EqF.none (.cons EqF.none (.cons EqF.int .nil))) ?_
        (try dsimp only)
        walk_at "go9"
        have N24 := subN (r' := tabL b' ++ [(D0, tupOf [.none, .none, .int (q : Nat) tb]), (B, o3)]) N23 (fun q hq => .tail _ hq)
        clear N22 N23
        refine c_parselink (x1 ++ x0) x1.length _ _ _ _ b' (k := 7) (by walk_at "cxT") (by omega) hax codeHd hb' hok ?_ ?_
        · intro u' tt' n' a2 d2 o2 ta2 b2 h25 k25 hW2
          cases hW.symm.trans hW2
        · intro q' a2 b2 h25 k25 hW2 hb2 F25 N25
          cases hW.symm.trans hW2
          clear N24
          (try dsimp only)
          walk_at "go9"
          refine r_two (s := ⟨_, _, _, _, _⟩) (by assumption) N25 ⟨_, (N25 (D0, _) (by walk_at "mem")).1, rfl, _, rfl⟩ ?_
          intro h26 a26 _ F26 N26
          walk_at "go9"
          refine ne_same (vs := [.none, .none]) (ys := [.none, .none]) ⟨_, (N26 (a2, _) (by walk_at "mem")).1, rfl, _, rfl⟩ ⟨_, (N26 (a26, _) (.head _)).1, rfl, _, rfl⟩ (Nat.le_of_ble_eq_true (by kernel_rfl))
            (.cons EqF.none (.cons EqF.none .nil)) ?_
          (try dsimp only)
          walk_at "go9"
          (try dsimp only)
          exact hD b2 _ _ _ _ F26 N26 (by walk_at "sub") (by walk_at "look") hb2
  rintro bq u1 h30 k30 hbq F30 N30
  dsimp only at hbq F30 N30 ⊢
  clear N20 F20
  walk_at "go9"
  have hqB := tab_ne hbq hLO3 N30
  have N31 := subN (r' := (B, o3) :: tabL bq) N30 (by walk_at "sub")
  clear N30
  refine c_draw B _ _ _ o3 p3 st3 2 tp3 ts3 _ (k := 9) (by walk_at "cxT") lifted hII (by omega) hLO3 hp3 hst3 (by decide) (by decide) hqB ?_
  intro r2 tr2 o4 p4 st4 tp4 ts4 h32 k32 hr2 hr3 hLO4 hp4 hst4 F32 N32
  clear N31 F30
  (try dsimp only)
  walk_at "go9"
  with_reducible rename Fr _ _ _ _ => F33
  with_reducible rename News _ _ _ _ => N33
  with_reducible (refine cutF F33 (τ := Addr × List (Addr × Obj)) (fun c => c.2 ++ (tabL bq ++ [(B, o4)])) (fun c => [(Str.ofString "box", .ref B), (Str.ofString "text", .str (tx (x1 ++ x0)) ttx), (Str.ofString "start", .str (tx x1) t1), (Str.ofString "bound", .int bd tbd), (Str.ofString "block", .bool (r2 == 0)), (Str.ofString "href", .ref c.1)]) (fun c => HrefIs (x1 ++ x0) x1.length (r2 == 0) bd c.1 c.2) ?_ ?_)
  · intro D hD
    walk_at "go9"
    refine c_lhref (x1 ++ x0) x1.length (r2 == 0) bd _ _ _ (k := 8) (by walk_at "cxT") (by omega) ?_ ?_
    · intro hr q a ta tb tc h35 k35 hH F35 N35
      (try dsimp only)
      walk_at "go9"
      (try dsimp only)
      exact hD (a, [(a, _)]) _ _ _ _ (by assumption) (by assumption) (by walk_at "sub2") (by walk_at "look") (.inl ⟨hr, q, ta, tb, tc, hH, rfl⟩)
    · intro q a tb h35 k35 hH F35 N35
      (try dsimp only)
      walk_at "go9"
      (try dsimp only)
      exact hD (a, [(a, _)]) _ _ _ _ (by assumption) (by assumption) (by walk_at "sub2") (by walk_at "look") (.inr ⟨q, tb, hH, rfl⟩)
  clear F33 N33
  rintro ⟨H0, led2⟩ u2 h40 k40 hx2 F40 N40
  dsimp only at hx2 F40 N40 ⊢
  with_reducible (refine cutF F40 (τ := Unit) (fun _ => tabL bq ++ [(B, o4)]) (fun _ => [(Str.ofString "box", .ref B), (Str.ofString "text", .str (tx (x1 ++ x0)) ttx), (Str.ofString "start", .str (tx x1) t1), (Str.ofString "bound", .int bd tbd)]) (fun _ => True) ?_ ?_)
  · intro D hD
    rcases hx2 with ⟨hr, q, ta, tb, tc, hH, rfl⟩ | ⟨q, tb, hH, rfl⟩
    · walk_at "go9"
      refine c_href2 (x1 ++ x0) x1.length (r2 == 0) bd _ _ _ (k := 8) (by walk_at "cxT") (by omega) ?_ ?_
      · intro hr' q' a2 ta2 tb2 h43 k43 hH2 F43 N43
        cases hH.symm.trans hH2
        (try dsimp only)
        walk_at "go9"
        refine r_two (s := ⟨_, _, _, _, _⟩) (by assumption) N43 ⟨_, (N43 (H0, _) (by walk_at "mem")).1, rfl, _, rfl⟩ ?_
        intro h44 a44 _ F44 N44
        walk_at "go9"
        refine ne_same (vs := [.str (tx hr) ta2, .int (q : Nat) tb2]) (ys := [.str (tx hr) ta, .int (q : Nat) tb]) ⟨_, (N44 (a2, _) (by walk_at "mem")).1, rfl, _, rfl⟩ ⟨_, (N44 (a44, _) (.head _)).1, rfl, _, rfl⟩ (Nat.le_of_ble_eq_true (by kernel_rfl)) (.cons EqF.str (.cons EqF.int .nil)) ?_
        (try dsimp only)
        walk_at "go9"
        (try dsimp only)
        exact hD () _ _ _ _ F44 N44 (by walk_at "sub") (by walk_at "look") trivial
      · intro q' a2 h43 k43 hH2
        cases hH.symm.trans hH2
    · walk_at "go9"
      refine c_href2 (x1 ++ x0) x1.length (r2 == 0) bd _ _ _ (k := 8) (by walk_at "cxT") (by omega) ?_ ?_
      · intro hr' q' a2 ta2 tb2 h43 k43 hH2
        cases hH.symm.trans hH2
      · intro q' a2 h43 k43 hH2 F43 N43
        cases hH.symm.trans hH2
        (try dsimp only)
        walk_at "go9"
        refine r_two (s := ⟨_, _, _, _, _⟩) (by assumption) N43 ⟨_, (N43 (H0, _) (by walk_at "mem")).1, rfl, _, rfl⟩ ?_
        intro h44 a44 _ F44 N44
        walk_at "go9"
        refine ne_same (vs := [.none, .none]) (ys := [.none, .none]) ⟨_, (N44 (a2, _) (by walk_at "mem")).1, rfl, _, rfl⟩ ⟨_, (N44 (a44, _) (.head _)).1, rfl, _, rfl⟩ (Nat.le_of_ble_eq_true (by kernel_rfl)) (.cons EqF.none (.cons EqF.none .nil)) ?_
        (try dsimp only)
        walk_at "go9"
        (try dsimp only)
        exact hD () _ _ _ _ F44 N44 (by walk_at "sub") (by walk_at "look") trivial
  clear F40 N40
  rintro _ u3 h50 k50 _ F50 N50
  dsimp only at F50 N50 ⊢
  walk_at "go9"
  have N51 := subN (r' := (B, o4) :: tabL bq) N50 (by walk_at "sub")
  clear N50
  refine c_draw B _ _ _ o4 p4 st4 _ tp4 ts4 _ (k := 9) (by walk_at "cxT") lifted hII (by omega) hLO4 hp4 hst4 (by omega) (by omega) hqB ?_
  intro r3 tr3 o5 p5 st5 tp5 ts5 h52 k52 hf0 hf1 hLO5 hp5 hst5 F52 N52
  clear N51 F50
  obtain ⟨f, rfl⟩ := Int.eq_ofNat_of_zero_le hf0
  (try dsimp only)
  walk_at "go9"
  with_reducible rename Fr _ _ _ _ => F53
  with_reducible rename News _ _ _ _ => N53
  refine c_draw B _ _ _ o5 p5 st5 _ tp5 ts5 _ (k := 9) (by walk_at "cxT") lifted hII (by omega) hLO5 hp5 hst5 (by omega) (by omega) hqB ?_
  intro r4 tr4 o6 p6 st6 tp6 ts6 h54 k54 he0 he1 hLO6 hp6 hst6 F54 N54
  clear N53 F53
  obtain ⟨g, rfl⟩ := Int.eq_ofNat_of_zero_le he0
  (try dsimp only)
  walk_at "go9"
  with_reducible rename Fr _ _ _ _ => F55
  with_reducible rename News _ _ _ _ => N55
  have N56 := subN (r' := tabL bq ++ [(B, o6)]) N55 (by walk_at "sub")
  clear N55
  have hoB6 : okR [(B, o6)] := okR.cons (by rw [hLO6.1]; nofun) okR.nil
  refine c_title (x1 ++ x0) f (f + g) _ _ _ bq (k := 6) (by walk_at "cxT") (by omega) (by omega) codeHd hbq hoB6 ?_ ?_
  · intro tt e a ta tb b2 h57 k57 hT hb2 F57 N57
    (try dsimp only)
    walk_at "go9"
    refine c_ltitle (x1 ++ x0) f (f + g) _ _ _ (k := 8) (by walk_at "cxT") (by omega) (by omega) ?_ ?_
    · intro tt' e' a2 ta2 tb2 h58 k58 hT2 F58 N58
      cases hT.symm.trans hT2
      (try dsimp only)
      walk_at "go9"
      refine eq_same (vs := [.str (tx tt) ta, .int (e : Nat) tb]) (ys := [.str (tx tt) ta2, .int (e : Nat) tb2]) ⟨_, (N58 (a, _) (by walk_at "mem")).1, rfl, _, rfl⟩ ⟨_, (N58 (a2, _) (.head _)).1, rfl, _, rfl⟩ (Nat.le_of_ble_eq_true (by kernel_rfl)) rfl (two_eq eqA_str eqA_int) ?_
      (try dsimp only)
      exact ⟨goodW_bool F58 (by assumption) (raisesW_false (by wrow_none_raised)) (by with_unfolding_all rfl), tab_grown N58 (by walk_at "sub"), trivial⟩
    · intro a2 h58 k58 hT2
      cases hT.symm.trans hT2
  · intro a h57 k57 hT F57 N57
    (try dsimp only)
    walk_at "go9"
    refine c_ltitle (x1 ++ x0) f (f + g) _ _ _ (k := 8) (by walk_at "cxT") (by omega) (by omega) ?_ ?_
    · intro tt' e' a2 ta2 tb2 h58 k58 hT2
      cases hT.symm.trans hT2
    · intro a2 h58 k58 hT2 F58 N58
      (try dsimp only)
      walk_at "go9"
      refine eq_same (vs := [.none, .none]) (ys := [.none, .none]) ⟨_, (N58 (a, _) (by walk_at "mem")).1, rfl, _, rfl⟩ ⟨_, (N58 (a2, _) (.head _)).1, rfl, _, rfl⟩ (Nat.le_of_ble_eq_true (by kernel_rfl)) rfl (two_eq (PySem.SeqAt.EqAt.same _) (PySem.SeqAt.EqAt.same _)) ?_
      (try dsimp only)
      exact ⟨goodW_bool F58 (by assumption) (raisesW_false (by wrow_none_raised)) (by with_unfolding_all rfl), tab_grown N58 (by walk_at "sub"), trivial⟩

end Mine
end
theorem PySem.Challenge.cw_br5019_01_holds : PySem.Challenge.rw_br5019_01.Holds :=
  Mine.topZ
