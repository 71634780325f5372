import PyProof.Rows.All
import Wide.All
import OpenK.AllK
import Wide.FinOn
import Lean
import PySem.Challenge.RW_wn0052_01
open PySem PySem.W PyProof.Rows
set_option Elab.async false
set_option maxRecDepth 100000
set_option compiler.extract_closed false
namespace Mine
-- part WHead
section
/-- the law's text without its rows that name a module -/
noncomputable def vw : Program := view PySem.Challenge.pw_wn0052_01 [1, 2, 3, 4, 5, 7, 8, 9, 11, 12, 13, 15, 16, 17, 18, 19, 20, 21, 22, 23]
/-- the head: the rules of holds_open for this text; the run of the text's top is left, for one step of the kernel -/
theorem head_of (H : Hook) {d : DefRec} {kwd : List (Str × Expr)} (hdef : defOf vw PySem.Challenge.rw_wn0052_01.row.name = some (d, kwd))
    (hp : PySem.Challenge.rw_wn0052_01.row.prog.theDef PySem.Challenge.rw_wn0052_01.row.name = some (d.params, d.body, d.scope)) (hk : kwWritten? d.params.kwonlyargs d.params.kw_defaults = some kwd)
    (k1 : PySem.Challenge.rw_wn0052_01.row.wellSaid = true) (hl : LeftO PySem.Challenge.rw_wn0052_01.row.prog vw [] (fun s => xlAt vw [] s && recOk PySem.Challenge.rw_wn0052_01.row.toRowW.records s) H.obs H.val 1968)
    (hw : PySem.Challenge.rw_wn0052_01.row.toRowW.promised) (hc : WalkO vw [] (XL vw []) H.says PySem.Challenge.rw_wn0052_01.row.toRowW d kwd fun f vs => PySem.call f vs) : PySem.Challenge.rw_wn0052_01.row.Holds :=
  holds_open (q := vw) (loose := []) (N := 1968) hl H.of H.keeps (fun s e => xl_of s (Bool.and_eq_true_iff.mp e).1) XL.keeps hdef hp hk (fun s e => recFacts_of (Bool.and_eq_true_iff.mp e).2) (by rfl) k1
    (by decide +kernel) ⟨rfl, rfl, rfl, rfl, rfl, by decide +kernel⟩ hw hc
/-- the looks at the text; the library's own quick forms of what they call -/
theorem well_said : PySem.Challenge.rw_wn0052_01.wellSaid = true := by
  unfold OpenLaw.wellSaid
  repeat' (with_reducible refine look_both ?_ ?_)
  all_goals (try rw [PySem.W.Fast.te17960256430627541270])
  all_goals (try rw [PySem.W.Fast.te8326940854005059898])
  all_goals (try rw [PySem.W.Fast.te17119622794617984870])
  all_goals (try rw [PySem.W.Fast.te8179353310426384613])
  all_goals (try rw [PySem.W.Fast.te9558739934217749035])
  all_goals (try rw [PySem.W.Fast.te16286561074155671207])
  all_goals (try rw [PySem.W.Fast.named_eq])
  all_goals decide +kernel
local macro_rules | `(tactic| o_law) => `(tactic| refine holds_law well_said fun _ => ?_)
local macro_rules | `(tactic| o_head $H) => `(tactic| (refine head_of $H (by rfl) (by rfl) (by rfl) (by assumption) (fun _ => by (unfold openEnds fencedOpening topFrom; rw [PySem.W.Fast.te10274390034422433532, PySem.W.Fast.te14082659384304107361, PySem.W.Fast.te4187177175401517315, PySem.W.Fast.te14364793385576792824]; kernel_rfl)) ?hw ?hc))
set_option maxHeartbeats 8000000
open_top hd for PySem.Challenge.rw_wn0052_01
end
-- part WBase
section
noncomputable abbrev prog := PySem.Challenge.rw_wn0052_01.row.prog
/-- a value back, nothing else that the caller sees -/
noncomputable abbrev Ret (h₀ : Heap) (L : Addr) (m : Str → Option Value) (news : List (Addr × Obj)) (s : Shared) (Q : Value → Shared → Prop) (R : Tok → Value) : Prop :=
  ∀ (t : Tok) (h' : Heap) (tk' : Nat), Fr h₀ L h' m → News h₀ L h' news → Q (R t) { s with heap := h', toks := tk' }
theorem retS {h₀ h' : Heap} {L : Addr} {m : Str → Option Value} {news : List (Addr × Obj)} {s : Shared} {Q : Value → Shared → Prop} {t : Tok} {tk' : Nat} {x y : Str} (hret : Ret h₀ L m news s Q fun t => .str x t) (e : y = x) (F : Fr h₀ L h' m) (N : News h₀ L h' news) :
    Q (.str y t) { s with heap := h', toks := tk' } := by subst e; exact hret t h' tk' F N
theorem retI {h₀ h' : Heap} {L : Addr} {m : Str → Option Value} {news : List (Addr × Obj)} {s : Shared} {Q : Value → Shared → Prop} {t : Tok} {tk' : Nat} {x y : Int} (hret : Ret h₀ L m news s Q fun t => .int x t) (e : y = x) (F : Fr h₀ L h' m) (N : News h₀ L h' news) :
    Q (.int y t) { s with heap := h', toks := tk' } := by subst e; exact hret t h' tk' F N
end
-- part WLoop
section
/-- where a loop of ours stands: the frame's names ps, the ledger led -/
noncomputable def At (g : Heap) (L : Addr) (s₀ : Shared) (ps : List (Str × Value)) (led : List (Addr × Obj)) (s' : Shared) : Prop :=
  ∃ h tk m, s' = { s₀ with heap := h, toks := tk } ∧ Fr g L h m ∧ News g L h led ∧ ∀ p ∈ ps, m p.1 = some p.2

theorem At.intro {g h : Heap} {L : Addr} {s₀ : Shared} {ps : List (Str × Value)} {led led' : List (Addr × Obj)} {m : Str → Option Value} {tk : Nat}
    (F : Fr g L h m) (N : News g L h led') (hn : ∀ p ∈ led, p ∈ led') (hk : ∀ p ∈ ps, m p.1 = some p.2) : At g L s₀ ps led { s₀ with heap := h, toks := tk } :=
  ⟨h, tk, m, rfl, F, fun p hp => N p (hn p hp), hk⟩

/-- the names ps, written out ahead of the frame's own map -/
noncomputable def see (m : Str → Option Value) : List (Str × Value) → Str → Option Value
  | [] => m
  | (k, v) :: r => fun z => if z = k then some v else see m r z
theorem see_eq {m : Str → Option Value} : ∀ {ps : List (Str × Value)}, (∀ p ∈ ps, m p.1 = some p.2) → see m ps = m
  | [], _ => rfl
  | (k, v) :: r, h => by
    funext z
    show (if z = k then some v else see m r z) = m z
    rw [see_eq fun p hp => h p (.tail _ hp)]
    by_cases e : z = k
    · rw [if_pos e, e]; exact (h (k, v) (.head _)).symm
    · rw [if_neg e]
theorem fr_see {g h : Heap} {L : Addr} {ps : List (Str × Value)} {m : Str → Option Value} (F : Fr g L h m) (hk : ∀ p ∈ ps, m p.1 = some p.2) : Fr g L h (see m ps) := by
  rw [see_eq hk]; exact F

noncomputable def Turn (next : Shared → Prop) (Q : Flow → Shared → Prop) (f : Flow) (s₃ : Shared) : Prop :=
  match f with
  | .ret v => Q (.ret v) s₃
  | .brk => Q .next s₃
  | _ => next s₃

noncomputable def NextW {σ : Type} (g : Heap) (L : Addr) (s₀ : Shared) (ps : σ → List (Str × Value)) (Led : σ → List (Addr × Obj)) (P : σ → Prop) (μ : σ → Nat) (c : σ) (s₃ : Shared) : Prop :=
  ∃ c', μ c' < μ c ∧ P c' ∧ At g L s₀ (ps c') (Led c') s₃

noncomputable def NextF {σ : Type} (g : Heap) (L : Addr) (s₀ : Shared) (ps : σ → List (Str × Value)) (Led : σ → List (Addr × Obj)) (P : Nat → σ → Prop) (i : Nat) (I : Addr) (o : Obj) (s₃ : Shared) : Prop :=
  ∃ c', P (i + 1) c' ∧ (∀ p ∈ Led c', p.1 ≠ I) ∧ At g L s₀ (ps c') ((I, o) :: Led c') s₃

theorem NextW.intro {σ : Type} {g h : Heap} {L : Addr} {s₀ : Shared} {ps : σ → List (Str × Value)} {Led : σ → List (Addr × Obj)} {P : σ → Prop} {μ : σ → Nat} {c : σ} {led' : List (Addr × Obj)} {m : Str → Option Value} {tk : Nat} (c' : σ)
    (F : Fr g L h m) (N : News g L h led') (hm : μ c' < μ c) (hp : P c') (hn : ∀ p ∈ Led c', p ∈ led') (hk : ∀ p ∈ ps c', m p.1 = some p.2) : NextW g L s₀ ps Led P μ c { s₀ with heap := h, toks := tk } :=
  ⟨c', hm, hp, At.intro F N hn hk⟩

theorem NextF.intro {σ : Type} {g h : Heap} {L : Addr} {s₀ : Shared} {ps : σ → List (Str × Value)} {Led : σ → List (Addr × Obj)} {P : Nat → σ → Prop} {i : Nat} {I : Addr} {o : Obj} {led' : List (Addr × Obj)} {m : Str → Option Value} {tk : Nat} (c' : σ)
    (F : Fr g L h m) (N : News g L h led') (hp : P (i + 1) c') (hne : ∀ p ∈ Led c', p.1 ≠ I) (hn : ∀ p ∈ (I, o) :: Led c', p ∈ led') (hk : ∀ p ∈ ps c', m p.1 = some p.2) : NextF g L s₀ ps Led P i I o { s₀ with heap := h, toks := tk } :=
  ⟨c', hp, hne, At.intro F N hn hk⟩

theorem push_list (us : List Value) (v : Value) (k : Nat) : ({ cls := .type "list", data := .seq (us.toArray.push v) k } : Obj) = PySem.W.listOf (us ++ [v]).toArray k := by simp [PySem.W.listOf]

theorem push_list' (us : List Value) (v : Value) (k : Nat) : PySem.W.listOf (us.toArray.push v) k = PySem.W.listOf (us ++ [v]).toArray k := by simp [PySem.W.listOf]
section
variable {prog : Program} {w : World} {A : Around} {E : Value → Shared → Prop} {s : Shared} {env : Env} {g : Heap} {Q : Flow → Shared → Prop} {led₀ : List (Addr × Obj)} {m₀ : Str → Option Value}

/-- a while is come to -/
noncomputable def KWhile (prog : Program) (w : World) (A : Around) (env : Env) (test : PySem.Expr) (body : List Stmt) (pos : Pos) (Q : Flow → Shared → Prop) (E : Value → Shared → Prop) (s : Shared) : Prop :=
  wpAny (model prog w) A (exec (.While test body [] pos) env) Q E s
theorem kwhile_start {test : PySem.Expr} {body : List Stmt} {pos : Pos} (h : KWhile prog w A env test body pos Q E s) : wpAny (model prog w) A (exec (.While test body [] pos) env) Q E s := h

theorem kwhile {σ : Type} {L : Addr} {test : PySem.Expr} {body : List Stmt} {pos : Pos} (ps : σ → List (Str × Value)) (Led : σ → List (Addr × Obj)) (P : σ → Prop) (μ : σ → Nat) (c₀ : σ)
    (F : Fr g L s.heap m₀) (N : News g L s.heap led₀) (hn : ∀ p ∈ Led c₀, p ∈ led₀) (hk : ∀ p ∈ ps c₀, m₀ p.1 = some p.2) (hp : P c₀)
    (hE : PassesOwn (model prog w) A env E)
    (turn : ∀ c m h tk, P c → Fr g L h (see m (ps c)) → News g L h (Led c) →
      wpAny (model prog w) A (isTrue test env (eval test env)) (fun b s₂ =>
        if b = true then wpAny (model prog w) A (execs body env) (Turn (NextW g L s ps Led P μ c) Q) E s₂ else Q .next s₂) E { s with heap := h, toks := tk }) :
    KWhile prog w A env test body pos Q E s := by
  refine While_inv2 (fun n m nx => ∃ c : σ, nx = Led c ∧ μ c = n ∧ (∀ p ∈ ps c, m p.1 = some p.2) ∧ P c) F (fun p h => N p (hn p h)) ⟨c₀, rfl, rfl, hk, hp⟩ ?_ hE
  rintro n m₁ nx h tk F₁ N₁ ⟨c, rfl, rfl, h1, hp'⟩
  refine wpAny_mono (turn c m₁ h tk hp' (fr_see F₁ h1) N₁) (fun b s₂ p => ?_) fun _ _ x => x
  cases b with
  | false => simpa using p
  | true =>
    simp only [if_true] at p ⊢
    refine wpAny_mono p (fun f s₃ q => ?_) fun _ _ x => x
    have fin : NextW g L s ps Led P μ c s₃ → ∃ h' tk' m' nx' n', s₃ = { s with heap := h', toks := tk' } ∧ Fr g L h' m' ∧ News g L h' nx' ∧ n' < μ c ∧ ∃ c : σ, nx' = Led c ∧ μ c = n' ∧ (∀ p ∈ ps c, m' p.1 = some p.2) ∧ P c := by
      rintro ⟨c', hm, hpc, h', tk', m', rfl, F', N', hk'⟩
      exact ⟨h', tk', m', _, _, rfl, F', N', hm, c', rfl, rfl, hk', hpc⟩
    cases f with
    | ret v => exact q
    | brk => exact q
    | next =>
      obtain ⟨h', tk', m', nx', n', e1, e2, e3, e4, e5⟩ := fin q
      exact ⟨h', tk', m', nx', n', e1, e2, e3, e4, e5⟩
    | cont =>
      obtain ⟨h', tk', m', nx', n', e1, e2, e3, e4, e5⟩ := fin q
      exact ⟨h', tk', m', nx', n', e1, e2, e3, e4, e5⟩

noncomputable def ExitW {σ : Type} (g : Heap) (L : Addr) (s₀ : Shared) (ps : σ → List (Str × Value)) (Led : σ → List (Addr × Obj)) (P : σ → Prop) (s₃ : Shared) : Prop :=
  ∃ c', P c' ∧ At g L s₀ (ps c') (Led c') s₃
theorem ExitW.intro {σ : Type} {g h : Heap} {L : Addr} {s₀ : Shared} {ps : σ → List (Str × Value)} {Led : σ → List (Addr × Obj)} {P : σ → Prop} {led' : List (Addr × Obj)} {m : Str → Option Value} {tk : Nat} (c' : σ)
    (F : Fr g L h m) (N : News g L h led') (hp : P c') (hn : ∀ p ∈ Led c', p ∈ led') (hk : ∀ p ∈ ps c', m p.1 = some p.2) : ExitW g L s₀ ps Led P { s₀ with heap := h, toks := tk } :=
  ⟨c', hp, At.intro F N hn hk⟩
noncomputable def TurnD (next exit : Shared → Prop) (Q : Flow → Shared → Prop) (f : Flow) (s₃ : Shared) : Prop :=
  match f with
  | .ret v => Q (.ret v) s₃
  | .brk => exit s₃
  | _ => next s₃
/-- a while whose ways out meet -/
theorem kwhileD {σ : Type} {L : Addr} {test : PySem.Expr} {body : List Stmt} {pos : Pos} (ps : σ → List (Str × Value)) (Led : σ → List (Addr × Obj)) (P P' : σ → Prop) (μ : σ → Nat) (c₀ : σ)
    (F : Fr g L s.heap m₀) (N : News g L s.heap led₀) (hn : ∀ p ∈ Led c₀, p ∈ led₀) (hk : ∀ p ∈ ps c₀, m₀ p.1 = some p.2) (hp : P c₀)
    (hE : PassesOwn (model prog w) A env E)
    (turn : ∀ c m h tk, P c → Fr g L h (see m (ps c)) → News g L h (Led c) →
      wpAny (model prog w) A (isTrue test env (eval test env)) (fun b s₂ =>
        if b = true then wpAny (model prog w) A (execs body env) (TurnD (NextW g L s ps Led P μ c) (ExitW g L s ps Led P') Q) E s₂ else ExitW g L s ps Led P' s₂) E { s with heap := h, toks := tk })
    (done : ∀ c m h tk, P' c → Fr g L h (see m (ps c)) → News g L h (Led c) → Q .next { s with heap := h, toks := tk }) :
    KWhile prog w A env test body pos Q E s := by
  have dn : ∀ s₂, ExitW g L s ps Led P' s₂ → Q .next s₂ := by
    rintro s₂ ⟨c', hpc, h', tk', m', rfl, F', N', hk'⟩
    exact done c' m' h' tk' hpc (fr_see F' hk') N'
  refine kwhile ps Led P μ c₀ F N hn hk hp hE fun c m h tk hpc F₁ N₁ => wpAny_mono (turn c m h tk hpc F₁ N₁) (fun b s₂ p => ?_) fun _ _ x => x
  cases b with
  | false => simp only [Bool.false_eq_true, if_false] at p ⊢; exact dn _ p
  | true =>
    simp only [if_true] at p ⊢
    refine wpAny_mono p (fun f s₃ q => ?_) fun _ _ x => x
    cases f with
    | ret v => exact q
    | brk => exact dn _ q
    | next => exact q
    | cont => exact q

/-- a for's iterable is known -/
noncomputable def KIter (prog : Program) (w : World) (A : Around) (env : Env) (target : PySem.Expr) (body : List Stmt) (Q : Flow → Shared → Prop) (E : Value → Shared → Prop) (x : Value) (s : Shared) : Prop :=
  wpAny (model prog w) A (pyIter x) (fun it s₂ => codeAny (model prog w) A (.forLoop target it body [] env) (fun r s' => match r with | .ok f => Q f s' | .error e => cameBackBy (model prog w) A env E e s') s₂) E s
theorem kfor_start {target iter : PySem.Expr} {body : List Stmt} {pos : Pos} (h : wpAny (model prog w) A (eval iter env) (fun x s₁ => KIter prog w A env target body Q E x s₁) E s)
    (hs : ∀ x, foldedSetIterable iter env x = pure x := by intro _; rfl) : wpAny (model prog w) A (exec (.For target iter body [] pos) env) Q E s := wpAny_For h hs

/-- what holds ahead of each turn of a for -/
noncomputable def LInv {σ : Type} (L : Addr) (g : Heap) (s : Shared) (I : Addr) (n : Nat) (St : Nat → Heap → Prop) (ps : σ → List (Str × Value)) (Led : σ → List (Addr × Obj)) (P : Nat → σ → Prop) (k : Nat) (s' : Shared) : Prop :=
  ∃ i c h' tk m', s' = { s with heap := h', toks := tk } ∧ St i h' ∧ Fr g L h' m' ∧ News g L h' (Led c) ∧ (∀ p ∈ Led c, p.1 ≠ I) ∧ (∀ p ∈ ps c, m' p.1 = some p.2) ∧ P i c ∧ i ≤ n ∧ k = n + 1 - i
theorem kfor_core {σ : Type} {target : PySem.Expr} {body : List Stmt} {I : Addr} {fp : List Addr} {n : Nat} {Val : Nat → Value → Prop} {St : Nat → Heap → Prop} (ps : σ → List (Str × Value)) (Led : σ → List (Addr × Obj)) (P : Nat → σ → Prop) (c₀ : σ)
    (W : Walks prog w A I fp [I] n Val St) (hI : ∀ i h, St i h → ∃ o, h.get? I = some o) (hfp : ∀ b ∈ fp, b ≠ I → ∃ o, ∀ c, (b, o) ∈ Led c)
    (hgo : ∀ i v (s' : Shared) (Q' : Unit → Shared → Prop) (E' : Value → Shared → Prop), St i s'.heap → Q' () s' → wpAny (model prog w) A (letOwnedTupleGo target (.ref I) v) Q' E' s')
    (hIL : I ≠ env.locals) (hIg : g.get? I = none) (F : Fr g env.locals s.heap m₀) (N : News g env.locals s.heap led₀) (hn : ∀ p ∈ Led c₀, p ∈ led₀) (hne : ∀ p ∈ Led c₀, p.1 ≠ I) (hk : ∀ p ∈ ps c₀, m₀ p.1 = some p.2) (hp : P 0 c₀) (hst : St 0 s.heap)
    (hE : PassesOwn (model prog w) A env E)
    (turn : ∀ i v c m h tk o, i < n → Val i v → P i c → (∀ p ∈ Led c, p.1 ≠ I) → Fr g env.locals h (see m (ps c)) → News g env.locals h ((I, o) :: Led c) →
      wpAny (model prog w) A (assign target env v) (fun _ s₂ => wpAny (model prog w) A (execs body env) (Turn (NextF g env.locals s ps Led P i I o) Q) E s₂) E { s with heap := h, toks := tk })
    (done : ∀ c m h tk, P n c → Fr g env.locals h (see m (ps c)) → News g env.locals h (Led c) → Q .next { s with heap := h, toks := tk }) :
    codeAny (model prog w) A (.forLoop target (.ref I) body [] env) (fun r s' => match r with | .ok f => Q f s' | .error e => cameBackBy (model prog w) A env E e s') s := by
  have old : ∀ b o, g.get? b = some o → b ∉ [I] := fun b o e hb => by rw [List.mem_singleton.mp hb, hIg] at e; cases e
  have hLI : env.locals ∉ [I] := fun h => hIL (List.mem_singleton.mp h).symm
  refine codeAny_forLoop_any
    (LInv env.locals g s I n St ps Led P) ?_ (n + 1)
    (Exists.intro 0 ⟨c₀, s.heap, s.toks, m₀, rfl, hst, F, fun p h => N p (hn p h), hne, hk, hp, Nat.zero_le _, rfl⟩)
  rintro k s' ⟨i, c, h', tk, m', rfl, hst', F', N', hne', hk', hpc, hi, rfl⟩
  have next : ∀ h₁ : Heap, (∀ b o, b ∉ [I] → h'.get? b = some o → h₁.get? b = some o) → Fr g env.locals h₁ m' ∧ News g env.locals h₁ (Led c) := fun h₁ hk₁ =>
    ⟨⟨F'.ns.at' fun o e => hk₁ _ o hLI e, fun b o e => hk₁ b o (old b o e) (F'.keep b o e), F'.above⟩, fun p hp => ⟨hk₁ _ _ (fun h => hne' p hp (List.mem_singleton.mp h)) (N' p hp).1, (N' p hp).2⟩⟩
  by_cases hlt : i < n
  · refine W.item i _ _ _ hlt hst' fun v h₁ tk₁ hP hst₁ hk₁ => ?_
    obtain ⟨F₁, N₁⟩ := next h₁ hk₁
    obtain ⟨o, ho⟩ := hI _ _ hst₁
    refine hgo (i + 1) v _ _ _ hst₁ ?_
    have NI : News g env.locals h₁ ((I, o) :: Led c) := fun p hp => by
      rcases List.mem_cons.mp hp with rfl | hp
      · exact ⟨ho, hIL, hIg⟩
      · exact N₁ p hp
    refine wpAny_passesOwn hE (wpAny_mono (turn i v c m' h₁ tk₁ o hlt hP hpc hne' (fr_see F₁ hk') NI) (fun _ s₂ h₂ => wpAny_passesOwn hE (wpAny_mono h₂ (fun f s₃ h₃ => ?_) fun _ _ e => e)) fun _ _ e => e)
    have fin : NextF g env.locals s ps Led P i I o s₃ → ∃ k', k' < n + 1 - i ∧ LInv env.locals g s I n St ps Led P k' s₃ := by
      rintro ⟨c', hpc', hne₃, hp₃, tk₃, m₃, e₃, F₃, N₃, hk₃⟩
      refine ⟨n + 1 - (i + 1), by omega, i + 1, c', hp₃, tk₃, m₃, e₃, ?_, F₃, fun p hp => N₃ p (.tail _ hp), hne₃, hk₃, hpc', hlt, rfl⟩
      refine W.frame _ _ _ hst₁ fun b hb o' e => ?_
      by_cases hbI : b = I
      · subst hbI
        rw [ho] at e
        exact (Option.some.inj e) ▸ (N₃ _ (.head _)).1
      · obtain ⟨ob, hob⟩ := hfp b hb hbI
        have e1 := (N₁ _ (hob c)).1
        rw [e] at e1
        exact (Option.some.inj e1) ▸ (N₃ _ (.tail _ (hob c'))).1
    cases f with
    | ret v => exact h₃
    | brk => exact h₃
    | cont => exact fin h₃
    | next => exact fin h₃
  · have hin : i = n := by omega
    subst hin
    refine W.done _ _ _ hst' fun h₁ tk₁ hk₁ => wpAny_execs_nil ?_
    obtain ⟨F₁, N₁⟩ := next h₁ hk₁
    exact done c m' h₁ tk₁ hpc (fr_see F₁ hk') N₁

/-- a for over a list of the ledger's; it is not turned -/
theorem kfor_list {σ : Type} {target : PySem.Expr} {body : List Stmt} {l : Addr} {vs : List Value} {nn : Nat} (ps : σ → List (Str × Value)) (Led : σ → List (Addr × Obj)) (P : Nat → σ → Prop) (c₀ : σ)
    (hh : A.handled = none) (hl : ∀ c, (l, listOf vs.toArray nn) ∈ Led c)
    (hgo : ∀ (I : Addr) v i (s' : Shared) (Q' : Unit → Shared → Prop) (E' : Value → Shared → Prop), s'.heap.IsListIter I l i → Q' () s' → wpAny (model prog w) A (letOwnedTupleGo target (.ref I) v) Q' E' s')
    (F : Fr g env.locals s.heap m₀) (N : News g env.locals s.heap led₀) (hn : ∀ p ∈ Led c₀, p ∈ led₀) (hk : ∀ p ∈ ps c₀, m₀ p.1 = some p.2) (hp : P 0 c₀)
    (hE : PassesOwn (model prog w) A env E)
    (turn : ∀ I i v c m h tk o, (∀ p ∈ led₀, p.1 < I) → vs[i]? = some v → P i c → (∀ p ∈ Led c, p.1 ≠ I) → Fr g env.locals h (see m (ps c)) → News g env.locals h ((I, o) :: Led c) →
      wpAny (model prog w) A (assign target env v) (fun _ s₂ => wpAny (model prog w) A (execs body env) (Turn (NextF g env.locals s ps Led P i I o) Q) E s₂) E { s with heap := h, toks := tk })
    (done : ∀ c m h tk, P vs.length c → Fr g env.locals h (see m (ps c)) → News g env.locals h (Led c) → Q .next { s with heap := h, toks := tk }) :
    KIter prog w A env target body Q E (.ref l) s := by
  have hlm := hn _ (hl c₀)
  have hol : s.heap.get? l = some (listOf vs.toArray nn) := (N _ hlm).1
  have hls : s.heap.IsList l vs.toArray := ⟨_, hol, rfl, nn, rfl⟩
  have hne : l ≠ s.heap.objs.size := Nat.ne_of_lt (Heap.lt_size hol)
  have hlt : ∀ p ∈ led₀, p.1 < s.heap.objs.size := fun p hp => Heap.lt_size (N p hp).1
  refine wpAny_pyIter_list hls ?_
  have W := Walks.list (prog := prog) (w := w) hh s.heap.objs.size l hne vs.toArray
  have hlen : vs.toArray.size = vs.length := by simp
  rw [hlen] at W
  refine kfor_core ps Led P c₀ W (fun i h st => ?_) (fun b hb hbI => ?_) (fun i v s' Q' E' st hq => hgo _ v i s' Q' E' st.1 hq) (Nat.ne_of_gt F.ns.lt) (next_is_new F) (F.push _) (led₀ := led₀)
    (fun p hp => ⟨Heap.get?_push_of_some _ (N p hp).1, (N p hp).2⟩) hn (fun p hp => Nat.ne_of_lt (hlt p (hn p hp))) hk hp ⟨⟨_, Heap.get?_push_size _ rfl, rfl, rfl⟩, hls.at fun o e => Heap.get?_push_of_some _ e⟩ hE ?_ ?_
  · obtain ⟨o, ho, _⟩ := st.1
    exact ⟨o, ho⟩
  · have hb' : b = s.heap.objs.size ∨ b = l := by simpa using hb
    rcases hb' with e | e
    · exact absurd e hbI
    · exact ⟨_, fun c => e ▸ hl c⟩
  · intro i v c m h tk o hi hv hpc hne' F' N'
    exact turn _ i v c m h tk o hlt (by simpa using hv) hpc hne' F' N'
  · intro c m h tk hpc F' N'
    exact done c m h tk hpc F' N'

/-- a for over a range by ones -/
theorem kfor_range {σ : Type} {target : PySem.Expr} {body : List Stmt} {r : Addr} {a₀ b₀ : Int} {t₀ u₀ v₀ : Tok} {n : Nat} (ps : σ → List (Str × Value)) (Led : σ → List (Addr × Obj)) (P : Nat → σ → Prop) (c₀ : σ)
    (hh : A.handled = none) (hr : IsRange s.heap r a₀ b₀ 1 t₀ u₀ v₀) (hsmall : Builtin.Range.small a₀ b₀ 1 = true) (hnn : Builtin.Range.rangeSize a₀ b₀ 1 = (n : Int))
    (hgo : ∀ (I : Addr) v (s' : Shared) (Q' : Unit → Shared → Prop) (E' : Value → Shared → Prop), Q' () s' → wpAny (model prog w) A (letOwnedTupleGo target (.ref I) v) Q' E' s')
    (F : Fr g env.locals s.heap m₀) (N : News g env.locals s.heap led₀) (hn : ∀ p ∈ Led c₀, p ∈ led₀) (hk : ∀ p ∈ ps c₀, m₀ p.1 = some p.2) (hp : P 0 c₀)
    (hE : PassesOwn (model prog w) A env E)
    (turn : ∀ I i t c m h tk o, (∀ p ∈ led₀, p.1 < I) → i < n → P i c → (∀ p ∈ Led c, p.1 ≠ I) → Fr g env.locals h (see m (ps c)) → News g env.locals h ((I, o) :: Led c) →
      wpAny (model prog w) A (assign target env (.int (a₀ + (i : Int)) t)) (fun _ s₂ => wpAny (model prog w) A (execs body env) (Turn (NextF g env.locals s ps Led P i I o) Q) E s₂) E { s with heap := h, toks := tk })
    (done : ∀ c m h tk, P n c → Fr g env.locals h (see m (ps c)) → News g env.locals h (Led c) → Q .next { s with heap := h, toks := tk }) :
    KIter prog w A env target body Q E (.ref r) s := by
  have hlt : ∀ p ∈ led₀, p.1 < s.heap.objs.size := fun p hp => Heap.lt_size (N p hp).1
  refine wpAny_pyIter_range hr hsmall ?_
  have W : Walks prog w A s.heap.objs.size [s.heap.objs.size] [s.heap.objs.size] n (fun i v => i < n ∧ ∃ t, v = .int (a₀ + i * 1) t)
      (fun i h => IsRangeIter h s.heap.objs.size (a₀ + (i : Nat) * 1) ((n : Int) - (i : Nat)) 1) := (Walks.range hh _ a₀ 1 n).bound
  refine kfor_core ps Led P c₀ W (fun i h st => ⟨_, st⟩) (fun b hb hbI => absurd (List.mem_singleton.mp hb) hbI) (fun i v s' Q' E' st hq => hgo _ v s' Q' E' hq) (Nat.ne_of_gt F.ns.lt) (next_is_new F) (F.push _) (led₀ := led₀)
    (fun p hp => ⟨Heap.get?_push_of_some _ (N p hp).1, (N p hp).2⟩) hn (fun p hp => Nat.ne_of_lt (hlt p (hn p hp))) hk hp (by show IsRangeIter _ _ _ _ _; rw [hnn]; simpa using Heap.get?_push_size _ rfl) hE ?_ ?_
  · rintro i v c m h tk o hi ⟨_, t, rfl⟩ hpc hne' F' N'
    have e1 : a₀ + (i : Int) * 1 = a₀ + (i : Int) := by omega
    rw [e1]
    exact turn _ i t c m h tk o hlt hi hpc hne' F' N'
  · intro c m h tk hpc F' N'
    exact done c m h tk hpc F' N'

/-- a for over a text -/
theorem kfor_str {σ : Type} {target : PySem.Expr} {body : List Stmt} {x : Str} {t₀ : Tok} (ps : σ → List (Str × Value)) (Led : σ → List (Addr × Obj)) (P : Nat → σ → Prop) (c₀ : σ)
    (hh : A.handled = none)
    (hgo : ∀ (I : Addr) v (s' : Shared) (Q' : Unit → Shared → Prop) (E' : Value → Shared → Prop), Q' () s' → wpAny (model prog w) A (letOwnedTupleGo target (.ref I) v) Q' E' s')
    (F : Fr g env.locals s.heap m₀) (N : News g env.locals s.heap led₀) (hn : ∀ p ∈ Led c₀, p ∈ led₀) (hk : ∀ p ∈ ps c₀, m₀ p.1 = some p.2) (hp : P 0 c₀)
    (hE : PassesOwn (model prog w) A env E)
    (turn : ∀ I i ch t c m h tk o, (∀ p ∈ led₀, p.1 < I) → x.cps[i]? = some ch → P i c → (∀ p ∈ Led c, p.1 ≠ I) → Fr g env.locals h (see m (ps c)) → News g env.locals h ((I, o) :: Led c) →
      wpAny (model prog w) A (assign target env (.str ⟨#[ch]⟩ t)) (fun _ s₂ => wpAny (model prog w) A (execs body env) (Turn (NextF g env.locals s ps Led P i I o) Q) E s₂) E { s with heap := h, toks := tk })
    (done : ∀ c m h tk, P x.cps.size c → Fr g env.locals h (see m (ps c)) → News g env.locals h (Led c) → Q .next { s with heap := h, toks := tk }) :
    KIter prog w A env target body Q E (.str x t₀) s := by
  have hlt : ∀ p ∈ led₀, p.1 < s.heap.objs.size := fun p hp => Heap.lt_size (N p hp).1
  have key : ∀ (o₀ : Obj) (St : Nat → Heap → Prop), Walks prog w A s.heap.objs.size [s.heap.objs.size] [s.heap.objs.size] x.cps.size (SignAt x) St → (∀ i h, St i h → ∃ o, h.get? s.heap.objs.size = some o) → St 0 (s.heap.push o₀) →
      codeAny (model prog w) A (.forLoop target (.ref s.heap.objs.size) body [] env) (fun r s' => match r with | .ok f => Q f s' | .error e => cameBackBy (model prog w) A env E e s') { s with heap := s.heap.push o₀ } := by
    intro o₀ St W hI hst
    refine kfor_core ps Led P c₀ W hI (fun b hb hbI => absurd (List.mem_singleton.mp hb) hbI) (fun i v s' Q' E' st hq => hgo _ v s' Q' E' hq) (Nat.ne_of_gt F.ns.lt) (next_is_new F) (F.push _) (led₀ := led₀)
      (fun p hp => ⟨Heap.get?_push_of_some _ (N p hp).1, (N p hp).2⟩) hn (fun p hp => Nat.ne_of_lt (hlt p (hn p hp))) hk hp hst hE ?_ ?_
    · rintro i v c m h tk o hi ⟨ch, t, hch, rfl⟩ hpc hne' F' N'
      exact turn _ i ch t c m h tk o hlt hch hpc hne' F' N'
    · intro c m h tk hpc F' N'
      exact done c m h tk hpc F' N'
  cases ha : x.cps.all (· < 128)
  · exact wpAny_pyIter_wide ha (key _ _ (Walks.strWide hh _ x t₀) (fun i h st => let ⟨o, ho, _⟩ := st; ⟨o, ho⟩) ⟨_, Heap.get?_push_size _ rfl, rfl, rfl⟩)
  · exact wpAny_pyIter_ascii ha (key _ _ (Walks.strAscii hh _ x t₀) (fun i h st => let ⟨o, ho, _⟩ := st; ⟨o, ho⟩) ⟨_, Heap.get?_push_size _ rfl, rfl, rfl⟩)

theorem go_name {A' : Around} {x : Str} {px : Pos} : ∀ (I : Addr) v (s' : Shared) (Q' : Unit → Shared → Prop) (E' : Value → Shared → Prop), Q' () s' → wpAny (model prog w) A' (letOwnedTupleGo (.Name x px) (.ref I) v) Q' E' s' :=
  fun _ _ _ _ _ h => wpAny_pure h
theorem go_nameL {A' : Around} {x : Str} {px : Pos} {l : Addr} : ∀ (I : Addr) v i (s' : Shared) (Q' : Unit → Shared → Prop) (E' : Value → Shared → Prop), s'.heap.IsListIter I l i → Q' () s' → wpAny (model prog w) A' (letOwnedTupleGo (.Name x px) (.ref I) v) Q' E' s' :=
  fun _ _ _ _ _ _ _ h => wpAny_pure h
theorem go_tupL {A' : Around} {elts : List PySem.Expr} {k : Nat} {px : Pos} {l : Addr} : ∀ (I : Addr) v i (s' : Shared) (Q' : Unit → Shared → Prop) (E' : Value → Shared → Prop), s'.heap.IsListIter I l i → Q' () s' → wpAny (model prog w) A' (letOwnedTupleGo (.Tuple elts k px) (.ref I) v) Q' E' s' :=
  fun _ _ _ _ _ _ st h => letGo_listiter st h
end
end
-- the walks' common rules
section
local macro_rules | `(tactic| walk_at "exec While Compare cons nil") => `(tactic| refine kwhile_start ?_)
local macro_rules | `(tactic| walk_at "exec While BoolOp cons nil") => `(tactic| refine kwhile_start ?_)
local macro_rules | `(tactic| walk_at "exec For Name Name cons nil") => `(tactic| with_unfolding_all refine kfor_start ?_)
local macro_rules | `(tactic| walk_at "exec For Name Call cons nil") => `(tactic| with_unfolding_all refine kfor_start ?_)
local macro_rules | `(tactic| walk_at "exec For Name Subscript cons nil") => `(tactic| with_unfolding_all refine kfor_start ?_)
local macro_rules | `(tactic| walk_at "exec For Name Constant cons nil") => `(tactic| with_unfolding_all refine kfor_start ?_)
local macro_rules | `(tactic| walk_at "exec For Tuple Name cons nil") => `(tactic| with_unfolding_all refine kfor_start ?_)
local macro_rules | `(tactic| walk_at "subscriptTail") => `(tactic| ((with_reducible show wpAny _ _ (subscriptTail _ _ (Value.str _ _) (Value.int _ _)) _ _ _); (refine KXi.item rfl (by omega) (by omega) (by omega) ?_); intro kxiE))
local macro_rules | `(tactic| walk_at "binaryOp Add str str") => `(tactic| (refine KOpn.add (by omega) ?_; intro _ _ kxaE))
local macro_rules | `(tactic| walk_at "Turn") => `(tactic| dsimp only [Turn])
local macro_rules | `(tactic| walk_at "TurnD") => `(tactic| dsimp only [TurnD])
-- part PPar
section
theorem item_at {x : Str} {i : Int} {c : Nat} {r : List Nat} (h0 : 0 ≤ i) (h : x.cps.toList.drop i.toNat = c :: r) : Txt.item x i = ⟨#[c]⟩ := by
  have hg : x.cps.toList[i.toNat]? = some c := by
    have := congrArg (fun l => l[0]?) h
    simpa [List.getElem?_drop] using this
  have hlt : i.toNat < x.cps.size := by
    have := (List.getElem?_eq_some_iff.mp hg).1
    simpa using this
  have hl : x.length = x.cps.size := rfl
  unfold Txt.item Txt.charAt
  have hs : seqIndex? i x.length = some i.toNat := by
    unfold seqIndex?
    rw [hl]
    have h1 : ¬ i < 0 := by omega
    have h2 : i < (x.cps.size : Int) := by omega
    simp [h1, h0, h2]
    try omega
  rw [hs]
  have : x.cps[i.toNat]? = some c := by rw [← Array.getElem?_toList]; exact hg
  simp [this]
theorem str_len (x : Str) : x.length = x.cps.toList.length := by simp [PySem.Str.length]
theorem quote_is : Str.ofString "\"" = ⟨#[34]⟩ := by decide +kernel

/-- each quotation mark twice -/
noncomputable def dbl : List Nat → List Nat
  | [] => []
  | c :: r => if c = 34 then 34 :: 34 :: dbl r else c :: dbl r
theorem dbl_append (a b : List Nat) : dbl (a ++ b) = dbl a ++ dbl b := by
  induction a with
  | nil => rfl
  | cons c r ih => simp only [List.cons_append, dbl]; split <;> simp [ih]
theorem dbl_len (a : List Nat) : a.length ≤ (dbl a).length := by
  induction a with
  | nil => simp
  | cons c r ih => simp only [dbl]; split <;> simp only [List.length_cons] <;> omega
theorem dbl_len2 (a : List Nat) : (dbl a).length ≤ 2 * a.length := by
  induction a with
  | nil => simp [dbl]
  | cons c r ih => simp only [dbl]; split <;> simp only [List.length_cons] <;> omega

noncomputable def ParI (name : List Nat) (i : Int) (d : Str) : Prop := ∃ k, k ≤ name.length ∧ i = 5 + ((dbl (name.take k)).length : Int) ∧ d = ⟨(name.take k).toArray⟩
theorem parI_0 (name : List Nat) : ParI name 5 (Str.ofString "") := ⟨0, Nat.zero_le _, rfl, rfl⟩
section
variable {x : Str} {name e : List Nat} {i : Int} {d : Str}
theorem par_drop {k : Nat} (hxe : x.cps.toList = [50, 53, 55, 32, 34] ++ dbl name ++ 34 :: e) (hi : i = 5 + ((dbl (name.take k)).length : Int)) : x.cps.toList.drop i.toNat = dbl (name.drop k) ++ 34 :: e := by
  have e1 : i.toNat = 5 + (dbl (name.take k)).length := by omega
  have e2 : dbl name = dbl (name.take k) ++ dbl (name.drop k) := by rw [← dbl_append, List.take_append_drop]
  rw [hxe, e1, e2]
  have : [50, 53, 55, 32, 34] ++ (dbl (name.take k) ++ dbl (name.drop k)) ++ 34 :: e = ([50, 53, 55, 32, 34] ++ dbl (name.take k)) ++ (dbl (name.drop k) ++ 34 :: e) := by simp
  rw [this, List.drop_append_of_le_length (by simp; omega)]
  rw [List.drop_of_length_le (by simp; omega)]
  rfl
theorem par_lt (hxe : x.cps.toList = [50, 53, 55, 32, 34] ++ dbl name ++ 34 :: e) (h : ParI name i d) : 0 ≤ i ∧ i < (x.length : Int) ∧ d.length ≤ x.length := by
  obtain ⟨k, hk, hi, hd⟩ := h
  have h1 : x.length = 5 + (dbl name).length + 1 + e.length := by rw [str_len, hxe]; simp; omega
  have e2 : dbl name = dbl (name.take k) ++ dbl (name.drop k) := by rw [← dbl_append, List.take_append_drop]
  have e3 : (dbl name).length = (dbl (name.take k)).length + (dbl (name.drop k)).length := by rw [e2, List.length_append]
  have e4 : d.length = (name.take k).length := by rw [str_len, hd]
  have e5 := dbl_len (name.take k)
  omega
theorem par_out (hxe : x.cps.toList = [50, 53, 55, 32, 34] ++ dbl name ++ 34 :: e) (h : ParI name i d) (hn : ¬ i < (x.length : Int)) : False := by
  have := par_lt hxe h
  omega
theorem par_end1 (hxe : x.cps.toList = [50, 53, 55, 32, 34] ++ dbl name ++ 34 :: e) (h : ParI name i d) (hl : (x.length : Int) ≤ i + 1) : d = ⟨name.toArray⟩ := by
  obtain ⟨k, hk, hi, hd⟩ := h
  have h1 : x.length = 5 + (dbl name).length + 1 + e.length := by rw [str_len, hxe]; simp; omega
  have e2 : dbl name = dbl (name.take k) ++ dbl (name.drop k) := by rw [← dbl_append, List.take_append_drop]
  have e3 : (dbl name).length = (dbl (name.take k)).length + (dbl (name.drop k)).length := by rw [e2, List.length_append]
  have e4 := dbl_len (name.drop k)
  rw [List.length_drop] at e4
  have : name.take k = name := List.take_of_length_le (by omega)
  rw [hd, this]
theorem par_cases {k : Nat} (hk : k ≤ name.length) : (name.drop k = [] ∧ name.take k = name) ∨ ∃ c r, name.drop k = c :: r ∧ name.take (k + 1) = name.take k ++ [c] ∧ k + 1 ≤ name.length := by
  cases hD : name.drop k with
  | nil => exact .inl ⟨rfl, List.take_of_length_le (by have := congrArg List.length hD; simp at this; omega)⟩
  | cons c r =>
    have hl : k < name.length := by
      have := congrArg List.length hD
      simp at this; omega
    refine .inr ⟨c, r, rfl, ?_, hl⟩
    have : name[k]? = some c := by
      have := congrArg (fun l => l[0]?) hD
      simpa [List.getElem?_drop] using this
    rw [List.take_add_one, this]; rfl
theorem par_end2 (hxe : x.cps.toList = [50, 53, 55, 32, 34] ++ dbl name ++ 34 :: e) (h : ParI name i d) (h1 : (Txt.item x i == Str.ofString "\"") = true) (h2 : (Txt.item x (i + 1) != Str.ofString "\"") = true) : d = ⟨name.toArray⟩ := by
  obtain ⟨k, hk, hi, hd⟩ := h
  have hdr := par_drop (k := k) hxe hi
  rw [quote_is] at h1 h2
  rcases par_cases hk with ⟨hD, hT⟩ | ⟨c, r, hD, hT, hl⟩
  · rw [hd, hT]
  · exfalso
    rw [hD] at hdr
    by_cases hc : c = 34
    · have h3 : x.cps.toList.drop (i + 1).toNat = 34 :: (dbl r ++ 34 :: e) := by
        have : (i + 1).toNat = i.toNat + 1 := by omega
        rw [this, ← List.drop_drop, hdr]
        simp [dbl, hc]
      rw [item_at (by omega) h3] at h2
      simp at h2
    · have h3 : x.cps.toList.drop i.toNat = c :: (dbl r ++ 34 :: e) := by rw [hdr]; simp [dbl, hc]
      rw [item_at (by omega) h3] at h1
      have : c = 34 := by simpa using h1
      exact hc this
theorem par_next1 (hxe : x.cps.toList = [50, 53, 55, 32, 34] ++ dbl name ++ 34 :: e) (he : ∀ c r, e = c :: r → c ≠ 34) (h : ParI name i d) (h1 : (Txt.item x i == Str.ofString "\"") = true) (hn : ¬ (x.length : Int) ≤ i + 1) (h2 : (Txt.item x (i + 1) != Str.ofString "\"") = false) :
    ParI name (i + 1 + 1) (d ++ Txt.item x i) := by
  obtain ⟨k, hk, hi, hd⟩ := h
  have hdr := par_drop (k := k) hxe hi
  rw [quote_is] at h1 h2
  have h1' : Txt.item x i = ⟨#[34]⟩ := by simpa using h1
  rcases par_cases hk with ⟨hD, hT⟩ | ⟨c, r, hD, hT, hl⟩
  · exfalso
    rw [hD] at hdr
    have hl : (x.cps.toList.drop i.toNat).length = 1 + e.length := by rw [hdr]; simp [dbl]; omega
    rw [List.length_drop, ← str_len] at hl
    cases e with
    | nil => simp at hl; omega
    | cons c r =>
      have h3 : x.cps.toList.drop (i + 1).toNat = c :: r := by
        have : (i + 1).toNat = i.toNat + 1 := by omega
        rw [this, ← List.drop_drop, hdr]
        simp [dbl]
      rw [item_at (by omega) h3] at h2
      have hc : c = 34 := by simpa using h2
      exact he c r rfl hc
  · rw [hD] at hdr
    have hc : c = 34 := by
      apply Classical.byContradiction
      intro hc
      have h3 : x.cps.toList.drop i.toNat = c :: (dbl r ++ 34 :: e) := by rw [hdr]; simp [dbl, hc]
      rw [item_at (by omega) h3] at h1'
      exact hc (by simpa using h1')
    refine ⟨k + 1, hl, ?_, ?_⟩
    · rw [hT, dbl_append, List.length_append, hi, hc]; simp [dbl]; omega
    · rw [hT, hd, h1', hc]
      apply PySem.Str.ext'
      rw [PySem.Str.cps_append]; simp
theorem par_next2 (hxe : x.cps.toList = [50, 53, 55, 32, 34] ++ dbl name ++ 34 :: e) (h : ParI name i d) (h1 : (Txt.item x i == Str.ofString "\"") = false) :
    ParI name (i + 1) (d ++ Txt.item x i) := by
  obtain ⟨k, hk, hi, hd⟩ := h
  have hdr := par_drop (k := k) hxe hi
  rw [quote_is] at h1
  rcases par_cases hk with ⟨hD, hT⟩ | ⟨c, r, hD, hT, hl⟩
  · exfalso
    rw [hD] at hdr
    rw [item_at (by omega) (show x.cps.toList.drop i.toNat = 34 :: e by rw [hdr]; simp [dbl])] at h1
    simp at h1
  · rw [hD] at hdr
    have hc : c ≠ 34 := by
      intro hc
      rw [item_at (by omega) (show x.cps.toList.drop i.toNat = 34 :: (34 :: (dbl r ++ 34 :: e)) by rw [hdr]; simp [dbl, hc])] at h1
      simp at h1
    have h3 : x.cps.toList.drop i.toNat = c :: (dbl r ++ 34 :: e) := by rw [hdr]; simp [dbl, hc]
    rw [item_at (by omega) h3]
    refine ⟨k + 1, hl, ?_, ?_⟩
    · rw [hT, dbl_append, List.length_append, hi]; simp [dbl, hc]; omega
    · rw [hT, hd]
      apply PySem.Str.ext'
      rw [PySem.Str.cps_append]; simp
end
end
-- part PStr
section
open PySem.Builtin PySem.Builtin.Str in
theorem sl_to0 {x : Str} {j : Int} (h0 : 0 ≤ j) (h : j ≤ (x.length : Int)) : Txt.slice x none (some j) = ⟨(x.cps.toList.take j.toNat).toArray⟩ := by
  have := beq_iff_eq.mp (slice_closes_to (x := x) (j := j) ⟨h0, by rw [← str_len]; exact h⟩)
  rw [this]; simp
open PySem.Builtin PySem.Builtin.Str in
theorem sl_to {x : Str} {j : Int} (h0 : 0 ≤ j) : Txt.slice x none (some j) = ⟨(x.cps.toList.take j.toNat).toArray⟩ := by
  by_cases h : j ≤ (x.length : Int)
  · exact sl_to0 h0 h
  · have e : Txt.slice x none (some j) = Txt.slice x none (some (x.length : Int)) := by
      unfold Txt.slice
      have hi : strSliceIndices none (some j) 1 x.length = strSliceIndices none (some (x.length : Int)) 1 x.length := by
        have a0 : ¬ j < 0 := by omega
        have a1 : ¬ ((x.length : Int) < 0) := by omega
        have a2 : (1 : Int) > 0 := by decide
        simp only [strSliceIndices, a0, a1, a2, if_false, if_true, Int.min_eq_right (by omega : (x.length : Int) ≤ j), Int.min_self]
      rw [hi]
    rw [e, sl_to0 (by omega) (Int.le_refl _)]
    have l := str_len x
    rw [List.take_of_length_le (by omega), List.take_of_length_le (by omega)]
open PySem.Builtin PySem.Builtin.Str in
theorem sl_neg {x : Str} {j : Int} (h0 : j < 0) (h : 0 ≤ (x.length : Int) + j) : Txt.slice x none (some j) = ⟨(x.cps.toList.take ((x.length : Int) + j).toNat).toArray⟩ := by
  have e : Txt.slice x none (some j) = Txt.slice x none (some ((x.length : Int) + j)) := by
    unfold Txt.slice
    have hi : strSliceIndices none (some j) 1 x.length = strSliceIndices none (some ((x.length : Int) + j)) 1 x.length := by
      have a1 : ¬ ((x.length : Int) + j < 0) := by omega
      have a2 : (1 : Int) > 0 := by decide
      have a3 : j + (x.length : Int) = (x.length : Int) + j := by omega
      simp only [strSliceIndices, h0, a1, a2, a3, if_false, if_true]
    rw [hi]
  rw [e, sl_to0 h (by omega)]
theorem sl_from {x : Str} {i : Int} (h0 : 0 ≤ i) : Txt.slice x (some i) none = ⟨(x.cps.toList.drop i.toNat).toArray⟩ := by
  have l := str_len x
  by_cases h : i ≤ (x.length : Int)
  · rw [slice_from_eq h0 h rfl, List.take_of_length_le (by rw [List.length_drop]; omega)]
  · rw [slice_beyond (by omega), List.drop_of_length_le (by omega)]; rfl
theorem sl_all {x : Str} : Txt.slice x none none = x := by
  have : Txt.slice x none none = Txt.slice x (some 0) none := rfl
  rw [this, sl_from (Int.le_refl _)]
  apply PySem.Str.ext'
  simp
theorem sl_ss {x : Str} {i j : Int} (h0 : 0 ≤ i) (h1 : i ≤ j) (h2 : j ≤ (x.length : Int)) : Txt.slice x (some i) (some j) = ⟨((x.cps.toList.drop i.toNat).take (j - i).toNat).toArray⟩ :=
  beq_iff_eq.mp (slice_closes (x := x) ⟨h0, h1, by rw [← str_len]; exact h2⟩)
theorem mk_toList {x : Str} {l : List Nat} (h : x = ⟨l.toArray⟩) : x.cps.toList = l := by rw [h]
theorem mk_inj {l r : List Nat} (h : (⟨l.toArray⟩ : Str) = ⟨r.toArray⟩) : l = r := by
  have := congrArg (fun x : Str => x.cps.toList) h
  simpa using this
theorem str_eta (x : Str) : x = ⟨x.cps.toList.toArray⟩ := by apply PySem.Str.ext'; simp
theorem mk_append (a b : List Nat) : (⟨a.toArray⟩ : Str) ++ ⟨b.toArray⟩ = ⟨(a ++ b).toArray⟩ := by
  apply PySem.Str.ext'; rw [PySem.Str.cps_append]; simp
theorem mk_len (a : List Nat) : (⟨a.toArray⟩ : Str).length = a.length := by rw [str_len]
theorem item_nat {l : List Nat} {i : Int} {c : Nat} (h0 : 0 ≤ i) (h : l[i.toNat]? = some c) : Txt.item ⟨l.toArray⟩ i = ⟨#[c]⟩ := by
  have : l.drop i.toNat = c :: l.drop (i.toNat + 1) := by
    obtain ⟨hl, rfl⟩ := List.getElem?_eq_some_iff.mp h
    rw [List.drop_eq_getElem_cons hl]
  exact item_at h0 (by simpa using this)
end
-- part PSig
section
noncomputable def upc (c : Nat) : Nat := if 97 ≤ c ∧ c ≤ 122 then c - 32 else c
noncomputable def sgStep (pc : List Nat × List Nat) (x : Int) : List Nat × List Nat :=
  (pc.1.take (x.fmod pc.1.length).toNat ++ pc.1.drop ((x.fmod pc.1.length).toNat + 1), pc.2 ++ [if (x.fdiv 7).fmod 2 = 1 then upc (pc.1.getD (x.fmod pc.1.length).toNat 0) else pc.1.getD (x.fmod pc.1.length).toNat 0])
noncomputable def sgRun (ns : List Int) : List Nat × List Nat := ns.foldl sgStep ([34, 112, 113, 114, 115, 116, 117], [])
theorem sgRun_snoc (l : List Int) (x : Int) : sgRun (l ++ [x]) = sgStep (sgRun l) x := by simp [sgRun]
theorem fmod_in (x : Int) {n : Nat} (h : 0 < n) : 0 ≤ x.fmod (n : Int) ∧ x.fmod (n : Int) < (n : Int) :=
  ⟨Int.fmod_nonneg_of_pos x (by omega), Int.fmod_lt_of_pos x (by omega)⟩
theorem fmod_nat (x : Int) {n : Nat} (h : 0 < n) : (x.fmod (n : Int)).toNat < n := by
  have hf := fmod_in x h
  omega
theorem cut_len {k n : Nat} (h : k < n) : min k n + (n - (k + 1)) = n - 1 := by
  rw [Nat.min_eq_left (Nat.le_of_lt h)]
  omega
theorem sg_fold (l : List Int) : ∀ pc : List Nat × List Nat, l.length < pc.1.length → (∀ c ∈ pc.1, c < 128) → (l.foldl sgStep pc).1.length = pc.1.length - l.length ∧ (l.foldl sgStep pc).2.length = pc.2.length + l.length ∧ ∀ c ∈ (l.foldl sgStep pc).1, c < 128 := by
  induction l with
  | nil => intro pc _ h; exact ⟨rfl, rfl, h⟩
  | cons x r ih =>
    intro pc hl hc
    rw [List.length_cons] at hl
    have h0 : 0 < pc.1.length := Nat.lt_of_le_of_lt (Nat.zero_le _) hl
    have hk := fmod_nat x h0
    have h1 : (sgStep pc x).1.length = pc.1.length - 1 := by
      simp only [sgStep, List.length_append, List.length_take, List.length_drop]
      exact cut_len hk
    have h2 : (sgStep pc x).2.length = pc.2.length + 1 := by simp only [sgStep, List.length_append, List.length_cons, List.length_nil]
    have h3 : ∀ c ∈ (sgStep pc x).1, c < 128 := by
      intro c hc'
      simp only [sgStep] at hc'
      rcases List.mem_append.mp hc' with h | h
      · exact hc c (List.mem_of_mem_take h)
      · exact hc c (List.mem_of_mem_drop h)
    obtain ⟨i1, i2, i3⟩ := ih (sgStep pc x) (by rw [h1]; exact Nat.lt_sub_of_add_lt hl) h3
    rw [List.foldl_cons, List.length_cons]
    exact ⟨by rw [i1, h1, Nat.sub_sub, Nat.add_comm 1], by rw [i2, h2, Nat.add_assoc, Nat.add_comm 1], i3⟩
theorem sg_facts (l : List Int) (h : l.length ≤ 6) : (sgRun l).1.length = 7 - l.length ∧ (sgRun l).2.length = l.length ∧ ∀ c ∈ (sgRun l).1, c < 128 := by
  obtain ⟨h1, h2, h3⟩ := sg_fold l ([34, 112, 113, 114, 115, 116, 117], []) (by simp only [List.length_cons, List.length_nil]; omega) (by decide)
  exact ⟨h1, h2.trans (Nat.zero_add _), h3⟩
noncomputable def SigI (ns : List Int) (i : Nat) (pool signs : Str) : Prop := i ≤ 6 ∧ pool = ⟨(sgRun (ns.take i)).1.toArray⟩ ∧ signs = ⟨(sgRun (ns.take i)).2.toArray⟩
theorem sigI_0 (ns : List Int) : SigI ns 0 (Str.ofString "\"pqrstu") (Str.ofString "") := ⟨by omega, by simp only [List.take_zero, sgRun, List.foldl_nil]; decide +kernel, by simp only [List.take_zero, sgRun, List.foldl_nil]; decide +kernel⟩
theorem sigI_facts {ns : List Int} {i : Nat} {pool signs : Str} (hlen : ns.length = 6) (h : SigI ns i pool signs) : pool.length = 7 - i ∧ signs.length = i ∧ i ≤ 6 := by
  obtain ⟨h0, rfl, rfl⟩ := h
  have hl : (ns.take i).length = i := by rw [List.length_take]; omega
  obtain ⟨h1, h2, h3⟩ := sg_facts (ns.take i) (by omega)
  rw [mk_len, mk_len]; exact ⟨by rw [h1, hl], by rw [h2, hl], h0⟩
theorem sigI_next {ns : List Int} {i : Nat} {pool signs : Str} {x : Int} (hlen : ns.length = 6) (h : SigI ns i pool signs) (hx : ns[i]? = some x) (hi : i < 6) :
    Txt.item pool (x.fmod pool.length) = ⟨#[(sgRun (ns.take i)).1.getD (x.fmod pool.length).toNat 0]⟩ ∧ (sgRun (ns.take i)).1.getD (x.fmod pool.length).toNat 0 < 128 ∧
    Txt.slice pool none (some (x.fmod pool.length)) ++ Txt.slice pool (some (x.fmod pool.length + 1)) none = ⟨(sgRun (ns.take (i + 1))).1.toArray⟩ ∧
    (sgRun (ns.take (i + 1))).2 = (sgRun (ns.take i)).2 ++ [if (x.fdiv 7).fmod 2 = 1 then upc ((sgRun (ns.take i)).1.getD (x.fmod pool.length).toNat 0) else (sgRun (ns.take i)).1.getD (x.fmod pool.length).toNat 0] := by
  have hF := sigI_facts hlen h
  obtain ⟨h0, hp, hs⟩ := h
  have hl : (ns.take i).length = i := by rw [List.length_take]; omega
  obtain ⟨h1, h2, h3⟩ := sg_facts (ns.take i) (by omega)
  have hpl : pool.length = (sgRun (ns.take i)).1.length := by rw [hp, mk_len]
  have hf := fmod_in x (n := pool.length) (by omega)
  have hk : (x.fmod (pool.length : Int)).toNat < (sgRun (ns.take i)).1.length := by omega
  have ht : ns.take (i + 1) = ns.take i ++ [x] := by rw [List.take_add_one, hx]; rfl
  have hg : (sgRun (ns.take i)).1[(x.fmod (pool.length : Int)).toNat]? = some ((sgRun (ns.take i)).1.getD (x.fmod pool.length).toNat 0) := by
    rw [List.getElem?_eq_getElem hk, List.getD_eq_getElem?_getD, List.getElem?_eq_getElem hk]; rfl
  refine ⟨?_, ?_, ?_, ?_⟩
  · conv => lhs; rw [hp]
    rw [mk_len, ← hpl]
    exact item_nat hf.1 hg
  · exact h3 _ (List.mem_of_getElem? hg)
  · rw [sl_to hf.1, sl_from (by omega), mk_append, ht, sgRun_snoc, mk_toList hp]
    have : (x.fmod (pool.length : Int) + 1).toNat = (x.fmod (pool.length : Int)).toNat + 1 := by omega
    rw [this]
    simp only [sgStep, hpl]
  · rw [ht, sgRun_snoc]
    simp only [sgStep, hpl]
theorem sigI_up {ns : List Int} {i : Nat} {pool signs : Str} {x : Int} (hlen : ns.length = 6) (h : SigI ns i pool signs) (hx : ns[i]? = some x) (hi : i < 6) (hc : ((x.fdiv 7).fmod 2 = 1)) :
    SigI ns (i + 1) (Txt.slice pool none (some (x.fmod pool.length)) ++ Txt.slice pool (some (x.fmod pool.length + 1)) none) (signs ++ Txt.upper (Txt.item pool (x.fmod pool.length))) := by
  obtain ⟨h1, h2, h3, h4⟩ := sigI_next hlen h hx hi
  obtain ⟨h0, hp, hs⟩ := h
  refine ⟨by omega, h3, ?_⟩
  rw [h1, KOpn.upper_one h2, hs, h4, if_pos hc]
  exact mk_append _ _
theorem sigI_no {ns : List Int} {i : Nat} {pool signs : Str} {x : Int} (hlen : ns.length = 6) (h : SigI ns i pool signs) (hx : ns[i]? = some x) (hi : i < 6) (hc : ¬ ((x.fdiv 7).fmod 2 = 1)) :
    SigI ns (i + 1) (Txt.slice pool none (some (x.fmod pool.length)) ++ Txt.slice pool (some (x.fmod pool.length + 1)) none) (signs ++ Txt.item pool (x.fmod pool.length)) := by
  obtain ⟨h1, h2, h3, h4⟩ := sigI_next hlen h hx hi
  obtain ⟨h0, hp, hs⟩ := h
  refine ⟨by omega, h3, ?_⟩
  rw [h1, hs, h4, if_neg hc]
  exact mk_append _ _
end
-- part PCut
section
noncomputable abbrev mk (l : List Nat) : Str := ⟨l.toArray⟩
noncomputable def cutL : List Int → List Nat → List (List Nat)
  | [], _ => []
  | i :: r, x => x.take i.toNat :: cutL r (x.drop i.toNat)
noncomputable def restL : List Int → List Nat → List Nat
  | [], x => x
  | i :: r, x => restL r (x.drop i.toNat)
theorem cutL_snoc (is : List Int) (i : Int) : ∀ x, cutL (is ++ [i]) x = cutL is x ++ [(restL is x).take i.toNat] := by
  induction is with
  | nil => intro x; rfl
  | cons j r ih => intro x; simp only [List.cons_append, cutL, restL, ih]
theorem restL_snoc (is : List Int) (i : Int) : ∀ x, restL (is ++ [i]) x = (restL is x).drop i.toNat := by
  induction is with
  | nil => intro x; rfl
  | cons j r ih => intro x; simp only [List.cons_append, restL, ih]
noncomputable def Pulled (spec : Nat → Option Int) (is : List Int) : Prop := ∀ j, j < is.length → spec (12 - j) = is[j]?
theorem pulled_snoc {spec : Nat → Option Int} {is : List Int} {n : Nat} {i : Int} (h : Pulled spec is) (hlen : is.length + (n + 1) = 12) (h1 : spec (n + 1) = some i) : Pulled spec (is ++ [i]) := fun j hj => by
  rw [List.length_append, List.length_cons, List.length_nil] at hj
  by_cases e : j < is.length
  · rw [h j e, List.getElem?_append_left e]
  · have e2 : j = is.length := by omega
    subst e2
    rw [List.getElem?_append_right (Nat.le_refl _), Nat.sub_self]
    have : 12 - is.length = n + 1 := by omega
    rw [this, h1]; rfl
noncomputable def CutI (spec : Nat → Option Int) (x : List Nat) (n : Nat) (us : List Value) (left : Str) : Prop :=
  ∃ is : List Int, Pulled spec is ∧ is.length + n = 12 ∧ StrsAre us ((cutL is x).map mk) ∧ left = mk (restL is x) ∧ (restL is x).length + is.length ≤ 6 ∧ ∀ p ∈ cutL is x, p ≠ []
noncomputable def CutV (spec : Nat → Option Int) (x : List Nat) (us : List Value) : Prop :=
  ∃ is : List Int, Pulled spec is ∧ is.length ≤ 6 ∧ (restL is x = [] ∨ spec (12 - is.length) = none) ∧ StrsAre us ((cutL is x ++ if restL is x = [] then [] else [restL is x]).map mk) ∧ ∀ p ∈ cutL is x, p ≠ []
theorem cutI_0 {spec : Nat → Option Int} {x : List Nat} (hx : x.length ≤ 6) : CutI spec x 12 [] (mk x) := ⟨[], fun j hj => absurd hj (Nat.not_lt_zero _), rfl, .nil, rfl, by simpa [restL] using hx, fun p hp => absurd hp List.not_mem_nil⟩
theorem cutL_len (is : List Int) : ∀ x, (cutL is x).length = is.length := by
  induction is with
  | nil => intro x; rfl
  | cons j r ih => intro x; simp only [cutL, List.length_cons, ih]
theorem cutI_facts {spec : Nat → Option Int} {x : List Nat} {n : Nat} {us : List Value} {left : Str} (h : CutI spec x n us left) : us.length ≤ 6 ∧ left.length ≤ 6 ∧ us.length + n = 12 := by
  obtain ⟨is, h1, h2, h3, h4, h5, h6⟩ := h
  have := StrsAre.length h3
  rw [List.length_map, cutL_len] at this
  have e : left.length = (restL is x).length := by rw [h4, mk_len]
  omega
theorem empty_is : Str.ofString "" = mk [] := by decide +kernel
theorem cutI_next {spec : Nat → Option Int} {x : List Nat} {n : Nat} {us : List Value} {left : Str} {i : Int} {t : Tok} (h : CutI spec x (n + 1) us left) (hs : spec (n + 1) = some i) (hi : 1 ≤ i) (hne : (left == Str.ofString "") = false) :
    CutI spec x n (us ++ [.str (Txt.slice left none (some i)) t]) (Txt.slice left (some i) none) := by
  obtain ⟨is, h1, h2, h3, h4, h5, h6⟩ := h
  have hr : restL is x ≠ [] := by
    intro h0
    rw [h4, empty_is, h0] at hne
    simp at hne
  refine ⟨is ++ [i], pulled_snoc h1 h2 hs, by simp; omega, ?_, ?_, ?_, ?_⟩
  · rw [cutL_snoc, List.map_append]
    refine StrsAre.append' h3 ?_
    rw [sl_to (by omega), mk_toList h4]
    exact .cons _ _ .nil
  · rw [restL_snoc, sl_from (by omega), mk_toList h4]
  · rw [restL_snoc, List.length_drop, List.length_append, List.length_cons, List.length_nil]
    have : (restL is x).length ≠ 0 := by
      intro h0
      rw [h4, empty_is, List.length_eq_zero_iff.mp h0] at hne
      simp at hne
    omega
  · intro p hp
    rw [cutL_snoc] at hp
    rcases List.mem_append.mp hp with hp | hp
    · exact h6 p hp
    · rw [List.mem_singleton.mp hp]
      intro e
      have := congrArg List.length e
      rw [List.length_take, List.length_nil] at this
      have := List.length_pos_iff.mpr hr
      omega
theorem cutI_break {spec : Nat → Option Int} {x : List Nat} {n : Nat} {us : List Value} {left : Str} (h : CutI spec x n us left) (he : (left == Str.ofString "") = true) : CutV spec x us := by
  obtain ⟨is, h1, h2, h3, h4, h5, h6⟩ := h
  have h0 : restL is x = [] := by
    rw [h4, empty_is] at he
    exact mk_inj (by simpa using he)
  exact ⟨is, h1, by omega, .inl h0, by rw [if_pos h0, List.append_nil]; exact h3, h6⟩
theorem cutI_end1 {spec : Nat → Option Int} {x : List Nat} {n : Nat} {us : List Value} {left : Str} {t : Tok} (h : CutI spec x n us left) (hs : spec n = none) (hne : (left != Str.ofString "") = true) : CutV spec x (us ++ [.str left t]) := by
  obtain ⟨is, h1, h2, h3, h4, h5, h6⟩ := h
  have h0 : restL is x ≠ [] := by
    intro h0
    rw [h4, empty_is, h0] at hne
    simp at hne
  have e : 12 - is.length = n := by omega
  refine ⟨is, h1, by omega, .inr (by rw [e]; exact hs), ?_, h6⟩
  rw [if_neg h0, List.map_append]
  refine StrsAre.append' h3 ?_
  rw [h4]
  exact .cons _ _ .nil
theorem cutI_end2 {spec : Nat → Option Int} {x : List Nat} {n : Nat} {us : List Value} {left : Str} (h : CutI spec x n us left) (he : (left != Str.ofString "") = false) : CutV spec x us :=
  cutI_break h (by simpa using he)
end
-- part PRep
section
open PySem.Builtin.Str PySem.StrLaws in
theorem occ_all (x : Str) (c : Nat) (lim : Nat) : ∀ (n a : Nat) (st : Array Nat × Nat), st.2 ≤ a → st.1.size + n ≤ lim →
    (forIn (List.range' a n) st (occBody x ⟨#[c]⟩ x.length lim)).run.fst.toList = st.1.toList ++ (List.range' a n).filter fun i => x.cps.toList[i]? = some c
  | 0, a, st, _, _ => by simp
  | n + 1, a, st, h1, h2 => by
    rw [List.range'_succ, List.forIn_cons]
    unfold occBody
    by_cases hc : x.cps.toList[a]? = some c
    · have h := (subAt_one x c a).mpr hc
      rw [if_pos ⟨⟨⟨by omega, h1⟩, h.1⟩, h.2⟩]
      have ih := occ_all x c lim n (a + 1) (st.1.push a, a + (⟨#[c]⟩ : Str).length) (Nat.le_refl _) (by simp only [Array.size_push]; omega)
      show (forIn _ _ (occBody x ⟨#[c]⟩ x.length lim)).run.fst.toList = _
      rw [ih, List.filter_cons_of_pos (by simpa using hc)]
      simp
    · rw [if_neg (fun h => hc ((subAt_one x c a).mp ⟨h.1.2, h.2⟩))]
      have ih := occ_all x c lim n (a + 1) (st.1, st.2) (by show st.2 ≤ a + 1; omega) (by show st.1.size + n ≤ lim; omega)
      show (forIn _ _ (occBody x ⟨#[c]⟩ x.length lim)).run.fst.toList = _
      rw [ih, List.filter_cons_of_neg (by simpa using hc)]
noncomputable def glu (z : List Nat) : List Str → List Nat
  | [] => []
  | p :: r => p.cps.toList ++ (r.flatMap fun q => z ++ q.cps.toList)
open PySem.Builtin.Str in
theorem glued_eq (z : Str) (ps : List Str) : (glued z ps).cps.toList = glu z.cps.toList ps := by
  unfold glued
  have key : ∀ (r : List Str) (acc : Array Nat), (r.foldl (fun acc p => acc ++ z.cps ++ p.cps) acc).toList = acc.toList ++ r.flatMap fun q => z.cps.toList ++ q.cps.toList := by
    intro r
    induction r with
    | nil => intro acc; simp
    | cons p r ih => intro acc; rw [List.foldl_cons, ih]; simp
  cases ps with
  | nil => simp [glu, Str.empty]
  | cons p r => rw [key]; simp [glu]
open PySem.Builtin.Str PySem.StrLaws in
theorem glu_dbl (x : Str) : ∀ (n a : Nat), a + n = x.length + 1 → a ≤ x.length → glu [34, 34] (partsFrom x 1 a ((List.range' a n).filter fun i => x.cps.toList[i]? = some 34)) = dbl (x.cps.toList.drop a)
  | 0, a, h, h' => by omega
  | n + 1, a, h, h' => by
    have hl := str_len x
    rw [List.range'_succ]
    by_cases he : a = x.length
    · obtain rfl : n = 0 := by omega
      have h0 : ¬ (x.cps.toList[a]? = some 34) := by rw [List.getElem?_eq_none (by omega)]; simp
      rw [List.filter_cons_of_neg (by simpa using h0)]
      simp only [List.range'_zero, List.filter_nil, partsFrom, glu, List.flatMap_nil, List.append_nil, strSub_toList]
      rw [List.drop_of_length_le (by omega)]
      simp [dbl]
    · have ha : a < x.cps.toList.length := by omega
      have ih := glu_dbl x n (a + 1) (by omega) (by omega)
      have hd : x.cps.toList.drop a = x.cps.toList[a] :: x.cps.toList.drop (a + 1) := List.drop_eq_getElem_cons ha
      have hg : x.cps.toList[a]? = some x.cps.toList[a] := List.getElem?_eq_getElem ha
      by_cases hc : x.cps.toList[a]? = some 34
      · rw [List.filter_cons_of_pos (by simpa using hc)]
        have hv : x.cps.toList[a] = 34 := by rw [hg] at hc; exact Option.some.inj hc
        obtain ⟨p, r, hpr⟩ := partsFrom_ne x 1 (a + 1) ((List.range' (a + 1) n).filter fun i => x.cps.toList[i]? = some 34)
        rw [hpr] at ih
        simp only [partsFrom, hpr]
        rw [hd, hv]
        simp only [dbl, if_true]
        rw [← ih]
        simp [glu, strSub_toList]
      · rw [List.filter_cons_of_neg (by simpa using hc)]
        have hv : x.cps.toList[a] ≠ 34 := by intro q; rw [hg, q] at hc; exact hc rfl
        rw [hd]
        simp only [dbl, if_neg hv]
        rw [← ih]
        generalize hcs : (List.range' (a + 1) n).filter (fun i => decide (x.cps.toList[i]? = some 34)) = cs
        have hcs' : ∀ i ∈ cs, a + 1 ≤ i := by
          intro i hi
          rw [← hcs] at hi
          have := (List.mem_filter.mp hi).1
          rw [List.mem_range'] at this
          obtain ⟨j, _, rfl⟩ := this
          omega
        have hss : ∀ c, a + 1 ≤ c → (strSub x a c).cps.toList = x.cps.toList[a] :: (strSub x (a + 1) c).cps.toList := by
          intro c hc'
          rw [strSub_toList, strSub_toList, hd]
          rw [show c - a = (c - (a + 1)) + 1 by omega]
          first
            | rfl
            | (rw [List.take_succ_cons])
        cases cs with
        | nil =>
          simp only [partsFrom, glu, List.flatMap_nil, List.append_nil]
          exact hss _ (by omega)
        | cons c r =>
          simp only [partsFrom, glu]
          rw [hss c (hcs' c (.head _))]
          rfl
theorem two_quotes : Str.ofString "\"\"" = ⟨#[34, 34]⟩ := by decide +kernel
open PySem.Builtin.Str PySem.StrLaws in
theorem rep_dbl (l : List Nat) : Txt.replace (mk l) (Str.ofString "\"") (Str.ofString "\"\"") = mk (dbl l) := by
  rw [quote_is, two_quotes]
  have h0 : occurrences (mk l) ⟨#[34]⟩ 0 (mk l).length ((mk l).length + 1) = (List.range' 0 ((mk l).length + 1)).filter fun i => (mk l).cps.toList[i]? = some 34 := by
    rw [occ_eq]
    have := occ_all (mk l) 34 ((mk l).length + 1) ((mk l).length + 1) 0 (#[], 0) (Nat.le_refl _) (by simp)
    simpa using this
  have hg := glu_dbl (mk l) ((mk l).length + 1) 0 (by omega) (Nat.zero_le _)
  unfold Txt.replace
  rw [h0]
  have hl : (⟨#[34]⟩ : Str).length = 1 := rfl
  apply PySem.Str.ext'
  apply Array.toList_inj.mp
  rw [hl, partsBetween_eq]
  split
  · rename_i hc
    have hz : (List.range' 0 ((mk l).length + 1)).filter (fun i => decide ((mk l).cps.toList[i]? = some 34)) = [] := by
      have h2 : (⟨#[34, 34]⟩ : Str).length = 2 := rfl
      simp only [h2, Bool.or_eq_true, List.isEmpty_iff, Bool.and_eq_true, beq_iff_eq] at hc
      rcases hc with h | h
      · exact h
      · omega
    rw [hz] at hg
    simp only [partsFrom, glu, List.flatMap_nil, List.append_nil, sub_whole] at hg
    exact hg
  · rw [glued_eq]
    exact hg.trans (by simp)
/-- small letters -/
noncomputable def lowc (c : Nat) : Nat := if 65 ≤ c ∧ c ≤ 90 then c + 32 else c
theorem lowerOf_ascii : ∀ c, c < 128 → Unicode.lowerOf c = [lowc c] := by decide +kernel
theorem lower_mk {l : List Nat} (h : ∀ c ∈ l, c < 128) : Txt.lower (mk l) = mk (l.map lowc) := by
  apply PySem.Str.ext'
  apply Array.toList_inj.mp
  show (PySem.placed (mk l) fun i _ => Unicode.lowerAt (mk l).cps i).toList = _
  unfold PySem.placed
  rw [Array.toList_flatten, Array.toList_mapIdx]
  show ((l.mapIdx fun i c => (Unicode.lowerAt (mk l).cps i).toArray).map Array.toList).flatten = l.map lowc
  have key : (l.mapIdx fun i c => (Unicode.lowerAt (mk l).cps i).toArray) = l.map fun c => #[lowc c] := by
    apply List.ext_getElem
    · simp
    · intro i h1 h2
      have hi : i < l.length := by simpa using h1
      rw [List.getElem_mapIdx, List.getElem_map]
      have hc := h _ (List.getElem_mem hi)
      unfold Unicode.lowerAt
      have e : (mk l).cps[i]? = some l[i] := by simp [hi]
      rw [e]
      have : (l[i] == 0x3A3) = false := by simp; omega
      simp only [this, Bool.false_and]
      rw [lowerOf_ascii _ hc]
      rfl
  rw [key, List.map_map]
  show (l.map fun c => [lowc c]).flatten = _
  clear key h
  induction l with
  | nil => rfl
  | cons c r ih => rw [List.map_cons, List.flatten_cons, ih]; rfl
end
-- part PPcs
section
noncomputable def cutB (e l kd k : Int) : Bool :=
  if kd = 3 ∧ k = e + l + 2 then true
  else if kd = 1 ∧ e < k then decide ((k - e).fmod l = 0)
  else decide (k = e ∨ k = e + l)
noncomputable def CutP (e l kd k : Int) : Prop := (kd = 3 ∧ k = e + l + 2) ∨ (kd = 1 ∧ e < k ∧ (k - e).fmod l = 0) ∨ (¬ (kd = 1 ∧ e < k) ∧ (k = e ∨ k = e + l))
theorem cut_t {e l kd k : Int} (h : (kd = 3 ∧ k = e + l + 2) ∨ (kd = 1 ∧ e < k ∧ (k - e).fmod l = 0) ∨ (¬ (kd = 1 ∧ e < k) ∧ (k = e ∨ k = e + l))) : cutB e l kd k = true := by
  unfold cutB
  by_cases h1 : kd = 3 ∧ k = e + l + 2
  · exact if_pos h1
  · rw [if_neg h1]
    rcases h with h | ⟨a, b, c⟩ | ⟨a, b⟩
    · exact absurd h h1
    · rw [if_pos ⟨a, b⟩]; exact decide_eq_true c
    · rw [if_neg a]; exact decide_eq_true b
theorem cut_f {e l kd k : Int} (h : ¬ ((kd = 3 ∧ k = e + l + 2) ∨ (kd = 1 ∧ e < k ∧ (k - e).fmod l = 0) ∨ (¬ (kd = 1 ∧ e < k) ∧ (k = e ∨ k = e + l)))) : cutB e l kd k = false := by
  unfold cutB
  rw [if_neg fun q => h (.inl q)]
  by_cases h2 : kd = 1 ∧ e < k
  · rw [if_pos h2]; exact decide_eq_false fun c => h (.inr (.inl ⟨h2.1, h2.2, c⟩))
  · rw [if_neg h2]; exact decide_eq_false fun c => h (.inr (.inr ⟨h2, c⟩))
theorem cut_t1 {e l kd k : Int} (h1 : kd = 3) (h2 : k = e + l + 2) : cutB e l kd k = true := cut_t (.inl ⟨h1, h2⟩)
theorem cut_t2 {e l kd k : Int} (h1 : kd = 1) (h2 : e < k) (h3 : (k - e).fmod l = 0) : cutB e l kd k = true := cut_t (.inr (.inl ⟨h1, h2, h3⟩))
theorem cut_t3 {e l kd k : Int} (h : k = e) : cutB e l kd k = true := cut_t (.inr (.inr ⟨fun q => absurd (h ▸ q.2) (Int.lt_irrefl _), .inl h⟩))
theorem cut_t4 {e l kd k : Int} (h1 : kd ≠ 1) (h2 : k = e + l) : cutB e l kd k = true := cut_t (.inr (.inr ⟨fun q => h1 q.1, .inr h2⟩))
theorem cut_f1 {e l kd k : Int} (h1 : kd = 1) (h2 : e < k) (h3 : ¬ (k - e).fmod l = 0) : cutB e l kd k = false :=
  cut_f fun q => q.elim (fun q => absurd (h1.symm.trans q.1) (by decide)) fun q => q.elim (fun q => h3 q.2.2) fun q => q.1 ⟨h1, h2⟩
theorem cut_f2 {e l kd k : Int} (h1 : ¬ kd = 1) (h2 : ¬ kd = 3) (h3 : ¬ k = e) (h4 : ¬ k = e + l) : cutB e l kd k = false :=
  cut_f fun q => q.elim (fun q => h2 q.1) fun q => q.elim (fun q => h1 q.1) fun q => q.2.elim h3 h4
theorem cut_f3 {e l kd k : Int} (h1 : ¬ kd = 1) (h2 : ¬ k = e + l + 2) (h3 : ¬ k = e) (h4 : ¬ k = e + l) : cutB e l kd k = false :=
  cut_f fun q => q.elim (fun q => h2 q.2) fun q => q.elim (fun q => h1 q.1) fun q => q.2.elim h3 h4
theorem cut_f4 {e l kd k : Int} (h1 : kd = 1) (h2 : ¬ e < k) (h3 : ¬ k = e) (h4 : ¬ k = e + l) : cutB e l kd k = false :=
  cut_f fun q => q.elim (fun q => absurd (h1.symm.trans q.1) (by decide)) fun q => q.elim (fun q => h2 q.2.1) fun q => q.2.elim h3 h4
noncomputable def pcStep (x : List Nat) (e l kd : Int) (s : List (List Nat) × List Nat) (k : Nat) : List (List Nat) × List Nat :=
  if cutB e l kd k = true then (s.1 ++ [s.2], [x.getD k 0]) else (s.1, s.2 ++ [x.getD k 0])
noncomputable def pcRun (x : List Nat) (e l kd : Int) (n : Nat) : List (List Nat) × List Nat := (List.range n).foldl (pcStep x e l kd) ([], [])
theorem pcRun_succ (x : List Nat) (e l kd : Int) (n : Nat) : pcRun x e l kd (n + 1) = pcStep x e l kd (pcRun x e l kd n) n := by
  simp [pcRun, List.range_succ]
noncomputable def PcI (x : List Nat) (e l kd : Int) (i : Nat) (us : List Value) (piece : Str) : Prop :=
  i ≤ 6 ∧ StrsAre us ((pcRun x e l kd i).1.map mk) ∧ piece = mk (pcRun x e l kd i).2 ∧ us.length ≤ i ∧ piece.length ≤ i
theorem pcI_0 (x : List Nat) (e l kd : Int) : PcI x e l kd 0 [] (Str.ofString "") := ⟨by omega, .nil, empty_is, Nat.le_refl _, by decide +kernel⟩
section
variable {x : List Nat} {e l kd : Int} {i : Nat} {us : List Value} {piece : Str} {t : Tok}
theorem pc_item (hx : x.length = 6) (hi : i < 6) : Txt.item (mk x) (0 + (i : Int)) = mk [x.getD i 0] := by
  have h1 : x[i]? = some (x.getD i 0) := by rw [List.getElem?_eq_getElem (by omega), List.getD_eq_getElem?_getD, List.getElem?_eq_getElem (by omega)]; rfl
  exact item_nat (by omega) (by have : (0 + (i : Int)).toNat = i := by omega
                                rw [this]; exact h1)
theorem pcI_cut (hx : x.length = 6) (hi : i < 6) (h : PcI x e l kd i us piece) (hc : cutB e l kd (0 + (i : Int)) = true) : PcI x e l kd (i + 1) (us ++ [.str piece t]) (Str.ofString "" ++ Txt.item (mk x) (0 + (i : Int))) := by
  obtain ⟨h0, h1, h2, h3, h4⟩ := h
  rw [Int.zero_add] at hc
  refine ⟨by omega, ?_, ?_, by simp; omega, ?_⟩
  · rw [pcRun_succ, pcStep, if_pos hc, List.map_append]
    refine StrsAre.append' h1 ?_
    rw [h2]; exact .cons _ _ .nil
  · rw [pcRun_succ, pcStep, if_pos hc, pc_item hx hi, empty_is]; exact mk_append _ _
  · rw [pc_item hx hi, empty_is, mk_append, mk_len]; simp
theorem pcI_no (hx : x.length = 6) (hi : i < 6) (h : PcI x e l kd i us piece) (hc : cutB e l kd (0 + (i : Int)) = false) : PcI x e l kd (i + 1) us (piece ++ Txt.item (mk x) (0 + (i : Int))) := by
  obtain ⟨h0, h1, h2, h3, h4⟩ := h
  rw [Int.zero_add] at hc
  refine ⟨by omega, ?_, ?_, by omega, ?_⟩
  · rw [pcRun_succ, pcStep, if_neg (by rw [hc]; exact Bool.false_ne_true)]; exact h1
  · rw [pcRun_succ, pcStep, if_neg (by rw [hc]; exact Bool.false_ne_true), pc_item hx hi, h2]; exact mk_append _ _
  · rw [pc_item hx hi, h2, mk_append, mk_len, List.length_append]
    rw [h2, mk_len] at h4
    simp; omega
end
noncomputable def PcV (x : List Nat) (e l kd : Int) (us : List Value) : Prop := StrsAre us (((pcRun x e l kd 6).1 ++ [(pcRun x e l kd 6).2]).map mk)
theorem pcI_end {x : List Nat} {e l kd : Int} {us : List Value} {piece : Str} {t : Tok} (h : PcI x e l kd 6 us piece) : PcV x e l kd (us ++ [.str piece t]) := by
  obtain ⟨_, h1, h2, _, _⟩ := h
  unfold PcV
  rw [List.map_append]
  refine StrsAre.append' h1 ?_
  rw [h2]; exact .cons _ _ .nil
end
-- part PLevA
section
/-- how many an exchange costs: 0 the same sign, 1 in its cases alone unlike, 2 -/
noncomputable def subCost (a b : Str) : Int := if a = b then 0 else if Txt.lower a = Txt.lower b then 1 else 2
noncomputable def cst (a b : Nat) : Nat := if a = b then 0 else if Txt.lower (mk [a]) = Txt.lower (mk [b]) then 1 else 2
theorem subCost_mk (a b : Nat) : subCost (mk [a]) (mk [b]) = (cst a b : Int) := by
  unfold subCost cst
  by_cases h : a = b
  · simp [h]
  · have h1 : mk [a] ≠ mk [b] := fun q => h (by have := mk_inj q; simpa using this)
    rw [if_neg h1, if_neg h]
    split <;> rfl
theorem cst_le (a b : Nat) : cst a b ≤ 2 := by unfold cst; split <;> (try split) <;> omega
theorem cst_comm (a b : Nat) : cst a b = cst b a := by
  unfold cst
  by_cases h : a = b
  · simp [h]
  · rw [if_neg h, if_neg (Ne.symm h)]
    by_cases h2 : Txt.lower (mk [a]) = Txt.lower (mk [b])
    · rw [if_pos h2, if_pos h2.symm]
    · rw [if_neg h2, if_neg (Ne.symm h2)]
theorem cst_self (a : Nat) : cst a a = 0 := by simp [cst]

/-- an alignment and its cost -/
inductive Al : List Nat → List Nat → Nat → Prop
  | nil : Al [] [] 0
  | del {x a b k} : Al a b k → Al (x :: a) b (k + 2)
  | ins {y a b k} : Al a b k → Al a (y :: b) (k + 2)
  | sub {x y a b k} : Al a b k → Al (x :: a) (y :: b) (k + cst x y)
noncomputable def D (a : List Nat) : List Nat → Nat :=
  List.rec (motive := fun _ => List Nat → Nat) (fun b => 2 * b.length)
    (fun x a ih b => List.rec (motive := fun _ => Nat) (2 * (a.length + 1)) (fun y b ihb => min (min (ih (y :: b)) ihb + 2) (ih b + cst x y)) b) a
theorem D_nil_left (b : List Nat) : D [] b = 2 * b.length := rfl
theorem D_nil_right (a : List Nat) : D a [] = 2 * a.length := by cases a <;> rfl
theorem D_cons (x y : Nat) (a b : List Nat) : D (x :: a) (y :: b) = min (min (D a (y :: b)) (D (x :: a) b) + 2) (D a b + cst x y) := rfl
theorem Al.dels (a : List Nat) : Al a [] (2 * a.length) := by
  induction a with
  | nil => exact .nil
  | cons x a ih => exact Al.del ih
theorem Al.inss (b : List Nat) : Al [] b (2 * b.length) := by
  induction b with
  | nil => exact .nil
  | cons x a ih => exact Al.ins ih
theorem D_al : ∀ (n : Nat) (a b : List Nat), a.length + b.length ≤ n → Al a b (D a b) := by
  intro n
  induction n with
  | zero =>
    intro a b h
    have ha : a = [] := List.length_eq_zero_iff.mp (by omega)
    have hb : b = [] := List.length_eq_zero_iff.mp (by omega)
    subst ha hb
    rw [D_nil_left]; exact .nil
  | succ n ih =>
    intro a b h
    cases a with
    | nil => rw [D_nil_left]; exact Al.inss b
    | cons x a =>
      cases b with
      | nil => rw [D_nil_right]; exact Al.dels _
      | cons y b =>
        rw [List.length_cons, List.length_cons] at h
        have h1 := ih a (y :: b) (by rw [List.length_cons]; omega)
        have h2 := ih (x :: a) b (by rw [List.length_cons]; omega)
        have h3 := ih a b (by omega)
        rw [D_cons]
        rcases Nat.le_total (min (D a (y :: b)) (D (x :: a) b) + 2) (D a b + cst x y) with h4 | h4
        · rw [Nat.min_eq_left h4]
          rcases Nat.le_total (D a (y :: b)) (D (x :: a) b) with h5 | h5
          · rw [Nat.min_eq_left h5]; exact .del h1
          · rw [Nat.min_eq_right h5]; exact .ins h2
        · rw [Nat.min_eq_right h4]; exact .sub h3
theorem D_min {a b : List Nat} {k : Nat} (h : Al a b k) : D a b ≤ k := by
  induction h with
  | nil => rw [D_nil_left]; simp
  | @del x a b k _ ih =>
    cases b with
    | nil => rw [D_nil_right] at ih ⊢; rw [List.length_cons]; omega
    | cons y b => rw [D_cons]; exact Nat.le_trans (Nat.min_le_left _ _) (Nat.add_le_add_right (Nat.le_trans (Nat.min_le_left _ _) ih) 2)
  | @ins y a b k _ ih =>
    cases a with
    | nil => rw [D_nil_left] at ih ⊢; rw [List.length_cons]; omega
    | cons x a => rw [D_cons]; exact Nat.le_trans (Nat.min_le_left _ _) (Nat.add_le_add_right (Nat.le_trans (Nat.min_le_right _ _) ih) 2)
  | @sub x y a b k _ ih => rw [D_cons]; exact Nat.le_trans (Nat.min_le_right _ _) (Nat.add_le_add_right ih _)
theorem Al.D (a b : List Nat) : Al a b (D a b) := D_al _ a b (Nat.le_refl _)
theorem Al.append {a b a' b' : List Nat} {k k' : Nat} (h : Al a b k) (h' : Al a' b' k') : Al (a ++ a') (b ++ b') (k + k') := by
  induction h with
  | nil => rw [Nat.zero_add]; exact h'
  | @del x a b k _ ih => have := Al.del (x := x) ih; rw [Nat.add_right_comm]; exact this
  | @ins y a b k _ ih => have := Al.ins (y := y) ih; rw [Nat.add_right_comm]; exact this
  | @sub x y _ _ k _ ih => have := Al.sub (x := x) (y := y) ih; rw [Nat.add_right_comm]; exact this
theorem Al.rev {a b : List Nat} {k : Nat} (h : Al a b k) : Al a.reverse b.reverse k := by
  induction h with
  | nil => exact .nil
  | @del x a b k _ ih => rw [List.reverse_cons]; have := ih.append (Al.del (x := x) Al.nil); rwa [List.append_nil] at this
  | @ins y a b k _ ih => rw [List.reverse_cons]; have := ih.append (Al.ins (y := y) Al.nil); rwa [List.append_nil] at this
  | @sub x y a b k _ ih =>
    rw [List.reverse_cons, List.reverse_cons]
    have := ih.append (Al.sub (x := x) (y := y) Al.nil)
    rwa [Nat.zero_add] at this
theorem D_rev (a b : List Nat) : D a.reverse b.reverse = D a b := by
  apply Nat.le_antisymm
  · exact D_min (Al.D a b).rev
  · have := D_min (Al.D a.reverse b.reverse).rev
    rwa [List.reverse_reverse, List.reverse_reverse] at this
theorem Al.comm {a b : List Nat} {k : Nat} (h : Al a b k) : Al b a k := by
  induction h with
  | nil => exact .nil
  | del _ ih => exact .ins ih
  | ins _ ih => exact .del ih
  | @sub x y _ _ _ _ ih => rw [cst_comm]; exact .sub ih
theorem D_comm (a b : List Nat) : D a b = D b a := Nat.le_antisymm (D_min (Al.D b a).comm) (D_min (Al.D a b).comm)
theorem D_self (a : List Nat) : D a a = 0 := by
  have : Al a a 0 := by
    induction a with
    | nil => exact .nil
    | cons x a ih => have := Al.sub (x := x) (y := x) ih; rwa [cst_self] at this
  have := D_min this
  omega
theorem D_del_le (x : Nat) (a b : List Nat) : D (x :: a) b ≤ D a b + 2 := D_min (.del (Al.D a b))
theorem D_ins_le (y : Nat) (a b : List Nat) : D a (y :: b) ≤ D a b + 2 := D_min (.ins (Al.D a b))
theorem le_mn {d p q c : Nat} (h1 : d ≤ p + c) (h2 : d ≤ q + c) : d ≤ min p q + c := by
  rcases Nat.le_total p q with h | h
  · rw [Nat.min_eq_left h]; exact h1
  · rw [Nat.min_eq_right h]; exact h2
theorem D_drop_le (x : Nat) : ∀ (n : Nat) (a b : List Nat), a.length + b.length ≤ n → D a b ≤ D (x :: a) b + 2 := by
  intro n
  induction n with
  | zero =>
    intro a b h
    have ha : a = [] := List.length_eq_zero_iff.mp (by omega)
    have hb : b = [] := List.length_eq_zero_iff.mp (by omega)
    subst ha hb
    rw [D_nil_left]; simp
  | succ n ih =>
    intro a b h
    cases b with
    | nil => rw [D_nil_right, D_nil_right, List.length_cons]; omega
    | cons y b =>
      rw [List.length_cons] at h
      have h1 := ih a b (by omega)
      have h2 := D_ins_le y a b
      rw [D_cons]
      exact le_mn (le_mn (c := 2 + 2) (Nat.le_add_right _ _) (Nat.le_trans h2 (Nat.add_le_add_right h1 2))) (Nat.le_trans h2 (Nat.add_le_add_right (Nat.le_add_right _ _) 2))
theorem D_drop_left (x : Nat) (a b : List Nat) : D a b ≤ D (x :: a) b + 2 := D_drop_le x _ a b (Nat.le_refl _)
theorem D_drop_right (y : Nat) (a b : List Nat) : D a b ≤ D a (y :: b) + 2 := by
  rw [D_comm a b, D_comm a (y :: b)]; exact D_drop_left y b a
/-- a common head may be trimmed -/
theorem D_head (x : Nat) (a b : List Nat) : D (x :: a) (x :: b) = D a b := by
  have h1 := D_drop_right x a b
  have h2 := D_drop_left x a b
  rw [D_cons, cst_self]
  exact Nat.min_eq_right (le_mn h1 h2)
theorem D_pre (p a b : List Nat) : D (p ++ a) (p ++ b) = D a b := by
  induction p with
  | nil => rfl
  | cons x p ih => rw [List.cons_append, List.cons_append, D_head, ih]
theorem D_suf (q a b : List Nat) : D (a ++ q) (b ++ q) = D a b := by
  rw [← D_rev (a ++ q), List.reverse_append, List.reverse_append, D_pre, D_rev]
end
-- part PLevB
section
noncomputable def PreI (x y : List Nat) (pre : Int) : Prop := 0 ≤ pre ∧ pre ≤ x.length ∧ x.take pre.toNat = y.take pre.toNat
theorem item_get {x : List Nat} {i : Int} (h0 : 0 ≤ i) (h1 : i < x.length) : Txt.item (mk x) i = mk [x.getD i.toNat 0] := by
  have hi : i.toNat < x.length := by omega
  have : x[i.toNat]? = some (x.getD i.toNat 0) := by rw [List.getD_eq_getElem?_getD, List.getElem?_eq_getElem hi]; rfl
  exact item_nat h0 this
theorem preI_next {x y : List Nat} {pre : Int} (hxy : x.length = y.length) (h : PreI x y pre) (hlt : pre < x.length) (hi : (Txt.item (mk x) pre == Txt.item (mk y) pre) = true) : PreI x y (pre + 1) := by
  obtain ⟨h0, h1, h2⟩ := h
  rw [item_get h0 hlt, item_get h0 (by omega)] at hi
  have e : x.getD pre.toNat 0 = y.getD pre.toNat 0 := by
    have := mk_inj (beq_iff_eq.mp hi)
    simpa using this
  refine ⟨by omega, by omega, ?_⟩
  have e1 : (pre + 1).toNat = pre.toNat + 1 := by omega
  have hi1 : pre.toNat < x.length := by omega
  have hi2 : pre.toNat < y.length := by omega
  rw [e1, List.take_add_one, List.take_add_one, h2, List.getElem?_eq_getElem hi1, List.getElem?_eq_getElem hi2]
  rw [List.getD_eq_getElem?_getD, List.getD_eq_getElem?_getD, List.getElem?_eq_getElem hi1, List.getElem?_eq_getElem hi2] at e
  have : x[pre.toNat] = y[pre.toNat] := by simpa using e
  rw [this]
theorem preI_D {x y : List Nat} {pre : Int} (h : PreI x y pre) : D (x.drop pre.toNat) (y.drop pre.toNat) = D x y := by
  obtain ⟨h0, h1, h2⟩ := h
  conv => rhs; rw [← List.take_append_drop pre.toNat x, ← List.take_append_drop pre.toNat y, h2]
  exact (D_pre _ _ _).symm
/-- the end's trim: what is kept of the length -/
noncomputable def PostI (x y : List Nat) (post : Int) : Prop := post ≤ 0 ∧ 0 ≤ (x.length : Int) + post ∧ x.drop ((x.length : Int) + post).toNat = y.drop ((x.length : Int) + post).toNat
theorem post_item {x : List Nat} {post : Int} (h0 : post ≤ 0) (h1 : 0 < (x.length : Int) + post) : Txt.item (mk x) (post - 1) = mk [x.getD ((x.length : Int) + post - 1).toNat 0] := by
  have hi : ((x.length : Int) + post - 1).toNat < x.length := by omega
  unfold Txt.item Txt.charAt
  have hs : seqIndex? (post - 1) (mk x).length = some ((x.length : Int) + post - 1).toNat := by
    unfold seqIndex?
    rw [mk_len]
    have e1 : post - 1 < 0 := by omega
    simp only [e1, if_true]
    have e2 : post - 1 + (x.length : Int) = (x.length : Int) + post - 1 := by omega
    rw [e2]
    have e3 : ¬ ((x.length : Int) + post - 1 < 0) := by omega
    have e4 : (x.length : Int) + post - 1 < (x.length : Int) := by omega
    simp [e3, e4]
    try omega
  rw [hs]
  have : (mk x).cps[((x.length : Int) + post - 1).toNat]? = some (x.getD ((x.length : Int) + post - 1).toNat 0) := by
    rw [← Array.getElem?_toList, List.getD_eq_getElem?_getD]
    show x[_]? = _
    rw [List.getElem?_eq_getElem hi]; rfl
  simp [this]
theorem postI_next {x y : List Nat} {post : Int} (hxy : x.length = y.length) (h : PostI x y post) (h1 : 0 < (x.length : Int) + post) (hi : (Txt.item (mk x) (post - 1) == Txt.item (mk y) (post - 1)) = true) : PostI x y (post - 1) := by
  obtain ⟨h0, _, h2⟩ := h
  rw [post_item h0 h1, post_item h0 (by omega), ← hxy] at hi
  have e : x.getD ((x.length : Int) + post - 1).toNat 0 = y.getD ((x.length : Int) + post - 1).toNat 0 := by
    have := mk_inj (beq_iff_eq.mp hi)
    simpa using this
  refine ⟨by omega, by omega, ?_⟩
  have e1 : ((x.length : Int) + (post - 1)).toNat = ((x.length : Int) + post - 1).toNat := by omega
  have e2 : ((x.length : Int) + post).toNat = ((x.length : Int) + post - 1).toNat + 1 := by omega
  have hi1 : ((x.length : Int) + post - 1).toNat < x.length := by omega
  have hi2 : ((x.length : Int) + post - 1).toNat < y.length := by omega
  rw [e1, List.drop_eq_getElem_cons hi1, List.drop_eq_getElem_cons hi2, ← e2, h2]
  rw [List.getD_eq_getElem?_getD, List.getD_eq_getElem?_getD, List.getElem?_eq_getElem hi1, List.getElem?_eq_getElem hi2] at e
  have : x[((x.length : Int) + post - 1).toNat] = y[((x.length : Int) + post - 1).toNat] := by simpa using e
  rw [this]
theorem postI_D {x y : List Nat} {post : Int} (h : PostI x y post) : D (x.take ((x.length : Int) + post).toNat) (y.take ((x.length : Int) + post).toNat) = D x y := by
  obtain ⟨h0, h1, h2⟩ := h
  conv => rhs; rw [← List.take_append_drop ((x.length : Int) + post).toNat x, ← List.take_append_drop ((x.length : Int) + post).toNat y, h2]
  exact (D_suf _ _ _).symm
/-- what _levenshtein_distance owes -/
noncomputable def LevRes (x y : List Nat) (mx r : Int) : Prop := ((D x y : Int) ≤ mx → r = D x y) ∧ (mx < (D x y : Int) → mx < r ∧ r ≤ D x y)
theorem levRes_eq {x y : List Nat} {mx r : Int} (h : r = D x y) : LevRes x y mx r := ⟨fun _ => h, fun h1 => by omega⟩
theorem levRes_far {x y : List Nat} {mx : Int} (h : mx < (D x y : Int)) : LevRes x y mx (mx + 1) := ⟨fun h1 => by omega, fun h1 => by omega⟩
theorem sl_from_mk {x : List Nat} {i : Int} (h : 0 ≤ i) : Txt.slice (mk x) (some i) none = mk (x.drop i.toNat) := by rw [sl_from h]
theorem sl_to_mk {x : List Nat} {i : Int} (h : 0 ≤ i) : Txt.slice (mk x) none (some i) = mk (x.take i.toNat) := by rw [sl_to h]
theorem sl_neg_mk {x : List Nat} {j : Int} (h0 : j < 0) (h : 0 ≤ (x.length : Int) + j) : Txt.slice (mk x) none (some j) = mk (x.take ((x.length : Int) + j).toNat) := by rw [sl_neg h0 (by rw [mk_len]; exact h), mk_len]
end
-- part PLevC
section
theorem D_snoc (a b : List Nat) (x y : Nat) : D (a ++ [x]) (b ++ [y]) = min (min (D a (b ++ [y])) (D (a ++ [x]) b) + 2) (D a b + cst x y) := by
  rw [← D_rev (a ++ [x]) (b ++ [y]), ← D_rev a (b ++ [y]), ← D_rev (a ++ [x]) b, ← D_rev a b]
  simp only [List.reverse_append, List.reverse_singleton, List.singleton_append]
  rw [D_cons]
/-- the table -/
noncomputable def tb (A B : List Nat) (i j : Nat) : Nat := D (A.take j) (B.take i)
theorem tb_0 {A B : List Nat} {j : Nat} (h : j ≤ A.length) : tb A B 0 j = 2 * j := by
  unfold tb; rw [List.take_zero, D_nil_right, List.length_take]; omega
theorem tb_c {A B : List Nat} {i : Nat} (h : i ≤ B.length) : tb A B i 0 = 2 * i := by
  unfold tb; rw [List.take_zero, D_nil_left, List.length_take]; omega
theorem tk_succ {A : List Nat} {j : Nat} (h : j < A.length) : A.take (j + 1) = A.take j ++ [A.getD j 0] := by
  rw [List.take_add_one, List.getD_eq_getElem?_getD, List.getElem?_eq_getElem h]; rfl
theorem tb_s {A B : List Nat} {i j : Nat} (hi : i < B.length) (hj : j < A.length) :
    tb A B (i + 1) (j + 1) = min (min (tb A B (i + 1) j) (tb A B i (j + 1)) + 2) (tb A B i j + cst (A.getD j 0) (B.getD i 0)) := by
  unfold tb
  rw [tk_succ hi, tk_succ hj, D_snoc]
theorem tb_1 {A B : List Nat} {i : Nat} (hi : i < B.length) (hj : 0 < A.length) : tb A B (i + 1) 1 ≤ tb A B (i + 1) 0 := by
  rw [tb_s hi hj, tb_c (i := i) (Nat.le_of_lt hi), tb_c (i := i + 1) hi]
  exact Nat.le_trans (Nat.min_le_right _ _) (Nat.add_le_add_left (cst_le (A.getD 0 0) (B.getD i 0)) (2 * i))
theorem lt_mnc {mx : Int} {p q : Nat} (h1 : mx < (p : Int)) (h2 : mx < (q : Int)) : mx < ((min p q : Nat) : Int) := by
  rcases Nat.le_total p q with h | h
  · rw [Nat.min_eq_left h]; exact h1
  · rw [Nat.min_eq_right h]; exact h2
theorem lt_addc {mx : Int} {p c : Nat} (h : mx < (p : Int)) : mx < ((p + c : Nat) : Int) := Int.lt_of_lt_of_le h (Int.ofNat_le.mpr (Nat.le_add_right p c))
theorem mn3 {p t q : Nat} (h : q ≤ p + 2) : min (min p t + 2) q = min (t + 2) q := by
  rcases Nat.le_total p t with g | g
  · rw [Nat.min_eq_left g, Nat.min_eq_right h, Nat.min_eq_right (Nat.le_trans h (Nat.add_le_add_right g 2))]
  · rw [Nat.min_eq_right g]
/-- a row that lies beyond the bound leaves all later ones beyond it -/
theorem tb_far1 {A B : List Nat} {mx : Int} {i : Nat} (hi : i + 1 < B.length) (h : ∀ j, 1 ≤ j → j ≤ A.length → mx < (tb A B (i + 1) j : Int)) :
    ∀ j, 1 ≤ j → j ≤ A.length → mx < (tb A B (i + 2) j : Int) := by
  intro j
  induction j with
  | zero => intro h0; omega
  | succ j ih =>
    intro _ hj
    have hA : 0 < A.length := Nat.lt_of_lt_of_le (Nat.succ_pos j) hj
    have h0 : mx < (tb A B (i + 1) 0 : Int) := Int.lt_of_lt_of_le (h 1 (Nat.le_refl _) hA) (Int.ofNat_le.mpr (tb_1 (Nat.lt_of_succ_lt hi) hA))
    have hr : tb A B (i + 2) (j + 1) = min (min (tb A B (i + 2) j) (tb A B (i + 1) (j + 1)) + 2) (tb A B (i + 1) j + cst (A.getD j 0) (B.getD (i + 1) 0)) := tb_s (i := i + 1) hi hj
    have h1 := h (j + 1) (Nat.succ_pos j) hj
    rw [hr]
    rcases Nat.eq_zero_or_pos j with hz | hz
    · subst hz
      have e1 : tb A B (i + 2) 0 = 2 * (i + 2) := tb_c hi
      have e2 : tb A B (i + 1) 0 = 2 * (i + 1) := tb_c (Nat.le_of_lt hi)
      exact lt_mnc (lt_addc (lt_mnc (Int.lt_of_lt_of_le h0 (Int.ofNat_le.mpr (by rw [e1, e2]; exact Nat.mul_le_mul_left 2 (Nat.le_succ _)))) h1)) (lt_addc h0)
    · exact lt_mnc (lt_addc (lt_mnc (ih hz (Nat.le_of_lt hj)) h1)) (lt_addc (h j hz (Nat.le_of_lt hj)))
theorem tb_far {A B : List Nat} {mx : Int} {i : Nat} (h : ∀ j, 1 ≤ j → j ≤ A.length → mx < (tb A B (i + 1) j : Int)) :
    ∀ d, i + 1 + d ≤ B.length → ∀ j, 1 ≤ j → j ≤ A.length → mx < (tb A B (i + 1 + d) j : Int) := by
  intro d
  induction d with
  | zero => intro _; exact h
  | succ d ih =>
    intro hd
    have := tb_far1 (i := i + d) (mx := mx) (A := A) (B := B) (by omega) (by have := ih (by omega); rwa [show i + d + 1 = i + 1 + d by omega])
    rwa [show i + d + 2 = i + 1 + (d + 1) by omega] at this
theorem tb_all (A B : List Nat) : tb A B B.length A.length = D A B := by unfold tb; rw [List.take_length, List.take_length]
theorem D_far {A B : List Nat} {mx : Int} {i : Nat} (hA : 0 < A.length) (hi : i < B.length) (h : ∀ j, 1 ≤ j → j ≤ A.length → mx < (tb A B (i + 1) j : Int)) : mx < (D A B : Int) := by
  rw [← tb_all]
  have := tb_far h (B.length - (i + 1)) (by omega) A.length (by omega) (Nat.le_refl _)
  rwa [show i + 1 + (B.length - (i + 1)) = B.length by omega] at this
/-- what `result` holds at the place j of the turn i -/
noncomputable def rs (A B : List Nat) (i j : Nat) : Nat := if j = 0 then 2 * i else tb A B (i + 1) j
theorem rs_next {A B : List Nat} {i j : Nat} (hi : i < B.length) (hj : j < A.length) :
    rs A B i (j + 1) = min (min (rs A B i j) (tb A B i (j + 1)) + 2) (tb A B i j + cst (B.getD i 0) (A.getD j 0)) := by
  have h1 : rs A B i (j + 1) = tb A B (i + 1) (j + 1) := if_neg (by omega)
  rw [h1, tb_s hi hj, cst_comm]
  by_cases hz : j = 0
  · subst hz
    have h2 : rs A B i 0 = 2 * i := if_pos rfl
    have hc := Nat.add_le_add_left (cst_le (B.getD i 0) (A.getD 0 0)) (2 * i)
    rw [h2, tb_c (i := i + 1) hi, tb_c (i := i) (Nat.le_of_lt hi), mn3 (p := 2 * i) hc, mn3 (p := 2 * (i + 1)) (Nat.le_trans hc (Nat.le_add_right _ 2))]
  · have h2 : rs A B i j = tb A B (i + 1) j := if_neg hz
    rw [h2]
/-- the row, as the inner loop finds it at place idx of turn i: one list of ints -/
noncomputable def RowV (A B : List Nat) (i idx : Nat) (vs : List Value) : Prop :=
  vs.length = A.length ∧ ∀ j, j < A.length → ∃ t, vs[j]? = some (.int (tb A B (if j < idx then i + 1 else i) (j + 1)) t)
theorem RowV.get {A B : List Nat} {i idx : Nat} {vs : List Value} (h : RowV A B i idx vs) (hx : idx < A.length) : ∃ t, vs[idx]? = some (.int (tb A B i (idx + 1)) t) := by
  have := h.2 idx hx
  rwa [if_neg (by omega)] at this
theorem RowV.set {A B : List Nat} {i idx : Nat} {vs : List Value} {v : Int} {t : Tok} (h : RowV A B i idx vs) (hx : idx < A.length) (hv : v = (tb A B (i + 1) (idx + 1) : Int)) : RowV A B i (idx + 1) (vs.set idx (.int v t)) := by
  refine ⟨by rw [List.length_set]; exact h.1, fun j hj => ?_⟩
  by_cases e : j = idx
  · subst e
    refine ⟨t, ?_⟩
    rw [List.getElem?_set_self (by rw [h.1]; exact hj), if_pos (by omega), hv]
  · rw [List.getElem?_set_ne (Ne.symm e)]
    obtain ⟨t', ht⟩ := h.2 j hj
    refine ⟨t', ?_⟩
    rw [ht]
    by_cases hl : j < idx
    · rw [if_pos hl, if_pos (by omega)]
    · rw [if_neg hl, if_neg (by omega)]
theorem RowV.turn {A B : List Nat} {i : Nat} {vs : List Value} (h : RowV A B i A.length vs) : RowV A B (i + 1) 0 vs := by
  refine ⟨h.1, fun j hj => ?_⟩
  obtain ⟨t, ht⟩ := h.2 j hj
  rw [if_pos hj] at ht
  exact ⟨t, by rw [if_neg (by omega)]; exact ht⟩
end
-- part POrd
section
noncomputable def ltC (p q : List Nat) : Bool := decide (b2i (decide (q < p)) - b2i (decide (p < q)) < 0)
noncomputable def insC (p : List Nat) (l : List (List Nat)) : List (List Nat) := l.takeWhile (ltC · p) ++ [p] ++ l.dropWhile (ltC · p)
noncomputable def ordF (ps : List (List Nat)) : List (List Nat) := ps.foldl (fun acc p => insC p acc) []
theorem ordF_snoc (l : List (List Nat)) (p : List Nat) : ordF (l ++ [p]) = insC p (ordF l) := by simp [ordF]
section
variable {α : Type} {f : α → Bool}
theorem tw_le : ∀ l : List α, (l.takeWhile f).length ≤ l.length
  | [] => Nat.le_refl _
  | x :: r => by
    rw [List.takeWhile_cons]
    split
    · have := tw_le r; simp only [List.length_cons]; omega
    · simp
theorem tw_next : ∀ {l : List α} {k : Nat} {x : α}, k ≤ (l.takeWhile f).length → l[k]? = some x → f x = true → k + 1 ≤ (l.takeWhile f).length
  | [], k, x, _, h, _ => by simp at h
  | y :: r, 0, x, _, h, hf => by
    have : y = x := by simpa using h
    subst this
    rw [List.takeWhile_cons, if_pos hf]; simp
  | y :: r, k + 1, x, h0, h, hf => by
    rw [List.takeWhile_cons] at h0 ⊢
    split at h0
    · rename_i hy
      rw [if_pos hy]
      have := tw_next (l := r) (k := k) (by simpa using h0) (by simpa using h) hf
      simpa using this
    · simp at h0
theorem tw_stop : ∀ {l : List α} {k : Nat} {x : α}, k ≤ (l.takeWhile f).length → l[k]? = some x → f x = false → k = (l.takeWhile f).length
  | [], k, x, _, h, _ => by simp at h
  | y :: r, 0, x, _, h, hf => by
    have : y = x := by simpa using h
    subst this
    rw [List.takeWhile_cons, if_neg (by simp [hf])]; simp
  | y :: r, k + 1, x, h0, h, hf => by
    rw [List.takeWhile_cons] at h0 ⊢
    split at h0
    · rename_i hy
      rw [if_pos hy]
      have := tw_stop (l := r) (k := k) (by simpa using h0) (by simpa using h) hf
      simpa using this
    · simp at h0
theorem tw_take : ∀ l : List α, l.take (l.takeWhile f).length = l.takeWhile f
  | [] => rfl
  | x :: r => by
    rw [List.takeWhile_cons]
    split
    · simp [tw_take r]
    · simp
theorem tw_drop : ∀ l : List α, l.drop (l.takeWhile f).length = l.dropWhile f
  | [] => rfl
  | x :: r => by
    rw [List.takeWhile_cons, List.dropWhile_cons]
    split
    · simp [tw_drop r]
    · simp
end
theorem insC_len (p : List Nat) (l : List (List Nat)) : (insC p l).length = l.length + 1 := by
  have h := congrArg List.length (List.takeWhile_append_dropWhile (p := (ltC · p)) (l := l))
  rw [List.length_append] at h
  simp only [insC, List.length_append, List.length_cons, List.length_nil]
  omega
noncomputable def OrdI (ps : List (List Nat)) (i : Nat) (us : List Value) : Prop := i ≤ ps.length ∧ StrsAre us ((ordF (ps.take i)).map mk)
theorem ordF_len (ps : List (List Nat)) : (ordF ps).length = ps.length := by
  have key : ∀ (l acc : List (List Nat)), (l.foldl (fun acc p => insC p acc) acc).length = acc.length + l.length := by
    intro l
    induction l with
    | nil => intro acc; rfl
    | cons p r ih => intro acc; rw [List.foldl_cons, ih, insC_len, List.length_cons]; omega
  have := key ps []
  simpa [ordF] using this
theorem ordI_0 (ps : List (List Nat)) : OrdI ps 0 [] := ⟨Nat.zero_le _, by simp [ordF]; exact .nil⟩
theorem OrdI.len {ps : List (List Nat)} {i : Nat} {us : List Value} (h : OrdI ps i us) : us.length = i := by
  rw [StrsAre.len_eq h.2, List.length_map, ordF_len, List.length_take]
  have := h.1
  omega
/-- the place sought -/
noncomputable def KI (ps : List (List Nat)) (i : Nat) (p : List Nat) (k : Int) : Prop := 0 ≤ k ∧ k.toNat ≤ ((ordF (ps.take i)).takeWhile (ltC · p)).length
noncomputable def KE (ps : List (List Nat)) (i : Nat) (p : List Nat) (k : Int) : Prop := 0 ≤ k ∧ k.toNat = ((ordF (ps.take i)).takeWhile (ltC · p)).length
theorem KI.at {ps : List (List Nat)} {i : Nat} {p : List Nat} {k : Int} {us : List Value} (h : OrdI ps i us) (hk : KI ps i p k) (hlt : k < us.length) : ∃ q t, us[k.toNat]? = some (.str (mk q) t) ∧ (ordF (ps.take i))[k.toNat]? = some q := by
  have hk0 := hk.1
  have hl : k.toNat < (ordF (ps.take i)).length := by
    have := StrsAre.len_eq h.2
    rw [List.length_map] at this
    omega
  have e : (ordF (ps.take i))[k.toNat]? = some (ordF (ps.take i))[k.toNat] := List.getElem?_eq_getElem hl
  have e2 : ((ordF (ps.take i)).map mk)[k.toNat]? = some (mk (ordF (ps.take i))[k.toNat]) := by rw [List.getElem?_map, e]; rfl
  obtain ⟨t, ht⟩ := StrsAre.at h.2 e2
  exact ⟨_, t, ht, e⟩
theorem KI.next {ps : List (List Nat)} {i : Nat} {p q : List Nat} {k : Int} (hk : KI ps i p k) (hq : (ordF (ps.take i))[k.toNat]? = some q) (hc : b2i (decide (p < q)) - b2i (decide (q < p)) < 0) : KI ps i p (k + 1) := by
  have h := tw_next (f := (ltC · p)) hk.2 hq (by simp only [ltC]; exact decide_eq_true hc)
  have h0 := hk.1
  exact ⟨by omega, by omega⟩
theorem KI.stop {ps : List (List Nat)} {i : Nat} {p q : List Nat} {k : Int} (hk : KI ps i p k) (hq : (ordF (ps.take i))[k.toNat]? = some q) (hc : ¬ b2i (decide (p < q)) - b2i (decide (q < p)) < 0) : KE ps i p k :=
  ⟨hk.1, tw_stop (f := (ltC · p)) hk.2 hq (by simp only [ltC]; exact decide_eq_false hc)⟩
theorem KI.end {ps : List (List Nat)} {i : Nat} {p : List Nat} {k : Int} {us : List Value} (h : OrdI ps i us) (hk : KI ps i p k) (hn : ¬ k < us.length) : KE ps i p k := by
  have h0 := hk.1
  have h1 := hk.2
  have := StrsAre.len_eq h.2
  rw [List.length_map] at this
  have := tw_le (f := (ltC · p)) (ordF (ps.take i))
  exact ⟨h0, by omega⟩
theorem KE.le {ps : List (List Nat)} {i : Nat} {p : List Nat} {k : Int} (hk : KE ps i p k) : k ≤ (i : Int) := by
  have h0 := hk.1
  have h1 := hk.2
  have := tw_le (f := (ltC · p)) (ordF (ps.take i))
  rw [ordF_len, List.length_take] at this
  omega
theorem StrsAre.takeN {vs : List Value} {ys : List Str} (h : StrsAre vs ys) : ∀ n, StrsAre (vs.take n) (ys.take n) := by
  induction h with
  | nil => intro n; simp; exact .nil
  | cons y t h ih =>
    intro n
    cases n with
    | zero => exact .nil
    | succ n => exact .cons y t (ih n)
theorem StrsAre.dropN {vs : List Value} {ys : List Str} (h : StrsAre vs ys) : ∀ n, StrsAre (vs.drop n) (ys.drop n) := by
  induction h with
  | nil => intro n; simp; exact .nil
  | cons y t h ih =>
    intro n
    cases n with
    | zero => exact .cons y t h
    | succ n => exact ih n
theorem ordI_next {ps : List (List Nat)} {i : Nat} {us : List Value} {p : List Nat} {k : Int} {t : Tok} (h : OrdI ps i us) (hp : ps[i]? = some p) (hk : KE ps i p k) : OrdI ps (i + 1) (us.take k.toNat ++ [.str (mk p) t] ++ us.drop k.toNat) := by
  have hi := (List.getElem?_eq_some_iff.mp hp).1
  refine ⟨hi, ?_⟩
  have e : ps.take (i + 1) = ps.take i ++ [p] := by rw [List.take_add_one, hp]; rfl
  rw [e, ordF_snoc, insC, ← tw_take, ← tw_drop, ← hk.2, List.map_append, List.map_append]
  refine StrsAre.append' (StrsAre.append' ?_ (.cons _ _ .nil)) ?_
  · rw [List.map_take]; exact StrsAre.takeN h.2 _
  · rw [List.map_drop]; exact StrsAre.dropN h.2 _
theorem join_mk (qs : List (List Nat)) : Txt.join (Str.ofString "") (qs.map mk) = mk qs.flatten := by
  apply PySem.Str.ext'
  apply Array.toList_inj.mp
  show (PySem.Builtin.Str.glued _ _).cps.toList = _
  rw [glued_eq]
  have e : (Str.ofString "").cps.toList = [] := by decide +kernel
  rw [e]
  cases qs with
  | nil => rfl
  | cons p r =>
    simp only [List.map_cons, glu, List.nil_append, List.flatten_cons]
    congr 1
    induction r with
    | nil => rfl
    | cons q r ih => simp only [List.map_cons, List.flatMap_cons, List.flatten_cons, ih]
theorem insC_sum (p : List Nat) (l : List (List Nat)) : ((insC p l).map List.length).sum = (l.map List.length).sum + p.length := by
  have h := congrArg (fun x : List (List Nat) => (x.map List.length).sum) (List.takeWhile_append_dropWhile (p := (ltC · p)) (l := l))
  simp only [List.map_append, List.sum_append] at h
  simp only [insC, List.map_append, List.sum_append, List.map_cons, List.map_nil, List.sum_cons, List.sum_nil]
  omega
theorem ordF_sum (ps : List (List Nat)) : ((ordF ps).map List.length).sum = (ps.map List.length).sum := by
  have key : ∀ (l acc : List (List Nat)), ((l.foldl (fun acc p => insC p acc) acc).map List.length).sum = (acc.map List.length).sum + (l.map List.length).sum := by
    intro l
    induction l with
    | nil => intro acc; simp
    | cons p r ih => intro acc; rw [List.foldl_cons, ih, insC_sum, List.map_cons, List.sum_cons]; omega
  have := key ps []
  simpa [ordF] using this
theorem ord_weight {ps : List (List Nat)} (h1 : ps.length ≤ 8) (h2 : (ps.map List.length).sum ≤ 1000) : (((ordF ps).map mk).map (·.length)).sum + ((ordF ps).map mk).length ≤ 1048576 := by
  have e : ((ordF ps).map mk).map (·.length) = (ordF ps).map List.length := by
    rw [List.map_map]; apply List.map_congr_left; intro a _; exact mk_len a
  rw [e, ordF_sum, List.length_map, ordF_len]
  omega
end
-- part PWay
section
noncomputable def szF (more : Int) (p : List Nat) : Int := (p.length : Int) + if 34 ∈ p then more else 0
noncomputable def upB (c : Nat) : Bool := decide (80 ≤ c ∧ c ≤ 85)
noncomputable def upC (p : List Nat) : Int := ((p.filter upB).length : Int)
noncomputable def plF (szs rks : List Int) (k : Nat) : Int := (((List.range szs.length).filter fun i => decide (rks.getD i 0 < rks.getD k 0)).map fun i => szs.getD i 0).sum
noncomputable def stopF (ahead place : Int) (c : Int) (t : Int × Int × Int) : Int := if t.2.1 ≤ place then min c (t.2.2 + 2 * max (ahead - t.1) (place - t.2.1)) else c
noncomputable def costF (szs rks : List Int) (k : Nat) (ahead : Int) (st : List (Int × Int × Int)) : Int := st.foldl (stopF ahead (plF szs rks k)) (2 * max ahead (plF szs rks k))
noncomputable def wayStep (ps : List (List Nat)) (szs rks : List Int) (st : Int × Int × List (Int × Int × Int)) (k : Nat) : Int × Int × List (Int × Int × Int) :=
  (st.1 + szs.getD k 0,
   min st.2.1 (costF szs rks k st.1 st.2.2 + upC (ps.getD k []) + 2 * max (szs.sum - (st.1 + szs.getD k 0)) (szs.sum - (plF szs rks k + szs.getD k 0))),
   st.2.2 ++ [(st.1 + szs.getD k 0, plF szs rks k + szs.getD k 0, costF szs rks k st.1 st.2.2 + upC (ps.getD k []))])
noncomputable def wayRun (ps : List (List Nat)) (szs rks : List Int) (n : Nat) : Int × Int × List (Int × Int × Int) := (List.range n).foldl (wayStep ps szs rks) (0, 2 * szs.sum, [])
theorem wayRun_succ (ps : List (List Nat)) (szs rks : List Int) (n : Nat) : wayRun ps szs rks (n + 1) = wayStep ps szs rks (wayRun ps szs rks n) n := by
  simp [wayRun, List.range_succ]
open PySem.Builtin.Str PySem.StrLaws in
theorem occ_one (x : Str) (c : Nat) : (occurrences x ⟨#[c]⟩ 0 x.length 1).isEmpty = false ↔ c ∈ x.cps.toList := by
  have h := found_iff x ⟨#[c]⟩
  rw [Bool.not_eq_true'] at h
  rw [h]
  constructor
  · rintro ⟨i, h1, h2⟩
    exact List.mem_of_getElem? ((subAt_one x c i).mp ⟨h1, h2⟩)
  · intro h
    obtain ⟨i, hi⟩ := List.getElem?_of_mem h
    have := (subAt_one x c i).mpr hi
    exact ⟨i, this.1, this.2⟩
open PySem.Builtin.Str in
theorem sz_of {p : List Nat} {more r : Int} (h : (occurrences (mk p) (Str.ofString "\"") 0 (mk p).length 1).isEmpty = false ∧ r = ((mk p).length : Int) + more ∨ (occurrences (mk p) (Str.ofString "\"") 0 (mk p).length 1).isEmpty = true ∧ r = ((mk p).length : Int)) : r = szF more p := by
  rw [quote_is] at h
  have h1 := occ_one (mk p) 34
  unfold szF
  rw [mk_len] at h h1
  by_cases q : 34 ∈ p
  · rw [if_pos q]
    have := h1.mpr q
    rcases h with ⟨a, b⟩ | ⟨a, b⟩
    · exact b
    · rw [this] at a; cases a
  · rw [if_neg q]
    rcases h with ⟨a, b⟩ | ⟨a, b⟩
    · exact absurd (h1.mp a) q
    · omega
theorem allLt_ne {d : Addr} : ∀ {l : List (Addr × Obj)}, AllLt d l → ∀ p ∈ l, p.1 ≠ d
  | [], _, _, h => nomatch h
  | _ :: _, x, p, h => by
    rcases List.mem_cons.mp h with rfl | h
    · exact Nat.ne_of_lt x.1
    · exact allLt_ne x.2 p h
theorem allLt_lt {d : Addr} : ∀ {l : List (Addr × Obj)}, AllLt d l → ∀ p ∈ l, p.1 < d
  | [], _, _, h => nomatch h
  | _ :: _, x, p, h => by
    rcases List.mem_cons.mp h with rfl | h
    · exact x.1
    · exact allLt_lt x.2 p h
theorem sizes_next {ps : List (List Nat)} {more r : Int} {i : Nat} {us : List Value} {p : List Nat} {t : Tok} (h : IntsAre us ((ps.take i).map (szF more))) (hp : ps[i]? = some p) (hr : r = szF more p) : IntsAre (us ++ [.int r t]) ((ps.take (i + 1)).map (szF more)) := by
  have e : ps.take (i + 1) = ps.take i ++ [p] := by rw [List.take_add_one, hp]; rfl
  rw [e, List.map_append, hr]
  exact IntsAre.append h (.cons _ _ .nil)
noncomputable abbrev Stp := Int × Int × Int
noncomputable abbrev Tent := Addr × Stp × (Tok × Tok × Tok)
noncomputable abbrev tvals (e : Tent) : List Value := [.int e.2.1.1 e.2.2.1, .int e.2.1.2.1 e.2.2.2.1, .int e.2.1.2.2 e.2.2.2.2]
noncomputable abbrev tent (e : Tent) : Addr × Obj := (e.1, { cls := .type "tuple", data := .seq (tvals e).toArray })
noncomputable def tents (T : List Tent) : List (Addr × Obj) := T.map tent
noncomputable def trefs (T : List Tent) : List Value := T.map fun e => .ref e.1
theorem tents_snoc (T : List Tent) (e : Tent) : tents (T ++ [e]) = tents T ++ [tent e] := by simp [tents]
theorem trefs_snoc (T : List Tent) (e : Tent) : trefs (T ++ [e]) = trefs T ++ [.ref e.1] := by simp [trefs]
theorem trefs_at {T : List Tent} {i : Nat} {v : Value} (h : (trefs T)[i]? = some v) : ∃ e, T[i]? = some e ∧ v = .ref e.1 ∧ tent e ∈ tents T := by
  unfold trefs at h
  rw [List.getElem?_map] at h
  cases q : T[i]? with
  | none => rw [q] at h; cases h
  | some e =>
    rw [q] at h
    exact ⟨e, rfl, (Option.some.inj h).symm, List.mem_map.mpr ⟨e, List.mem_of_getElem? q, rfl⟩⟩
noncomputable def WayI (ps : List (List Nat)) (szs rks : List Int) (lst : Addr) (i : Nat) (ahead least : Int) (T : List Tent) (ok : Obj) : Prop :=
  wayRun ps szs rks i = (ahead, least, T.map (·.2.1)) ∧ (∃ v, ok.data = .cell v) ∧ (∀ e ∈ T, lst < e.1) ∧ T.length = i
theorem stop_next {T : List Tent} {j : Nat} {e : Tent} {ahead pl cost c0 : Int} (h : cost = (T.take j).foldl (fun c e => stopF ahead pl c e.2.1) c0) (he : T[j]? = some e) : (T.take (j + 1)).foldl (fun c e => stopF ahead pl c e.2.1) c0 = stopF ahead pl cost e.2.1 := by
  have e1 : T.take (j + 1) = T.take j ++ [e] := by rw [List.take_add_one, he]; rfl
  rw [e1, List.foldl_append, ← h]; rfl
theorem stop_t {e1 e2 e3 ahead pl cost : Int} (h : e2 ≤ pl) : (if (e3 + 2 * if pl - e2 > ahead - e1 then pl - e2 else ahead - e1) < cost then e3 + 2 * (if pl - e2 > ahead - e1 then pl - e2 else ahead - e1) else cost) = stopF ahead pl cost (e1, e2, e3) := by
  have e : (if pl - e2 > ahead - e1 then pl - e2 else ahead - e1) = max (ahead - e1) (pl - e2) := by rw [Int.max_def]; split <;> split <;> omega
  show _ = if e2 ≤ pl then min cost (e3 + 2 * max (ahead - e1) (pl - e2)) else cost
  rw [e, if_pos h]
  generalize e3 + 2 * max (ahead - e1) (pl - e2) = X
  rw [Int.min_def]
  split <;> split <;> omega
theorem stop_f {e1 e2 e3 ahead pl cost : Int} (h : ¬ e2 ≤ pl) : cost = stopF ahead pl cost (e1, e2, e3) := by
  unfold stopF
  rw [if_neg h]
theorem fold_stops {T : List Tent} {ahead pl c0 : Int} : T.foldl (fun c e => stopF ahead pl c e.2.1) c0 = (T.map (·.2.1)).foldl (stopF ahead pl) c0 := by
  rw [List.foldl_map]
theorem upC_next {p : List Nat} {j ch : Nat} (h : p[j]? = some ch) : upC (p.take (j + 1)) = upC (p.take j) + if upB ch then 1 else 0 := by
  have e1 : p.take (j + 1) = p.take j ++ [ch] := by rw [List.take_add_one, h]; rfl
  unfold upC
  rw [e1, List.filter_append, List.length_append]
  cases hb : upB ch <;> simp [hb]
theorem ups_is : (Str.ofString "PQRSTU").cps.toList = [80, 81, 82, 83, 84, 85] := by decide +kernel
open PySem.Builtin.Str in
theorem up_t {ch : Nat} (h : (occurrences (Str.ofString "PQRSTU") ⟨#[ch]⟩ 0 (Str.ofString "PQRSTU").length 1).isEmpty = false) : upB ch = true := by
  have := (occ_one (Str.ofString "PQRSTU") ch).mp h
  rw [ups_is] at this
  unfold upB
  simp at this ⊢
  omega
open PySem.Builtin.Str in
theorem up_f {ch : Nat} (h : (occurrences (Str.ofString "PQRSTU") ⟨#[ch]⟩ 0 (Str.ofString "PQRSTU").length 1).isEmpty = true) : upB ch = false := by
  have h1 := (occ_one (Str.ofString "PQRSTU") ch)
  rw [h, ups_is] at h1
  unfold upB
  simp at h1 ⊢
  omega
theorem max_q {a b : Int} : 2 * (if b > a then b else a) = 2 * max a b := by
  have : (if b > a then b else a) = max a b := by rw [Int.max_def]; split <;> split <;> omega
  rw [this]
theorem max_i {a b : Int} : (if b > a then b else a) = max a b := by rw [Int.max_def]; split <;> split <;> omega

theorem way_next {ps : List (List Nat)} {szs rks : List Int} {lst D : Addr} {i : Nat} {ahead least pl cost cost4 z : Int} {T : List Tent} {ok' : Obj} {p : List Nat} {tt : Tok × Tok × Tok}
    (h : wayRun ps szs rks i = (ahead, least, T.map (·.2.1))) (h3 : ∀ e ∈ T, lst < e.1) (h4 : T.length = i) (hp : ps[i]? = some p) (hc : cost = T.foldl (fun c e => stopF ahead pl c e.2.1) (2 * max ahead pl)) (hpl : pl = plF szs rks i) (hc4 : cost4 = cost + upC p) (hz : z = szs.getD i 0) (hD : lst < D) (hok : ∃ v, ok'.data = .cell v) :
    WayI ps szs rks lst (i + 1) (ahead + z) (if (cost4 + 2 * if szs.sum - (pl + z) > szs.sum - (ahead + z) then szs.sum - (pl + z) else szs.sum - (ahead + z)) < least then cost4 + 2 * (if szs.sum - (pl + z) > szs.sum - (ahead + z) then szs.sum - (pl + z) else szs.sum - (ahead + z)) else least) (T ++ [(D, (ahead + z, pl + z, cost4), tt)]) ok' := by
  refine ⟨?_, hok, ?_, by simp [h4]⟩
  · have hg : ps.getD i [] = p := by rw [List.getD_eq_getElem?_getD, hp]; rfl
    have hcost : costF szs rks i ahead (T.map (·.2.1)) = cost := by
      unfold costF; rw [hc, ← hpl, fold_stops]
    rw [wayRun_succ, h]
    unfold wayStep
    dsimp only
    rw [hg, hcost, ← hz, ← hpl, ← hc4, List.map_append]
    refine Prod.ext rfl (Prod.ext ?_ rfl)
    dsimp only
    rw [max_i]
    generalize cost4 + 2 * max (szs.sum - (ahead + z)) (szs.sum - (pl + z)) = X
    rw [Int.min_def]
    split <;> split <;> omega
  · intro e he
    rcases List.mem_append.mp he with he | he
    · exact h3 e he
    · rw [List.mem_singleton.mp he]; exact hD
section
variable {D I lst K : Addr} {o ok ok' : Obj} {T : List Tent} {un : Nat} {a1 a2 a3 : Int} {x1 x2 x3 : Tok} {r1 r2 r4 r5 : Addr × Obj} {news : List (Addr × Obj)} {x x' : Obj}
theorem way_hn : ∀ p ∈ (I, o) :: (lst, PySem.W.listOf (trefs (T ++ [(D, (a1, a2, a3), (x1, x2, x3))])).toArray (un + 1)) :: r1 :: r2 :: (K, ok) :: r4 :: r5 :: (news ++ tents (T ++ [(D, (a1, a2, a3), (x1, x2, x3))])),
    p ∈ (D, ({ cls := .type "tuple", data := .seq #[.int a1 x1, .int a2 x2, .int a3 x3] } : Obj)) :: (I, o) :: (lst, PySem.W.listOf ((trefs T).toArray.push (.ref D)) (un + 1)) :: r1 :: r2 :: (K, ok) :: r4 :: r5 :: (news ++ tents T) := by
  intro p hp
  rw [trefs_snoc, tents_snoc] at hp
  have e : PySem.W.listOf (trefs T ++ [Value.ref D]).toArray (un + 1) = PySem.W.listOf ((trefs T).toArray.push (.ref D)) (un + 1) := by simp
  rw [e] at hp
  simp only [List.mem_cons, List.mem_append, List.not_mem_nil, or_false] at hp ⊢
  rcases hp with h | h | h | h | h | h | h | h | h | h
  · exact .inr (.inl h)
  · exact .inr (.inr (.inl h))
  · exact .inr (.inr (.inr (.inl h)))
  · exact .inr (.inr (.inr (.inr (.inl h))))
  · exact .inr (.inr (.inr (.inr (.inr (.inl h)))))
  · exact .inr (.inr (.inr (.inr (.inr (.inr (.inl h))))))
  · exact .inr (.inr (.inr (.inr (.inr (.inr (.inr (.inl h)))))))
  · exact .inr (.inr (.inr (.inr (.inr (.inr (.inr (.inr (.inl h))))))))
  · exact .inr (.inr (.inr (.inr (.inr (.inr (.inr (.inr (.inr h))))))))
  · exact .inl h
theorem way_ne {e : Tent} (h : ∀ p ∈ (lst, x) :: r1 :: r2 :: (K, ok) :: r4 :: r5 :: (news ++ tents T), p.1 ≠ I) (hD : e.1 ≠ I) :
    ∀ p ∈ (lst, x') :: r1 :: r2 :: (K, ok') :: r4 :: r5 :: (news ++ tents (T ++ [e])), p.1 ≠ I := by
  intro p hp
  rw [tents_snoc] at hp
  rcases List.mem_cons.mp hp with rfl | hp
  · exact h (lst, x) (.head _)
  rcases List.mem_cons.mp hp with rfl | hp
  · exact h _ (.tail _ (.head _))
  rcases List.mem_cons.mp hp with rfl | hp
  · exact h _ (.tail _ (.tail _ (.head _)))
  rcases List.mem_cons.mp hp with rfl | hp
  · exact h (K, ok) (.tail _ (.tail _ (.tail _ (.head _))))
  rcases List.mem_cons.mp hp with rfl | hp
  · exact h _ (.tail _ (.tail _ (.tail _ (.tail _ (.head _)))))
  rcases List.mem_cons.mp hp with rfl | hp
  · exact h _ (.tail _ (.tail _ (.tail _ (.tail _ (.tail _ (.head _))))))
  rcases List.mem_append.mp hp with hp | hp
  · exact h p (.tail _ (.tail _ (.tail _ (.tail _ (.tail _ (.tail _ (List.mem_append.mpr (.inl hp))))))))
  · rcases List.mem_append.mp hp with hp | hp
    · exact h p (.tail _ (.tail _ (.tail _ (.tail _ (.tail _ (.tail _ (List.mem_append.mpr (.inr hp))))))))
    · rw [List.mem_singleton.mp hp]; exact hD
end
end
-- part PBlk
section
noncomputable def us (u : Nat → Nat) : Nat → Nat
  | 0 => 0
  | o + 1 => us u o + u o
theorem us_le {u : Nat → Nat} (hu : ∀ o, u o ≤ 1) : ∀ o, us u o ≤ o
  | 0 => Nat.le_refl _
  | o + 1 => by have := us_le hu o; have := hu o; simp only [us]; omega
theorem us_diff {u : Nat → Nat} (hu : ∀ o, u o ≤ 1) (o : Nat) : ∀ d, us u (o + d) ≤ us u o + d
  | 0 => Nat.le_refl _
  | d + 1 => by have := us_diff hu o d; have := hu (o + d); rw [← Nat.add_assoc]; simp only [us]; omega
theorem us_to {u : Nat → Nat} (hu : ∀ o, u o ≤ 1) {o p : Nat} (h : o ≤ p) : us u p ≤ us u o + (p - o) := by
  have := us_diff hu o (p - o)
  rwa [show o + (p - o) = p by omega] at this
/-- blocks that lie in either name: starts A, B; sizes s; what a sign costs -/
structure Blk (n N : Nat) (A B s : Nat → Nat) (u : Nat → Nat → Nat) : Prop where
  a_in : ∀ k, k < n → A k + s k ≤ N
  b_in : ∀ k, k < n → B k + s k ≤ N
  a_ord : ∀ j k, j < k → k < n → A j + s j ≤ A k
  b_dis : ∀ j k, j < n → k < n → j ≠ k → B j + s j ≤ B k ∨ B k + s k ≤ B j
  u_le : ∀ k o, u k o ≤ 1
/-- a way that comes to block k -/
inductive Ch (n : Nat) (A B s : Nat → Nat) (u : Nat → Nat → Nat) : Nat → Nat → Prop
  | base {k} : k < n → Ch n A B s u k (2 * max (A k) (B k))
  | step {j k c} : j < k → k < n → Ch n A B s u j c → B j + s j ≤ B k → Ch n A B s u k (c + us (u j) (s j) + 2 * max (A k - (A j + s j)) (B k - (B j + s j)))
noncomputable def LB (n : Nat) (A B s : Nat → Nat) (u : Nat → Nat → Nat) (i j c : Nat) : Prop :=
  2 * max i j ≤ c ∨ ∃ k o c0, k < n ∧ o ≤ s k ∧ A k + o ≤ i ∧ B k + o ≤ j ∧ Ch n A B s u k c0 ∧ c0 + us (u k) o + 2 * max (i - (A k + o)) (j - (B k + o)) ≤ c
section
/-! small facts of sums and maxima, each proved once: they keep the proofs below short -/
theorem mx_l {x y : Nat} : max (x + 1) y ≤ max x y + 1 := by omega
theorem mx_r {x y : Nat} : max x (y + 1) ≤ max x y + 1 := by omega
theorem mx_0 {x y o : Nat} : max (x + o + 1 - (x + (o + 1))) (y + o + 1 - (y + (o + 1))) = 0 := by rw [Nat.add_assoc, Nat.sub_self, Nat.add_assoc, Nat.sub_self]; rfl
theorem mx_mv {x p s q o : Nat} (h : p + s ≤ x) (h2 : q ≤ s) : x + o - (p + q) = x - (p + s) + (s - q + o) := by
  obtain ⟨z, rfl⟩ := Nat.exists_eq_add_of_le h2
  obtain ⟨y, rfl⟩ := Nat.exists_eq_add_of_le h
  rw [Nat.add_sub_cancel_left, Nat.add_sub_cancel_left]
  refine Nat.sub_eq_of_eq_add ?_
  ac_rfl
theorem fin_a {c0 U M M' c : Nat} (h6 : c0 + U + 2 * M ≤ c) (hm : M' ≤ M + 1) : c0 + U + 2 * M' ≤ c + 2 := by omega
theorem fin_b {M U v o c : Nat} (h : 2 * (M + o) ≤ c) (hu : U ≤ o) : 2 * M + (U + v) + 2 * 0 ≤ c + v := by omega
theorem fin_c {c0 U U' d v c : Nat} (h6 : c0 + U' + 2 * d ≤ c) (hd : U ≤ U' + d) : c0 + (U + v) + 2 * 0 ≤ c + v := by omega
theorem fin_d {c0 U' M t o c S U v : Nat} (h6 : c0 + U' + 2 * (M + (t + o)) ≤ c) (hd : S ≤ U' + t) (hu : U ≤ o) : c0 + S + 2 * M + (U + v) + 2 * 0 ≤ c + v := by omega
theorem fin_e {x y z M : Nat} (h1 : y ≤ z + 2 * M) (h2 : x ≤ y + 2) : x ≤ z + 2 * (M + 1) := by omega
theorem fin_f {x y z c v M : Nat} (h1 : x ≤ y + 2 * M) (h2 : y ≤ z + v) (h3 : z ≤ c) : x ≤ c + v + 2 * M := by omega
theorem fin_g {c0 U M t T W S : Nat} (h : c0 + U + 2 * (M + (t + 0)) ≤ T) (h6 : W ≤ c0 + S + 2 * M) (hd : S ≤ U + t) : W ≤ T := by omega
end
section
variable {n N : Nat} {A B s : Nat → Nat} {u : Nat → Nat → Nat} {i j c : Nat}
theorem LB.a (h : LB n A B s u i j c) : LB n A B s u (i + 1) j (c + 2) := by
  rcases h with h | ⟨k, o, c0, h1, h2, h3, h4, h5, h6⟩
  · exact .inl (Nat.le_trans (Nat.mul_le_mul_left 2 mx_l) (Nat.add_le_add_right h 2))
  · exact .inr ⟨k, o, c0, h1, h2, Nat.le_succ_of_le h3, h4, h5, fin_a h6 (by rw [Nat.sub_add_comm h3]; exact mx_l)⟩
theorem LB.b (h : LB n A B s u i j c) : LB n A B s u i (j + 1) (c + 2) := by
  rcases h with h | ⟨k, o, c0, h1, h2, h3, h4, h5, h6⟩
  · exact .inl (Nat.le_trans (Nat.mul_le_mul_left 2 mx_r) (Nat.add_le_add_right h 2))
  · exact .inr ⟨k, o, c0, h1, h2, h3, Nat.le_succ_of_le h4, h5, fin_a h6 (by rw [Nat.sub_add_comm h4]; exact mx_r)⟩
theorem LB.ab (h : LB n A B s u i j c) : LB n A B s u (i + 1) (j + 1) (c + 2) := by
  rcases h with h | ⟨k, o, c0, h1, h2, h3, h4, h5, h6⟩
  · exact .inl (by rw [Nat.add_max_add_right]; exact Nat.add_le_add_right h 2)
  · exact .inr ⟨k, o, c0, h1, h2, Nat.le_succ_of_le h3, Nat.le_succ_of_le h4, h5, fin_a h6 (by rw [Nat.sub_add_comm h3, Nat.sub_add_comm h4, Nat.add_max_add_right]; exact Nat.le_refl _)⟩
theorem LB.good (K : Blk n N A B s u) {k o : Nat} (hk : k < n) (ho : o < s k) (h : LB n A B s u (A k + o) (B k + o) c) : LB n A B s u (A k + o + 1) (B k + o + 1) (c + u k o) := by
  have hu := us_le (K.u_le k) o
  have h1 : us (u k) (o + 1) = us (u k) o + u k o := rfl
  rcases h with h | ⟨k', o', c0, h1', h2, h3, h4, h5, h6⟩
  · rw [Nat.add_max_add_right] at h
    exact .inr ⟨k, o + 1, _, hk, ho, Nat.le_refl _, Nat.le_refl _, .base hk, by rw [mx_0, h1]; exact fin_b h hu⟩
  · by_cases e : k' = k
    · subst e
      have hd := us_to (K.u_le k') (o := o') (p := o) (Nat.le_of_add_le_add_left h3)
      rw [Nat.add_sub_add_left, Nat.add_sub_add_left, Nat.max_self] at h6
      exact .inr ⟨k', o + 1, c0, hk, ho, Nat.le_refl _, Nat.le_refl _, h5, by rw [mx_0, h1]; exact fin_c h6 hd⟩
    · have hlt : k' < k := by
        rcases Nat.lt_or_ge k' k with h | h
        · exact h
        · have := K.a_ord k k' (by omega) h1'
          clear h6 h4 hu h1
          omega
      have hb : B k' + s k' ≤ B k := by
        rcases K.b_dis k' k h1' hk e with h | h
        · exact h
        · clear h6 h3 hu h1
          omega
      have ha := K.a_ord k' k hlt hk
      have hd := us_to (K.u_le k') (o := o') (p := s k') h2
      rw [mx_mv ha h2, mx_mv hb h2, Nat.add_max_add_right] at h6
      exact .inr ⟨k, o + 1, _, hk, ho, Nat.le_refl _, Nat.le_refl _, .step hlt hk h5 hb, by rw [mx_0, h1]; exact fin_d h6 hd hu⟩
theorem tb_lb {a b : List Nat} (K : Blk n N A B s u) (ha : a.length = N) (hb : b.length = N)
    (hs : ∀ i j, i < N → j < N → cst (a.getD i 0) (b.getD j 0) = 2 ∨ ∃ k o, k < n ∧ o < s k ∧ i = A k + o ∧ j = B k + o ∧ u k o ≤ cst (a.getD i 0) (b.getD j 0)) :
    ∀ d i j, i + j = d → i ≤ N → j ≤ N → ∀ c, tb a b j i ≤ c → LB n A B s u i j c := by
  have mono : ∀ {i j c c'}, LB n A B s u i j c → c ≤ c' → LB n A B s u i j c' := by
    intro i j c c' h hc
    rcases h with h | ⟨k, o, c0, h1, h2, h3, h4, h5, h6⟩
    · exact .inl (by omega)
    · exact .inr ⟨k, o, c0, h1, h2, h3, h4, h5, by omega⟩
  intro d
  induction d using Nat.strongRecOn with
  | ind d ih =>
    intro i j hd hi hj c hc
    rcases Nat.eq_zero_or_pos i with hz | hi0
    · subst hz
      rw [tb_c (by omega)] at hc
      exact .inl (by omega)
    rcases Nat.eq_zero_or_pos j with hz | hj0
    · subst hz
      rw [tb_0 (by omega)] at hc
      exact .inl (by omega)
    obtain ⟨i, rfl⟩ : ∃ i', i = i' + 1 := ⟨i - 1, by omega⟩
    obtain ⟨j, rfl⟩ : ∃ j', j = j' + 1 := ⟨j - 1, by omega⟩
    rw [tb_s (by omega) (by omega)] at hc
    have h1 := ih (i + (j + 1)) (by omega) i (j + 1) rfl (by omega) hj _ (Nat.le_refl _)
    have h2 := ih (i + 1 + j) (by omega) (i + 1) j rfl hi (by omega) _ (Nat.le_refl _)
    have h3 := ih (i + j) (by omega) i j rfl (by omega) (by omega) _ (Nat.le_refl _)
    by_cases c1 : tb a b (j + 1) i + 2 ≤ c
    · exact mono h1.a c1
    by_cases c2 : tb a b j (i + 1) + 2 ≤ c
    · exact mono h2.b c2
    have c3 : tb a b j i + cst (a.getD i 0) (b.getD j 0) ≤ c := by omega
    rcases hs i j (by omega) (by omega) with h | ⟨k, o, hk, ho, rfl, rfl, hc'⟩
    · exact mono h3.ab (by omega)
    · exact mono (h3.good K hk ho) (by omega)
theorem tb_up1 {a b : List Nat} {i j : Nat} (hi : i < a.length) (hj : j < b.length) : tb a b (j + 1) (i + 1) ≤ tb a b j i + 2 := by
  rw [tb_s hj hi]
  have := cst_le (a.getD i 0) (b.getD j 0)
  omega
theorem tb_upa {a b : List Nat} {i j : Nat} (hi : i < a.length) (hj : j ≤ b.length) : tb a b j (i + 1) ≤ tb a b j i + 2 := by
  rcases Nat.eq_zero_or_pos j with hz | hj0
  · subst hz; rw [tb_0 (by omega), tb_0 (by omega)]; omega
  · obtain ⟨j, rfl⟩ : ∃ j', j = j' + 1 := ⟨j - 1, by omega⟩
    rw [tb_s (by omega) hi]; omega
theorem tb_upb {a b : List Nat} {i j : Nat} (hi : i ≤ a.length) (hj : j < b.length) : tb a b (j + 1) i ≤ tb a b j i + 2 := by
  rcases Nat.eq_zero_or_pos i with hz | hi0
  · subst hz; rw [tb_c (by omega), tb_c (by omega)]; omega
  · obtain ⟨i, rfl⟩ : ∃ i', i = i' + 1 := ⟨i - 1, by omega⟩
    rw [tb_s hj (by omega)]; omega
theorem tb_seg {a b : List Nat} (i j : Nat) : ∀ d p q, p + q = d → i + p ≤ a.length → j + q ≤ b.length → tb a b (j + q) (i + p) ≤ tb a b j i + 2 * max p q := by
  intro d
  induction d using Nat.strongRecOn with
  | ind d ih =>
    intro p q hd hp hq
    rcases Nat.eq_zero_or_pos p with hz | hp0
    · subst hz
      rcases Nat.eq_zero_or_pos q with hz | hq0
      · subst hz; simp
      · obtain ⟨q, rfl⟩ : ∃ q', q = q' + 1 := ⟨q - 1, by omega⟩
        have h1 := ih (0 + q) (by omega) 0 q rfl hp (by omega)
        have h2 := tb_upb (a := a) (b := b) (i := i + 0) (j := j + q) (by omega) (by omega)
        rw [Nat.zero_max] at h1 ⊢
        rw [← Nat.add_assoc]; exact fin_e h1 h2
    · obtain ⟨p, rfl⟩ : ∃ p', p = p' + 1 := ⟨p - 1, by omega⟩
      rcases Nat.eq_zero_or_pos q with hz | hq0
      · subst hz
        have h1 := ih (p + 0) (by omega) p 0 rfl (by omega) hq
        have h2 := tb_upa (a := a) (b := b) (i := i + p) (j := j + 0) (by omega) (by omega)
        rw [Nat.max_zero] at h1 ⊢
        rw [← Nat.add_assoc]; exact fin_e h1 h2
      · obtain ⟨q, rfl⟩ : ∃ q', q = q' + 1 := ⟨q - 1, by omega⟩
        have h1 := ih (p + q) (by omega) p q rfl (by omega) (by omega)
        have h2 := tb_up1 (a := a) (b := b) (i := i + p) (j := j + q) (by omega) (by omega)
        rw [Nat.add_max_add_right, ← Nat.add_assoc, ← Nat.add_assoc]; exact fin_e h1 h2
theorem tb_to {a b : List Nat} {i j p q : Nat} (hi : i ≤ p) (hj : j ≤ q) (hp : p ≤ a.length) (hq : q ≤ b.length) : tb a b q p ≤ tb a b j i + 2 * max (p - i) (q - j) := by
  have := tb_seg (a := a) (b := b) i j _ (p - i) (q - j) rfl (by omega) (by omega)
  rwa [show i + (p - i) = p by omega, show j + (q - j) = q by omega] at this
theorem tb_blk {a b : List Nat} (K : Blk n N A B s u) (ha : a.length = N) (hb : b.length = N) (hg : ∀ k o, k < n → o < s k → cst (a.getD (A k + o) 0) (b.getD (B k + o) 0) ≤ u k o) {k : Nat} (hk : k < n) :
    ∀ o, o ≤ s k → tb a b (B k + o) (A k + o) ≤ tb a b (B k) (A k) + us (u k) o := by
  have h1 := K.a_in k hk
  have h2 := K.b_in k hk
  intro o
  induction o with
  | zero => intro _; exact Nat.le_refl _
  | succ o ih =>
    intro ho
    have h3 := ih (by omega)
    have h4 := hg k o hk (by omega)
    rw [← Nat.add_assoc, ← Nat.add_assoc, tb_s (by omega) (by omega)]
    simp only [us]
    omega
theorem ch_up {a b : List Nat} (K : Blk n N A B s u) (ha : a.length = N) (hb : b.length = N) (hg : ∀ k o, k < n → o < s k → cst (a.getD (A k + o) 0) (b.getD (B k + o) 0) ≤ u k o) {k c : Nat} (h : Ch n A B s u k c) :
    k < n ∧ tb a b (B k) (A k) ≤ c := by
  induction h with
  | @base k hk =>
    have h1 := K.a_in k hk
    have h2 := K.b_in k hk
    refine ⟨hk, ?_⟩
    have := tb_to (a := a) (b := b) (i := 0) (j := 0) (p := A k) (q := B k) (by omega) (by omega) (by omega) (by omega)
    rw [tb_0 (by omega), Nat.mul_zero, Nat.zero_add, Nat.sub_zero, Nat.sub_zero] at this
    exact this
  | @step j k c hlt hk hc hb' ih =>
    have h1 := K.a_in k hk
    have h2 := K.b_in k hk
    have h3 := K.a_ord j k hlt hk
    refine ⟨hk, ?_⟩
    have h4 := tb_blk K ha hb hg ih.1 (s j) (Nat.le_refl _)
    have := tb_to (a := a) (b := b) (i := A j + s j) (j := B j + s j) (p := A k) (q := B k) (by omega) (by omega) (by omega) (by omega)
    exact fin_f this h4 ih.2
/-- the cheapest way is the distance -/
theorem way_D {a b : List Nat} {W : Nat} (K : Blk n N A B s u) (ha : a.length = N) (hb : b.length = N)
    (hs : ∀ i j, i < N → j < N → cst (a.getD i 0) (b.getD j 0) = 2 ∨ ∃ k o, k < n ∧ o < s k ∧ i = A k + o ∧ j = B k + o ∧ u k o ≤ cst (a.getD i 0) (b.getD j 0))
    (hg : ∀ k o, k < n → o < s k → cst (a.getD (A k + o) 0) (b.getD (B k + o) 0) ≤ u k o)
    (h1 : W ≤ 2 * N) (h2 : ∀ k c, k < n → Ch n A B s u k c → W ≤ c + us (u k) (s k) + 2 * max (N - (A k + s k)) (N - (B k + s k)))
    (h3 : W = 2 * N ∨ ∃ k c, k < n ∧ Ch n A B s u k c ∧ W = c + us (u k) (s k) + 2 * max (N - (A k + s k)) (N - (B k + s k))) : D a b = W := by
  have e : D a b = tb a b N N := by rw [← tb_all, ha, hb]
  rw [e]
  apply Nat.le_antisymm
  · rcases h3 with h | ⟨k, c, hk, hc, h⟩
    · have := tb_to (a := a) (b := b) (i := 0) (j := 0) (p := N) (q := N) (by omega) (by omega) (by omega) (by omega)
      rw [tb_0 (by omega), Nat.mul_zero, Nat.zero_add, Nat.sub_zero, Nat.max_self] at this
      exact h ▸ this
    · have i1 := K.a_in k hk
      have i2 := K.b_in k hk
      have h4 := (ch_up K ha hb hg hc).2
      have h5 := tb_blk K ha hb hg hk (s k) (Nat.le_refl _)
      have := tb_to (a := a) (b := b) (i := A k + s k) (j := B k + s k) (p := N) (q := N) (by omega) (by omega) (by omega) (by omega)
      exact h ▸ fin_f this h5 h4
  · rcases tb_lb K ha hb hs _ N N rfl (Nat.le_refl _) (Nat.le_refl _) _ (Nat.le_refl _) with h | ⟨k, o, c0, hk, ho, h4, h5, hc, h⟩
    · rw [Nat.max_self] at h; exact Nat.le_trans h1 h
    · have h6 := h2 k c0 hk hc
      have i1 := K.a_in k hk
      have i2 := K.b_in k hk
      have hd := us_to (K.u_le k) (o := o) (p := s k) ho
      have e1 := mx_mv (o := 0) i1 ho
      have e2 := mx_mv (o := 0) i2 ho
      rw [Nat.add_zero N] at e1 e2
      rw [e1, e2, Nat.add_max_add_right] at h
      exact fin_g h h6 hd
end
end
-- part PWayD
section
section
variable {ahead place : Int}
theorem fold_init : ∀ (L : List Stp) (c : Int), L.foldl (stopF ahead place) c ≤ c
  | [], _ => Int.le_refl _
  | t :: r, c => by
    rw [List.foldl_cons]
    refine Int.le_trans (fold_init r _) ?_
    unfold stopF
    split
    · exact Int.min_le_left _ _
    · exact Int.le_refl _
theorem fold_mem : ∀ (L : List Stp) (c : Int) (t : Stp), t ∈ L → t.2.1 ≤ place → L.foldl (stopF ahead place) c ≤ t.2.2 + 2 * max (ahead - t.1) (place - t.2.1)
  | [], _, _, h, _ => nomatch h
  | t' :: r, c, t, h, hp => by
    rw [List.foldl_cons]
    rcases List.mem_cons.mp h with rfl | h
    · refine Int.le_trans (fold_init r _) ?_
      unfold stopF
      rw [if_pos hp]
      exact Int.min_le_right _ _
    · exact fold_mem r _ t h hp
theorem fold_att : ∀ (L : List Stp) (c : Int), L.foldl (stopF ahead place) c = c ∨ ∃ t ∈ L, t.2.1 ≤ place ∧ L.foldl (stopF ahead place) c = t.2.2 + 2 * max (ahead - t.1) (place - t.2.1)
  | [], _ => .inl rfl
  | t :: r, c => by
    rw [List.foldl_cons]
    rcases fold_att r (stopF ahead place c t) with h | ⟨t', h1, h2, h3⟩
    · rw [h]
      by_cases hp : t.2.1 ≤ place
      · have e : stopF ahead place c t = min c (t.2.2 + 2 * max (ahead - t.1) (place - t.2.1)) := by unfold stopF; rw [if_pos hp]
        rw [e]
        rcases Int.le_total c (t.2.2 + 2 * max (ahead - t.1) (place - t.2.1)) with q | q
        · exact .inl (Int.min_eq_left q)
        · exact .inr ⟨t, .head _, hp, Int.min_eq_right q⟩
      · have e : stopF ahead place c t = c := by unfold stopF; rw [if_neg hp]
        rw [e]; exact .inl rfl
    · exact .inr ⟨t', .tail _ h1, h2, h3⟩
end
section
variable {n N : Nat} {A B s : Nat → Nat} {u : Nat → Nat → Nat}
theorem Ch.lt {k c : Nat} (h : Ch n A B s u k c) : k < n := by cases h <;> assumption
/-- what the stops hold -/
noncomputable def StopsI (n : Nat) (A B s : Nat → Nat) (u : Nat → Nat → Nat) (i : Nat) (L : List Stp) : Prop :=
  (∀ t ∈ L, ∃ j c, j < i ∧ Ch n A B s u j c ∧ t = (((A j + s j : Nat) : Int), ((B j + s j : Nat) : Int), ((c + us (u j) (s j) : Nat) : Int))) ∧
  (∀ j c, j < i → Ch n A B s u j c → ∃ t ∈ L, t.1 = ((A j + s j : Nat) : Int) ∧ t.2.1 = ((B j + s j : Nat) : Int) ∧ t.2.2 ≤ ((c + us (u j) (s j) : Nat) : Int))
noncomputable def LeastI (n N : Nat) (A B s : Nat → Nat) (u : Nat → Nat → Nat) (i : Nat) (l : Int) : Prop :=
  l ≤ 2 * N ∧ (∀ j c, j < i → Ch n A B s u j c → l ≤ ((c + us (u j) (s j) + 2 * max (N - (A j + s j)) (N - (B j + s j)) : Nat) : Int)) ∧
  (l = 2 * N ∨ ∃ j c, j < i ∧ Ch n A B s u j c ∧ l = ((c + us (u j) (s j) + 2 * max (N - (A j + s j)) (N - (B j + s j)) : Nat) : Int))
theorem mxn (a b : Nat) : ((max a b : Nat) : Int) = max (a : Int) (b : Nat) := by
  rcases Nat.le_total a b with h | h
  · rw [Nat.max_eq_right h, Int.max_eq_right (Int.ofNat_le.mpr h)]
  · rw [Nat.max_eq_left h, Int.max_eq_left (Int.ofNat_le.mpr h)]
theorem mxc {a p b q : Nat} (hp : p ≤ a) (hq : q ≤ b) : max ((a : Int) - (p : Nat)) ((b : Int) - (q : Nat)) = ((max (a - p) (b - q) : Nat) : Int) := by
  rw [← Int.ofNat_sub hp, ← Int.ofNat_sub hq, ← mxn]
theorem mx2 {a b : Nat} : 2 * max (a : Int) (b : Nat) = ((2 * max a b : Nat) : Int) := by rw [← mxn]; rfl
theorem eqc {x m : Nat} : (x : Int) + 2 * (m : Nat) = ((x + 2 * m : Nat) : Int) := rfl
theorem lec {t : Int} {x m : Nat} (h : t ≤ (x : Nat)) : t + 2 * (m : Nat) ≤ ((x + 2 * m : Nat) : Int) := Int.add_le_add_right h (2 * (m : Int))
theorem cost_ch (K : Blk n N A B s u) {i : Nat} (hi : i < n) {L : List Stp} (h : StopsI n A B s u i L) : ∃ c, Ch n A B s u i c ∧ L.foldl (stopF (A i : Nat) (B i : Nat)) (2 * max ((A i : Nat) : Int) (B i : Nat)) = c ∧ ∀ c', Ch n A B s u i c' → c ≤ c' := by
  have hle : ∀ c', Ch n A B s u i c' → L.foldl (stopF (A i : Nat) (B i : Nat)) (2 * max ((A i : Nat) : Int) (B i : Nat)) ≤ c' := by
    intro c' hc
    cases hc with
    | base _ => exact Int.le_trans (fold_init _ _) (Int.le_of_eq mx2)
    | @step j _ c hlt _ hj hb =>
      obtain ⟨t, ht, h1, h2, h3⟩ := h.2 j c hlt hj
      have ha := K.a_ord j i hlt hi
      refine Int.le_trans (fold_mem L _ t ht (by rw [h2]; exact Int.ofNat_le.mpr hb)) ?_
      rw [h1, h2, mxc ha hb]
      exact lec h3
  rcases fold_att (ahead := (A i : Nat)) (place := (B i : Nat)) L (2 * max ((A i : Nat) : Int) (B i : Nat)) with e | ⟨t, ht, hp, e⟩
  · refine ⟨_, .base hi, e.trans mx2, fun c' hc => ?_⟩
    have := hle c' hc
    rw [e, mx2] at this
    exact Int.ofNat_le.mp this
  · obtain ⟨j, c, hlt, hj, rfl⟩ := h.1 t ht
    have ha := K.a_ord j i hlt hi
    have hb : B j + s j ≤ B i := Int.ofNat_le.mp hp
    have e' := e.trans (congrArg (fun z => ((c + us (u j) (s j) : Nat) : Int) + 2 * z) (mxc ha hb))
    refine ⟨_, .step hlt hi hj hb, e', fun c' hc => ?_⟩
    have := hle c' hc
    rw [e'] at this
    exact Int.ofNat_le.mp this
theorem way_run {ps : List (List Nat)} {szs rks : List Int} (K : Blk n N A B s u) (hN : szs.sum = N) (hA0 : n ≠ 0 → A 0 = 0) (hA : ∀ k, k + 1 < n → A (k + 1) = A k + s k)
    (hs : ∀ k, k < n → szs.getD k 0 = s k) (hB : ∀ k, k < n → plF szs rks k = B k) (hu : ∀ k, k < n → upC (ps.getD k []) = us (u k) (s k)) :
    ∀ i, i ≤ n → (i < n → (wayRun ps szs rks i).1 = A i) ∧ LeastI n N A B s u i (wayRun ps szs rks i).2.1 ∧ StopsI n A B s u i (wayRun ps szs rks i).2.2 := by
  intro i
  induction i with
  | zero =>
    intro _
    refine ⟨fun h => by rw [hA0 (by omega)]; rfl, ⟨?_, fun j c h => absurd h (Nat.not_lt_zero _), .inl ?_⟩, ⟨fun t h => absurd h List.not_mem_nil, fun j c h => absurd h (Nat.not_lt_zero _)⟩⟩
    · show 2 * szs.sum ≤ _; rw [hN]; exact Int.le_refl _
    · show 2 * szs.sum = _; rw [hN]
  | succ i ih =>
    intro hi
    obtain ⟨h1, h2, h3⟩ := ih (by omega)
    have h1 := h1 hi
    obtain ⟨c, hc, hce, hcm⟩ := cost_ch K hi h3
    have hcost : costF szs rks i (wayRun ps szs rks i).1 (wayRun ps szs rks i).2.2 = c := by
      unfold costF; rw [h1, hB i hi]; exact hce
    rw [wayRun_succ]
    unfold wayStep
    dsimp only
    rw [hcost, h1, hs i hi, hB i hi, hu i hi, hN]
    have ia := K.a_in i hi
    have ib := K.b_in i hi
    have em := mxc ia ib
    have ea : ((A i : Nat) : Int) + (s i : Nat) = ((A i + s i : Nat) : Int) := rfl
    have eb : ((B i : Nat) : Int) + (s i : Nat) = ((B i + s i : Nat) : Int) := rfl
    have ec : (c : Int) + (us (u i) (s i) : Nat) = ((c + us (u i) (s i) : Nat) : Int) := rfl
    have hcu : ∀ c', Ch n A B s u i c' → c + us (u i) (s i) + 2 * max (N - (A i + s i)) (N - (B i + s i)) ≤ c' + us (u i) (s i) + 2 * max (N - (A i + s i)) (N - (B i + s i)) :=
      fun c' hc' => Nat.add_le_add_right (Nat.add_le_add_right (hcm c' hc') _) _
    rw [ea, eb, ec, em, eqc]
    refine ⟨fun h => by rw [hA i h], ⟨Int.le_trans (Int.min_le_left _ _) h2.1, ?_, ?_⟩, ⟨?_, ?_⟩⟩
    · intro j c' hj hc'
      by_cases e : j < i
      · exact Int.le_trans (Int.min_le_left _ _) (h2.2.1 j c' e hc')
      · obtain rfl : j = i := Nat.le_antisymm (Nat.le_of_lt_succ hj) (Nat.le_of_not_lt e)
        exact Int.le_trans (Int.min_le_right _ _) (Int.ofNat_le.mpr (hcu c' hc'))
    · rcases Int.le_total (wayRun ps szs rks i).2.1 ((c + us (u i) (s i) + 2 * max (N - (A i + s i)) (N - (B i + s i)) : Nat) : Int) with q | q
      · rw [Int.min_eq_left q]
        rcases h2.2.2 with h | ⟨j, c', hj, hc', h⟩
        · exact .inl h
        · exact .inr ⟨j, c', Nat.lt_succ_of_lt hj, hc', h⟩
      · rw [Int.min_eq_right q]
        exact .inr ⟨i, c, Nat.lt_succ_self i, hc, rfl⟩
    · intro t ht
      rcases List.mem_append.mp ht with ht | ht
      · obtain ⟨j, c', hj, h⟩ := h3.1 t ht
        exact ⟨j, c', Nat.lt_succ_of_lt hj, h⟩
      · rw [List.mem_singleton.mp ht]
        exact ⟨i, c, Nat.lt_succ_self i, hc, rfl⟩
    · intro j c' hj hc'
      by_cases e : j < i
      · obtain ⟨t, ht, h⟩ := h3.2 j c' e hc'
        exact ⟨t, List.mem_append.mpr (.inl ht), h⟩
      · obtain rfl : j = i := Nat.le_antisymm (Nat.le_of_lt_succ hj) (Nat.le_of_not_lt e)
        exact ⟨_, List.mem_append.mpr (.inr (List.mem_singleton.mpr rfl)), rfl, rfl, Int.ofNat_le.mpr (Nat.add_le_add_right (hcm c' hc') _)⟩
theorem way_is {a b : List Nat} {ps : List (List Nat)} {szs rks : List Int} (K : Blk n N A B s u) (ha : a.length = N) (hb : b.length = N)
    (hst : ∀ i j, i < N → j < N → cst (a.getD i 0) (b.getD j 0) = 2 ∨ ∃ k o, k < n ∧ o < s k ∧ i = A k + o ∧ j = B k + o ∧ u k o ≤ cst (a.getD i 0) (b.getD j 0))
    (hg : ∀ k o, k < n → o < s k → cst (a.getD (A k + o) 0) (b.getD (B k + o) 0) ≤ u k o)
    (hN : szs.sum = N) (hA0 : n ≠ 0 → A 0 = 0) (hA : ∀ k, k + 1 < n → A (k + 1) = A k + s k)
    (hs : ∀ k, k < n → szs.getD k 0 = s k) (hB : ∀ k, k < n → plF szs rks k = B k) (hu : ∀ k, k < n → upC (ps.getD k []) = us (u k) (s k)) :
    (wayRun ps szs rks n).2.1 = D a b := by
  obtain ⟨_, ⟨l1, l2, l3⟩, _⟩ := way_run (ps := ps) K hN hA0 hA hs hB hu n (Nat.le_refl _)
  generalize (wayRun ps szs rks n).2.1 = l at l1 l2 l3
  obtain ⟨w, rfl⟩ : ∃ w : Nat, l = w := by
    rcases l3 with h | ⟨j, c, _, _, h⟩
    · exact ⟨2 * N, h⟩
    · exact ⟨_, h⟩
  exact congrArg Int.ofNat (way_D (W := w) K ha hb hst hg (Int.ofNat_le (n := 2 * N).mp l1) (fun k c hk hc => Int.ofNat_le.mp (l2 k c hk hc)) (by
    rcases l3 with h | ⟨j, c, hj, hc, h⟩
    · exact .inl (Int.ofNat.inj h)
    · exact .inr ⟨j, c, hj, hc, Int.ofNat.inj h⟩)).symm
end
end
-- part PBlkS
section
noncomputable def offs (R : List (List Nat)) (k : Nat) : Nat := ((R.take k).map List.length).sum
theorem offs_succ {R : List (List Nat)} {k : Nat} (h : k < R.length) : offs R (k + 1) = offs R k + (R.getD k []).length := by
  unfold offs
  rw [List.take_add_one, List.getElem?_eq_getElem h, List.getD_eq_getElem?_getD, List.getElem?_eq_getElem h]
  simp only [Option.toList_some, List.map_append, List.sum_append, List.map_cons, List.map_nil, List.sum_cons, List.sum_nil, Nat.add_zero, Option.getD_some]
theorem offs_mono {R : List (List Nat)} {j : Nat} : ∀ d, j + d ≤ R.length → offs R j ≤ offs R (j + d)
  | 0, _ => Nat.le_refl _
  | d + 1, h => by
    have h1 := offs_mono (R := R) (j := j) d (by omega)
    rw [← Nat.add_assoc, offs_succ (by omega)]
    omega
theorem offs_ord {R : List (List Nat)} {j k : Nat} (h : j < k) (hk : k ≤ R.length) : offs R j + (R.getD j []).length ≤ offs R k := by
  rw [← offs_succ (by omega)]
  have := offs_mono (R := R) (j := j + 1) (k - (j + 1)) (by omega)
  rwa [show j + 1 + (k - (j + 1)) = k by omega] at this
theorem offs_all (R : List (List Nat)) : offs R R.length = R.flatten.length := by
  unfold offs
  rw [List.take_length, List.length_flatten]
theorem offs_in {R : List (List Nat)} {k : Nat} (hk : k < R.length) : offs R k + (R.getD k []).length ≤ R.flatten.length := by
  rw [← offs_all]; exact offs_ord hk (Nat.le_refl _)
theorem flat_at : ∀ {R : List (List Nat)} {k o : Nat}, k < R.length → o < (R.getD k []).length → R.flatten[offs R k + o]? = (R.getD k [])[o]?
  | [], k, o, h, _ => by simp at h
  | p :: R, 0, o, _, ho => by
    have ho' : o < p.length := by simpa using ho
    simp only [offs, List.take_zero, List.map_nil, List.sum_nil, Nat.zero_add, List.flatten_cons]
    rw [List.getElem?_append_left ho']
    simp
  | p :: R, k + 1, o, h, ho => by
    have hk : k < R.length := by simpa using h
    have ho' : o < (R.getD k []).length := by simpa using ho
    have ih := flat_at hk ho'
    have e : offs (p :: R) (k + 1) = p.length + offs R k := by simp [offs]
    rw [e, List.flatten_cons, Nat.add_assoc, List.getElem?_append_right (by omega), show p.length + (offs R k + o) - p.length = offs R k + o by omega, ih]
    simp
theorem flat_split : ∀ {R : List (List Nat)} {i : Nat}, i < R.flatten.length → ∃ k o, k < R.length ∧ o < (R.getD k []).length ∧ i = offs R k + o
  | [], i, h => by simp at h
  | p :: R, i, h => by
    by_cases hp : i < p.length
    · exact ⟨0, i, by simp, by simpa using hp, by simp [offs]⟩
    · obtain ⟨k, o, h1, h2, h3⟩ := flat_split (R := R) (i := i - p.length) (by simp only [List.flatten_cons, List.length_append] at h; omega)
      refine ⟨k + 1, o, by simpa using h1, by simpa using h2, ?_⟩
      have e : offs (p :: R) (k + 1) = p.length + offs R k := by simp [offs]
      omega
theorem nodup_inj {l : List Nat} (h : l.Nodup) {i j c : Nat} (hi : l[i]? = some c) (hj : l[j]? = some c) : i = j := by
  obtain ⟨h1, e1⟩ := List.getElem?_eq_some_iff.mp hi
  obtain ⟨h2, e2⟩ := List.getElem?_eq_some_iff.mp hj
  rcases Nat.lt_trichotomy i j with q | q | q
  · exact absurd (e1.trans e2.symm) ((List.pairwise_iff_getElem.mp h) i j h1 h2 q)
  · exact q
  · exact absurd (e2.trans e1.symm) ((List.pairwise_iff_getElem.mp h) j i h2 h1 q)
theorem lowc_lt {c : Nat} (h : c < 128) : lowc c < 128 := by unfold lowc; split <;> omega
theorem lowc_idem {c : Nat} : lowc (lowc c) = lowc c := by
  have e : lowc c = c ∨ (65 ≤ c ∧ c ≤ 90 ∧ lowc c = c + 32) := by unfold lowc; split <;> omega
  rcases e with e | ⟨h1, h2, e⟩
  · rw [e, e]
  · rw [e]; unfold lowc; rw [if_neg (by omega)]
theorem lower_one {c : Nat} (h : c < 128) : Txt.lower (mk [c]) = mk [lowc c] := by
  have := lower_mk (l := [c]) (by intro d hd; rw [List.mem_singleton.mp hd]; exact h)
  simpa using this
theorem cst_ascii {a b : Nat} (ha : a < 128) (hb : b < 128) : cst a b = if a = b then 0 else if lowc a = lowc b then 1 else 2 := by
  unfold cst
  rw [lower_one ha, lower_one hb]
  by_cases h : a = b
  · rw [if_pos h, if_pos h]
  · rw [if_neg h, if_neg h]
    by_cases q : lowc a = lowc b
    · rw [if_pos q, if_pos (by rw [q])]
    · rw [if_neg q, if_neg (fun e => q (by have := mk_inj e; simpa using this))]
noncomputable def uOf (R : List (List Nat)) (k o : Nat) : Nat := if lowc ((R.getD k []).getD o 0) = (R.getD k []).getD o 0 then 0 else 1
theorem getD_of {l : List Nat} {i : Nat} (h : i < l.length) : l[i]? = some (l.getD i 0) := by
  rw [List.getElem?_eq_getElem h, List.getD_eq_getElem?_getD, List.getElem?_eq_getElem h]; rfl
section
variable {R : List (List Nat)} {b : List Nat} {B : Nat → Nat}
theorem blk_of (hb : b.length = R.flatten.length) (hbN : b.Nodup) (hbl : ∀ c ∈ b, lowc c = c ∧ c < 128) (haN : (R.flatten.map lowc).Nodup) (hne : ∀ p ∈ R, p ≠ []) (h128 : ∀ c ∈ R.flatten, c < 128)
    (hB : ∀ k o, k < R.length → o < (R.getD k []).length → b[B k + o]? = some (lowc ((R.getD k []).getD o 0))) :
    Blk R.length R.flatten.length (offs R) B (fun k => (R.getD k []).length) (uOf R) ∧
    (∀ i j, i < R.flatten.length → j < R.flatten.length → cst (R.flatten.getD i 0) (b.getD j 0) = 2 ∨ ∃ k o, k < R.length ∧ o < (R.getD k []).length ∧ i = offs R k + o ∧ j = B k + o ∧ uOf R k o ≤ cst (R.flatten.getD i 0) (b.getD j 0)) ∧
    (∀ k o, k < R.length → o < (R.getD k []).length → cst (R.flatten.getD (offs R k + o) 0) (b.getD (B k + o) 0) ≤ uOf R k o) := by
  have hpos : ∀ k, k < R.length → 0 < (R.getD k []).length := by
    intro k hk
    have e : R.getD k [] = R[k] := by rw [List.getD_eq_getElem?_getD, List.getElem?_eq_getElem hk]; rfl
    rw [e]
    exact List.length_pos_iff.mpr (hne _ (List.getElem_mem hk))
  have hA : ∀ k o, k < R.length → o < (R.getD k []).length → R.flatten.getD (offs R k + o) 0 = (R.getD k []).getD o 0 := by
    intro k o hk ho
    rw [List.getD_eq_getElem?_getD, flat_at hk ho, ← List.getD_eq_getElem?_getD]
  have hBd : ∀ k o, k < R.length → o < (R.getD k []).length → b.getD (B k + o) 0 = lowc ((R.getD k []).getD o 0) := by
    intro k o hk ho
    rw [List.getD_eq_getElem?_getD, hB k o hk ho]; rfl
  have hmem : ∀ k o, k < R.length → o < (R.getD k []).length → (R.getD k []).getD o 0 < 128 := by
    intro k o hk ho
    have h := flat_at hk ho
    rw [getD_of ho] at h
    exact h128 _ (List.mem_of_getElem? h)
  have hcst : ∀ k o, k < R.length → o < (R.getD k []).length → cst ((R.getD k []).getD o 0) (lowc ((R.getD k []).getD o 0)) = uOf R k o := by
    intro k o hk ho
    have hm := hmem k o hk ho
    rw [cst_ascii hm (lowc_lt hm)]
    unfold uOf
    by_cases q : lowc ((R.getD k []).getD o 0) = (R.getD k []).getD o 0
    · rw [if_pos q.symm, if_pos q]
    · rw [if_neg (fun e => q e.symm), if_neg q, lowc_idem, if_pos rfl]
  refine ⟨⟨fun k hk => offs_in hk, fun k hk => ?_, fun j k hjk hk => offs_ord hjk (Nat.le_of_lt hk), fun j k hj hk hjk => ?_, fun k o => ?_⟩, fun i j hi hj => ?_, fun k o hk ho => ?_⟩
  · have h0 := hpos k hk
    have h1 := hB k ((R.getD k []).length - 1) hk (by omega)
    have h2 := (List.getElem?_eq_some_iff.mp h1).1
    rw [hb] at h2
    show B k + (R.getD k []).length ≤ _
    omega
  · apply Classical.byContradiction
    intro hcon
    have c1 : ¬ (B j + (R.getD j []).length ≤ B k) := fun h => hcon (.inl h)
    have c2 : ¬ (B k + (R.getD k []).length ≤ B j) := fun h => hcon (.inr h)
    have p1 := hpos j hj
    have p2 := hpos k hk
    have h1 := hB j (max (B j) (B k) - B j) hj (by omega)
    have h2 := hB k (max (B j) (B k) - B k) hk (by omega)
    rw [show B j + (max (B j) (B k) - B j) = max (B j) (B k) by omega] at h1
    rw [show B k + (max (B j) (B k) - B k) = max (B j) (B k) by omega] at h2
    rw [h1] at h2
    have e := Option.some.inj h2
    have f1 : (R.flatten.map lowc)[offs R j + (max (B j) (B k) - B j)]? = some (lowc ((R.getD j []).getD (max (B j) (B k) - B j) 0)) := by
      rw [List.getElem?_map, flat_at hj (by omega), getD_of (by omega)]; rfl
    have f2 : (R.flatten.map lowc)[offs R k + (max (B j) (B k) - B k)]? = some (lowc ((R.getD j []).getD (max (B j) (B k) - B j) 0)) := by
      rw [List.getElem?_map, flat_at hk (by omega), getD_of (by omega), e]; rfl
    have q := nodup_inj haN f1 f2
    rcases Nat.lt_trichotomy j k with h | h | h
    · have := offs_ord h (Nat.le_of_lt hk); omega
    · exact hjk h
    · have := offs_ord h (Nat.le_of_lt hj); omega
  · unfold uOf; split <;> omega
  · obtain ⟨k, o, hk, ho, rfl⟩ := flat_split hi
    rw [hA k o hk ho]
    have hm := hmem k o hk ho
    have hbj := getD_of (l := b) (i := j) (by omega)
    obtain ⟨l1, l2⟩ := hbl _ (List.mem_of_getElem? hbj)
    by_cases q : lowc ((R.getD k []).getD o 0) = b.getD j 0
    · refine .inr ⟨k, o, hk, ho, rfl, ?_, ?_⟩
      · exact nodup_inj hbN hbj (by rw [hB k o hk ho, q])
      · rw [← q, hcst k o hk ho]; exact Nat.le_refl _
    · refine .inl ?_
      rw [cst_ascii hm l2, if_neg (fun e => q (by rw [← l1, e])), if_neg (fun e => q (by rw [e, l1]))]
  · rw [hA k o hk ho, hBd k o hk ho, hcst k o hk ho]; exact Nat.le_refl _
end
end
-- part PQuo
section
theorem D_sub_le (x y : Nat) (a b : List Nat) : D (x :: a) (y :: b) ≤ D a b + cst x y := by rw [D_cons]; omega
theorem D_foreign (q : Nat) (v : List Nat) : ∀ v' : List Nat, (∀ y ∈ v', cst q y = 2) → D v v' ≤ D (q :: v) v'
  | [], _ => by rw [D_nil_right, D_nil_right, List.length_cons]; omega
  | y :: b, h => by
    have ih := D_foreign q v b fun y hy => h y (.tail _ hy)
    have h1 := D_ins_le y v b
    have h2 := h y (.head _)
    rw [D_cons, h2]
    omega
theorem relabel {q z : Nat} {a b : List Nat} {k : Nat} (h : Al a b k) : ∀ w v, a = w ++ q :: v → (∀ y ∈ b, cst z y ≤ cst q y) → D (w ++ z :: v) b ≤ k := by
  induction h with
  | nil => intro w v h; cases w <;> cases h
  | @del x a b k hal ih =>
    intro w v h hz
    cases w with
    | nil =>
      obtain ⟨rfl, rfl⟩ := List.cons.inj h
      have := D_del_le z a b
      have := D_min hal
      show D (z :: a) b ≤ _
      omega
    | cons x' w =>
      obtain ⟨rfl, rfl⟩ := List.cons.inj h
      have := ih w v rfl hz
      have := D_del_le x (w ++ z :: v) b
      show D (x :: (w ++ z :: v)) b ≤ _
      omega
  | @ins y a b k hal ih =>
    intro w v h hz
    have := ih w v h fun y' hy => hz y' (.tail _ hy)
    have := D_ins_le y (w ++ z :: v) b
    omega
  | @sub x y a b k hal ih =>
    intro w v h hz
    cases w with
    | nil =>
      obtain ⟨rfl, rfl⟩ := List.cons.inj h
      have h1 := D_sub_le z y a b
      have h2 := D_min hal
      have h3 := hz y (.head _)
      show D (z :: a) (y :: b) ≤ _
      omega
    | cons x' w =>
      obtain ⟨rfl, rfl⟩ := List.cons.inj h
      have := ih w v rfl fun y' hy => hz y' (.tail _ hy)
      have := D_sub_le x y (w ++ z :: v) b
      show D (x :: (w ++ z :: v)) (y :: b) ≤ _
      omega
/-- the right name is a mark ahead -/
theorem quo_a {q z : Nat} {v v' : List Nat} (hv' : ∀ y ∈ v', cst q y = 2) {X Y : List Nat} {c : Nat} (h : Al X Y c) :
    ∀ u, X = u ++ q :: q :: v → Y = q :: v' → (∀ x ∈ u, cst x q = 2) → D (u ++ q :: z :: v) (z :: v') ≤ c ∨ D (u ++ q :: z :: v) (q :: z :: v') ≤ c := by
  have hz : ∀ y ∈ v', cst z y ≤ cst q y := fun y hy => by rw [hv' y hy]; exact cst_le _ _
  induction h with
  | nil => intro u h; cases u <;> cases h
  | @del x a b k hal ih =>
    intro u h hY hu
    cases u with
    | nil =>
      obtain ⟨rfl, rfl⟩ := List.cons.inj h
      subst hY
      have h1 := D_min hal
      rw [D_head] at h1
      have h2 := D_del_le x (z :: v) (z :: v')
      rw [D_head] at h2
      exact .inl (by show D (x :: z :: v) _ ≤ _; omega)
    | cons x' u =>
      obtain ⟨rfl, rfl⟩ := List.cons.inj h
      have h1 := D_del_le x (u ++ q :: z :: v) (z :: v')
      have h2 := D_del_le x (u ++ q :: z :: v) (q :: z :: v')
      rcases ih u rfl hY fun y hy => hu y (.tail _ hy) with h | h
      · exact .inl (by show D (x :: (u ++ q :: z :: v)) _ ≤ _; omega)
      · exact .inr (by show D (x :: (u ++ q :: z :: v)) _ ≤ _; omega)
  | @ins y a b k hal ih =>
    intro u h hY hu
    obtain ⟨rfl, rfl⟩ := List.cons.inj hY
    have h1 := relabel (z := z) hal (u ++ [y]) v (by rw [h]; simp) hz
    rw [List.append_assoc] at h1
    have h2 := D_ins_le z (u ++ y :: z :: v) b
    exact .inl (by have h1' : D (u ++ y :: z :: v) b ≤ k := h1
                   omega)
  | @sub x y a b k hal ih =>
    intro u h hY hu
    obtain ⟨rfl, rfl⟩ := List.cons.inj hY
    cases u with
    | nil =>
      obtain ⟨rfl, rfl⟩ := List.cons.inj h
      have h1 := D_min hal
      have h2 := D_foreign x v b hv'
      refine .inr ?_
      show D (x :: z :: v) (x :: z :: b) ≤ _
      rw [D_head, D_head]
      omega
    | cons x' u =>
      obtain ⟨rfl, rfl⟩ := List.cons.inj h
      have hx := hu x (.head _)
      have h1 := relabel (z := z) hal (u ++ [y]) v (by simp) hz
      rw [List.append_assoc] at h1
      have h1' : D (u ++ y :: z :: v) b ≤ k := h1
      have h2 := D_sub_le x z (u ++ y :: z :: v) b
      have h3 := cst_le x z
      exact .inl (by show D (x :: (u ++ y :: z :: v)) (z :: b) ≤ _; omega)
theorem quo_le {q z : Nat} {v v' : List Nat} (hv : ∀ y ∈ v, cst q y = 2) (hv' : ∀ y ∈ v', cst q y = 2) {X Y : List Nat} {c : Nat} (h : Al X Y c) :
    ∀ u u', X = u ++ q :: q :: v → Y = u' ++ q :: q :: v' → (∀ x ∈ u, cst x q = 2) → (∀ x ∈ u', cst x q = 2) → D (u ++ q :: z :: v) (u' ++ q :: z :: v') ≤ c := by
  induction h with
  | nil => intro u u' h; cases u <;> cases h
  | @del x a b k hal ih =>
    intro u u' h hY hu hu'
    cases u with
    | nil =>
      obtain ⟨rfl, rfl⟩ := List.cons.inj h
      have h1 := quo_a (z := z) hv hal.comm u' hY rfl hu'
      rw [D_comm _ (z :: v), D_comm _ (x :: z :: v)] at h1
      have h2 := D_del_le x (z :: v) (u' ++ x :: z :: v')
      show D (x :: z :: v) _ ≤ _
      rcases h1 with h1 | h1 <;> omega
    | cons x' u =>
      obtain ⟨rfl, rfl⟩ := List.cons.inj h
      have h1 := ih u u' rfl hY (fun y hy => hu y (.tail _ hy)) hu'
      have h2 := D_del_le x (u ++ q :: z :: v) (u' ++ q :: z :: v')
      show D (x :: (u ++ q :: z :: v)) _ ≤ _
      omega
  | @ins y a b k hal ih =>
    intro u u' h hY hu hu'
    cases u' with
    | nil =>
      obtain ⟨rfl, rfl⟩ := List.cons.inj hY
      have h1 := quo_a (z := z) hv' hal u h rfl hu
      have h2 := D_ins_le y (u ++ y :: z :: v) (z :: v')
      show D _ (y :: z :: v') ≤ _
      rcases h1 with h1 | h1 <;> omega
    | cons x' u' =>
      obtain ⟨rfl, rfl⟩ := List.cons.inj hY
      have h1 := ih u u' h rfl hu (fun y hy => hu' y (.tail _ hy))
      have h2 := D_ins_le y (u ++ q :: z :: v) (u' ++ q :: z :: v')
      show D _ (y :: (u' ++ q :: z :: v')) ≤ _
      omega
  | @sub x y a b k hal ih =>
    intro u u' h hY hu hu'
    cases u with
    | nil =>
      obtain ⟨rfl, rfl⟩ := List.cons.inj h
      cases u' with
      | nil =>
        obtain ⟨rfl, rfl⟩ := List.cons.inj hY
        have h1 := D_min hal
        rw [D_head] at h1
        show D (y :: z :: v) (y :: z :: v') ≤ _
        rw [D_head, D_head]
        omega
      | cons y' u' =>
        obtain ⟨rfl, rfl⟩ := List.cons.inj hY
        have hy := hu' y (.head _)
        rw [cst_comm] at hy
        have h1 := quo_a (z := z) hv hal.comm u' rfl rfl (fun y hy => hu' y (.tail _ hy))
        rw [D_comm _ (z :: v), D_comm _ (x :: z :: v)] at h1
        have h2 := D_sub_le x y (z :: v) (u' ++ x :: z :: v')
        have h3 := D_ins_le y (x :: z :: v) (u' ++ x :: z :: v')
        show D (x :: z :: v) (y :: (u' ++ x :: z :: v')) ≤ _
        rcases h1 with h1 | h1 <;> omega
    | cons x' u =>
      obtain ⟨rfl, rfl⟩ := List.cons.inj h
      cases u' with
      | nil =>
        obtain ⟨rfl, rfl⟩ := List.cons.inj hY
        have hx := hu x (.head _)
        have h1 := quo_a (z := z) hv' hal u rfl rfl (fun y hy => hu y (.tail _ hy))
        have h2 := D_sub_le x y (u ++ y :: z :: v) (z :: v')
        have h3 := D_del_le x (u ++ y :: z :: v) (y :: z :: v')
        show D (x :: (u ++ y :: z :: v)) (y :: z :: v') ≤ _
        rcases h1 with h1 | h1 <;> omega
      | cons y' u' =>
        obtain ⟨rfl, rfl⟩ := List.cons.inj hY
        have h1 := ih u u' rfl rfl (fun y hy => hu y (.tail _ hy)) (fun y hy => hu' y (.tail _ hy))
        have h2 := D_sub_le x y (u ++ q :: z :: v) (u' ++ q :: z :: v')
        show D (x :: (u ++ q :: z :: v)) (y :: (u' ++ q :: z :: v')) ≤ _
        omega
theorem D_map_le (f : Nat → Nat) {a b : List Nat} {k : Nat} (h : Al a b k) : (∀ x ∈ a, ∀ y ∈ b, cst (f x) (f y) ≤ cst x y) → D (a.map f) (b.map f) ≤ k := by
  induction h with
  | nil => intro _; rw [List.map_nil, D_nil_left]; simp
  | @del x a b k _ ih =>
    intro h
    have := ih fun x hx y hy => h x (.tail _ hx) y hy
    have := D_del_le (f x) (a.map f) (b.map f)
    rw [List.map_cons]; omega
  | @ins y a b k _ ih =>
    intro h
    have := ih fun x hx y hy => h x hx y (.tail _ hy)
    have := D_ins_le (f y) (a.map f) (b.map f)
    rw [List.map_cons]; omega
  | @sub x y a b k _ ih =>
    intro h
    have := ih fun x hx y hy => h x (.tail _ hx) y (.tail _ hy)
    have := D_sub_le (f x) (f y) (a.map f) (b.map f)
    have := h x (.head _) y (.head _)
    rw [List.map_cons, List.map_cons]; omega
/-- the doubled mark may as well be two marks -/
theorem quo {q z : Nat} {u u' v v' : List Nat} (hu : ∀ x ∈ u, cst x q = 2) (hu' : ∀ x ∈ u', cst x q = 2) (hv : ∀ y ∈ v, cst q y = 2) (hv' : ∀ y ∈ v', cst q y = 2)
    (zu : ∀ x ∈ u, cst x z = 2) (zu' : ∀ x ∈ u', cst x z = 2) (zv : ∀ x ∈ v, cst x z = 2) (zv' : ∀ x ∈ v', cst x z = 2) (zq : cst q z = 2) :
    D (u ++ q :: q :: v) (u' ++ q :: q :: v') = D (u ++ q :: z :: v) (u' ++ q :: z :: v') := by
  apply Nat.le_antisymm
  · have ne : ∀ x, cst x z = 2 → x ≠ z := fun x h e => by rw [e, cst_self] at h; cases h
    have fix : ∀ l : List Nat, (∀ x ∈ l, cst x z = 2) → l.map (fun c => if c = z then q else c) = l := by
      intro l h
      have : l.map (fun c => if c = z then q else c) = l.map id := List.map_congr_left fun x hx => by rw [if_neg (ne x (h x hx))]; rfl
      rw [this, List.map_id]
    have hq : (if q = z then q else q) = q := by split <;> rfl
    have e1 : (u ++ q :: z :: v).map (fun c => if c = z then q else c) = u ++ q :: q :: v := by
      rw [List.map_append, List.map_cons, List.map_cons, fix u zu, fix v zv, hq, if_pos rfl]
    have e2 : (u' ++ q :: z :: v').map (fun c => if c = z then q else c) = u' ++ q :: q :: v' := by
      rw [List.map_append, List.map_cons, List.map_cons, fix u' zu', fix v' zv', hq, if_pos rfl]
    rw [← e1, ← e2]
    refine D_map_le _ (Al.D _ _) fun x hx y hy => ?_
    have hxz : x = z ∨ cst x z = 2 := by
      rcases List.mem_append.mp hx with h | h
      · exact .inr (zu x h)
      rcases List.mem_cons.mp h with rfl | h
      · exact .inr zq
      rcases List.mem_cons.mp h with rfl | h
      · exact .inl rfl
      · exact .inr (zv x h)
    have hyz : y = z ∨ cst y z = 2 := by
      rcases List.mem_append.mp hy with h | h
      · exact .inr (zu' y h)
      rcases List.mem_cons.mp h with rfl | h
      · exact .inr zq
      rcases List.mem_cons.mp h with rfl | h
      · exact .inl rfl
      · exact .inr (zv' y h)
    rcases hxz with rfl | hx'
    · rcases hyz with rfl | hy'
      · rw [cst_self, cst_self]; exact Nat.le_refl _
      · rw [cst_comm x y, hy']; exact cst_le _ _
    · rcases hyz with rfl | hy'
      · rw [hx']; exact cst_le _ _
      · rw [if_neg (ne x hx'), if_neg (ne y hy')]; exact Nat.le_refl _
  · exact quo_le hv hv' (Al.D _ _) u u' rfl rfl hu hu'
end
-- part PFinA
section
open List in
noncomputable def Ls : List Nat := [34, 80, 81, 82, 83, 84, 85, 112, 113, 114, 115, 116, 117]
noncomputable def hdc (p : List Nat) : Nat := p.headD 0
noncomputable def Bk (P : List (List Nat)) : List (List Nat) := Ls.flatMap fun f => P.filter fun p => decide (hdc p = f)
/-- what is known of the groups -/
structure Good (P : List (List Nat)) : Prop where
  ne : ∀ p ∈ P, p ≠ []
  ls : ∀ c ∈ P.flatten, c ∈ Ls
  nd : (P.flatten.map lowc).Nodup
theorem Good.hdc_mem {P : List (List Nat)} (G : Good P) {p : List Nat} (h : p ∈ P) : hdc p ∈ p := by
  cases p with
  | nil => exact absurd rfl (G.ne _ h)
  | cons c r => exact .head _
theorem Good.hdc_ls {P : List (List Nat)} (G : Good P) {p : List Nat} (h : p ∈ P) : hdc p ∈ Ls :=
  G.ls _ (List.mem_flatten.mpr ⟨p, h, G.hdc_mem h⟩)
theorem Good.init {P : List (List Nat)} {p : List Nat} (G : Good (P ++ [p])) : Good P := by
  refine ⟨fun q h => G.ne q (List.mem_append.mpr (.inl h)), fun c h => G.ls c ?_, ?_⟩
  · rw [List.flatten_append]; exact List.mem_append.mpr (.inl h)
  · have := G.nd
    rw [List.flatten_append, List.map_append] at this
    exact (List.nodup_append.mp this).1
theorem Good.apart {P : List (List Nat)} {p : List Nat} (G : Good (P ++ [p])) : ∀ q ∈ P, hdc q ≠ hdc p := by
  intro q hq e
  have h := G.nd
  rw [List.flatten_append, List.map_append] at h
  have h3 := (List.nodup_append.mp h).2.2
  refine h3 (lowc (hdc q)) (List.mem_map.mpr ⟨hdc q, List.mem_flatten.mpr ⟨q, hq, G.hdc_mem (List.mem_append.mpr (.inl hq))⟩, rfl⟩) (lowc (hdc p)) (List.mem_map.mpr ⟨hdc p, ?_, rfl⟩) (by rw [e])
  have : hdc p ∈ p := G.hdc_mem (List.mem_append.mpr (.inr (.head _)))
  simpa using this
theorem ltC_hd {p q : List Nat} (hp : p ≠ []) (hq : q ≠ []) (h : hdc p ≠ hdc q) : ltC p q = decide (hdc p < hdc q) := by
  cases p with
  | nil => exact absurd rfl hp
  | cons c r =>
    cases q with
    | nil => exact absurd rfl hq
    | cons d t =>
      have hcd : c ≠ d := h
      show decide (b2i (decide (d :: t < c :: r)) - b2i (decide (c :: r < d :: t)) < 0) = decide (c < d)
      have e1 : (d :: t < c :: r) ↔ d < c := by rw [List.cons_lt_cons_iff]; constructor
                                                · rintro (h | ⟨h, _⟩)
                                                  · exact h
                                                  · exact absurd h.symm hcd
                                                · exact .inl
      have e2 : (c :: r < d :: t) ↔ c < d := by rw [List.cons_lt_cons_iff]; constructor
                                                · rintro (h | ⟨h, _⟩)
                                                  · exact h
                                                  · exact absurd h hcd
                                                · exact .inl
      rw [show decide (d :: t < c :: r) = decide (d < c) from decide_eq_decide.mpr e1, show decide (c :: r < d :: t) = decide (c < d) from decide_eq_decide.mpr e2]
      rcases Nat.lt_or_ge c d with h | h
      · have : ¬ d < c := by omega
        simp [this, h, b2i]
      · have h' : d < c := by omega
        have : ¬ c < d := by omega
        simp [this, h', b2i]
theorem Ls_split {f : Nat} (h : f ∈ Ls) : ∃ l1 l2, Ls = l1 ++ f :: l2 ∧ (∀ a ∈ l1, a < f) ∧ (∀ a ∈ l2, f < a) := by
  have hs : Ls.Pairwise (· < ·) := by decide
  obtain ⟨l1, l2, e⟩ := List.append_of_mem h
  rw [e] at hs
  obtain ⟨_, h2, h3⟩ := List.pairwise_append.mp hs
  exact ⟨l1, l2, e, fun a ha => h3 a ha f (.head _), fun a ha => (List.pairwise_cons.mp h2).1 a ha⟩
theorem mem_bk {P : List (List Nat)} {l : List Nat} {q : List Nat} (h : q ∈ l.flatMap fun f => P.filter fun p => decide (hdc p = f)) : q ∈ P ∧ hdc q ∈ l := by
  obtain ⟨f, hf, hq⟩ := List.mem_flatMap.mp h
  obtain ⟨h1, h2⟩ := List.mem_filter.mp hq
  have : hdc q = f := by simpa using h2
  exact ⟨h1, this ▸ hf⟩
theorem ord_bk : ∀ (n : Nat) (P : List (List Nat)), P.length = n → Good P → ordF P = Bk P
  | 0, P, h, _ => by
    have : P = [] := List.length_eq_zero_iff.mp h
    subst this
    simp [ordF, Bk]
  | n + 1, P, h, G => by
    obtain ⟨P', p, rfl⟩ : ∃ P' p, P = P' ++ [p] := by
      have hne : P ≠ [] := by intro e; rw [e] at h; simp at h
      exact ⟨P.dropLast, P.getLast hne, (List.dropLast_concat_getLast hne).symm⟩
    have G' := G.init
    have ih := ord_bk n P' (by simpa using h) G'
    rw [ordF_snoc, ih]
    have hpm : p ∈ P' ++ [p] := List.mem_append.mpr (.inr (.head _))
    obtain ⟨l1, l2, e, h1, h2⟩ := Ls_split (G.hdc_ls hpm)
    have hap := G.apart
    have hpe := G.ne p hpm
    unfold Bk
    rw [e]
    simp only [List.flatMap_append, List.flatMap_cons]
    have f0 : P'.filter (fun q => decide (hdc q = hdc p)) = [] := by
      apply List.filter_eq_nil_iff.mpr
      intro q hq
      simpa using hap q hq
    have fl : ∀ l : List Nat, hdc p ∉ l → (l.flatMap fun f => (P' ++ [p]).filter fun q => decide (hdc q = f)) = l.flatMap fun f => P'.filter fun q => decide (hdc q = f) := by
      intro l hl
      induction l with
      | nil => rfl
      | cons f r ih =>
        rw [List.flatMap_cons, List.flatMap_cons, ih fun h => hl (.tail _ h), List.filter_append]
        have : hdc p ≠ f := fun q => hl (q ▸ .head _)
        simp [this]
    rw [fl l1 fun h => absurd (h1 _ h) (Nat.lt_irrefl _), fl l2 fun h => absurd (h2 _ h) (Nat.lt_irrefl _), List.filter_append, f0]
    have f1 : [p].filter (fun q => decide (hdc q = hdc p)) = [p] := by simp
    rw [f1, List.nil_append, List.nil_append]
    have t1 : ∀ q ∈ l1.flatMap (fun f => P'.filter fun p => decide (hdc p = f)), ltC q p = true := by
      intro q hq
      obtain ⟨m1, m2⟩ := mem_bk hq
      rw [ltC_hd (G'.ne q m1) hpe (hap q m1)]
      exact decide_eq_true (h1 _ m2)
    have t2 : ∀ q ∈ l2.flatMap (fun f => P'.filter fun p => decide (hdc p = f)), ltC q p = false := by
      intro q hq
      obtain ⟨m1, m2⟩ := mem_bk hq
      rw [ltC_hd (G'.ne q m1) hpe (hap q m1)]
      exact decide_eq_false (Nat.not_lt.mpr (Nat.le_of_lt (h2 _ m2)))
    unfold insC
    rw [List.takeWhile_append_of_pos t1, List.dropWhile_append_of_pos t1]
    generalize l2.flatMap (fun f => P'.filter fun p => decide (hdc p = f)) = X2 at t2
    have w1 : X2.takeWhile (ltC · p) = [] := by
      cases X2 with
      | nil => rfl
      | cons q r => rw [List.takeWhile_cons, if_neg (by rw [t2 q (.head _)]; exact Bool.false_ne_true)]
    have w2 : X2.dropWhile (ltC · p) = X2 := by
      cases X2 with
      | nil => rfl
      | cons q r => rw [List.dropWhile_cons, if_neg (by rw [t2 q (.head _)]; exact Bool.false_ne_true)]
    rw [w1, w2]
    simp
open List in
theorem ins_perm (p : List Nat) (l : List (List Nat)) : insC p l ~ p :: l := by
  have h := List.takeWhile_append_dropWhile (p := (ltC · p)) (l := l)
  unfold insC
  rw [List.append_assoc, List.singleton_append]
  refine List.perm_middle.trans ?_
  rw [h]
open List in
theorem ord_perm (P : List (List Nat)) : ordF P ~ P := by
  have key : ∀ (l acc : List (List Nat)), l.foldl (fun acc p => insC p acc) acc ~ acc ++ l := by
    intro l
    induction l with
    | nil => intro acc; simp
    | cons p r ih =>
      intro acc
      rw [List.foldl_cons]
      refine (ih _).trans ?_
      refine ((ins_perm p acc).append_right r).trans ?_
      exact List.perm_middle.symm
  have := key P []
  simpa [ordF] using this
theorem bk_sum (g : List Nat → Nat) (P : List (List Nat)) : ∀ L : List Nat, L.Nodup → ((L.flatMap fun f => P.filter fun p => decide (hdc p = f)).map g).sum = ((P.filter fun p => decide (hdc p ∈ L)).map g).sum
  | [], _ => by
    have : P.filter (fun p => decide (hdc p ∈ ([] : List Nat))) = [] := List.filter_eq_nil_iff.mpr (by simp)
    rw [this]; rfl
  | f :: L, h => by
    have hn := List.nodup_cons.mp h
    rw [List.flatMap_cons, List.map_append, List.sum_append, bk_sum g P L hn.2]
    clear h
    induction P with
    | nil => rfl
    | cons p P ih =>
      rw [List.filter_cons, List.filter_cons, List.filter_cons]
      by_cases h1 : hdc p = f
      · have h2 : hdc p ∉ L := by rw [h1]; exact hn.1
        have h3 : hdc p ∈ f :: L := by rw [h1]; exact .head _
        simp only [h1, hn.1, decide_true, decide_false, if_true, List.map_cons, List.sum_cons, Bool.false_eq_true, if_false, List.mem_cons, true_or] at ih ⊢
        omega
      · by_cases h2 : hdc p ∈ L
        · have h3 : hdc p ∈ f :: L := .tail _ h2
          simp only [h1, h2, h3, decide_true, decide_false, if_true, List.map_cons, List.sum_cons, Bool.false_eq_true, if_false] at ih ⊢
          omega
        · have h3 : hdc p ∉ f :: L := fun h => by rcases List.mem_cons.mp h with h | h; exact h1 h; exact h2 h
          simp only [h1, h2, h3, decide_false, Bool.false_eq_true, if_false] at ih ⊢
          exact ih
/-- where a group stands in the order -/
theorem bk_at {P : List (List Nat)} (G : Good P) {p : List Nat} (h : p ∈ P) : ∃ X1 X2, Bk P = X1 ++ p :: X2 ∧ ∀ g : List Nat → Nat, (X1.map g).sum = ((P.filter fun q => decide (hdc q < hdc p)).map g).sum := by
  obtain ⟨l1, l2, e, h1, h2⟩ := Ls_split (G.hdc_ls h)
  have hf : P.filter (fun q => decide (hdc q = hdc p)) = [p] := by
    obtain ⟨s, t, rfl⟩ := List.append_of_mem h
    have h0 := G.nd
    have hap : ∀ q, q ∈ s ∨ q ∈ t → hdc q ≠ hdc p := by
      intro q hq e
      have hpp : hdc p ∈ p := G.hdc_mem h
      have hqm : q ∈ s ++ p :: t := by
        rcases hq with hq | hq
        · exact List.mem_append.mpr (.inl hq)
        · exact List.mem_append.mpr (.inr (.tail _ hq))
      have hqq : hdc q ∈ q := G.hdc_mem hqm
      rw [List.flatten_append, List.flatten_cons, List.map_append, List.map_append] at h0
      obtain ⟨_, n2, n3⟩ := List.nodup_append.mp h0
      obtain ⟨_, _, n4⟩ := List.nodup_append.mp n2
      rcases hq with hq | hq
      · exact n3 (lowc (hdc q)) (List.mem_map.mpr ⟨_, List.mem_flatten.mpr ⟨q, hq, hqq⟩, rfl⟩) (lowc (hdc p)) (List.mem_append.mpr (.inl (List.mem_map.mpr ⟨_, hpp, rfl⟩))) (by rw [e])
      · exact n4 (lowc (hdc p)) (List.mem_map.mpr ⟨_, hpp, rfl⟩) (lowc (hdc q)) (List.mem_map.mpr ⟨_, List.mem_flatten.mpr ⟨q, hq, hqq⟩, rfl⟩) (by rw [e])
    rw [List.filter_append, List.filter_cons]
    have f1 : s.filter (fun q => decide (hdc q = hdc p)) = [] := List.filter_eq_nil_iff.mpr fun q hq => by simpa using hap q (.inl hq)
    have f2 : t.filter (fun q => decide (hdc q = hdc p)) = [] := List.filter_eq_nil_iff.mpr fun q hq => by simpa using hap q (.inr hq)
    rw [f1, f2]
    simp
  refine ⟨l1.flatMap fun f => P.filter fun p => decide (hdc p = f), l2.flatMap fun f => P.filter fun p => decide (hdc p = f), ?_, fun g => ?_⟩
  · unfold Bk
    rw [e, List.flatMap_append, List.flatMap_cons, hf]
    rfl
  · have hnd : Ls.Nodup := by decide
    rw [e] at hnd
    rw [bk_sum g P l1 (List.nodup_append.mp hnd).1]
    congr 2
    apply List.filter_congr
    intro q hq
    have hql : hdc q ∈ l1 ++ hdc p :: l2 := e ▸ G.hdc_ls hq
    apply decide_eq_decide.mpr
    constructor
    · exact h1 _
    · intro hlt
      rcases List.mem_append.mp hql with hm | hm
      · exact hm
      · rcases List.mem_cons.mp hm with hm | hm
        · omega
        · have := h2 _ hm; omega
end
-- part PFinB
section
/-- behind each quotation mark the signs z -/
noncomputable def exq (z p : List Nat) : List Nat := p.flatMap fun c => if c = 34 then 34 :: z else [c]
theorem exq_flat (z : List Nat) (P : List (List Nat)) : exq z P.flatten = (P.map (exq z)).flatten := by
  induction P with
  | nil => rfl
  | cons p P ih =>
    rw [List.flatten_cons, List.map_cons, List.flatten_cons, ← ih]
    exact List.flatMap_append
theorem exq_nil (p : List Nat) : exq [] p = p := by
  induction p with
  | nil => rfl
  | cons c r ih =>
    unfold exq at ih ⊢
    rw [List.flatMap_cons, ih]
    by_cases h : c = 34
    · rw [if_pos h, h]; rfl
    · rw [if_neg h]; rfl
theorem exq_dbl (p : List Nat) : exq [34] p = dbl p := by
  induction p with
  | nil => rfl
  | cons c r ih =>
    unfold exq at ih ⊢
    rw [List.flatMap_cons, ih]
    show _ = if c = 34 then 34 :: 34 :: dbl r else c :: dbl r
    by_cases h : c = 34
    · rw [if_pos h, if_pos h]; rfl
    · rw [if_neg h, if_neg h]; rfl
theorem exq_no {z p : List Nat} (h : 34 ∉ p) : exq z p = p := by
  induction p with
  | nil => rfl
  | cons c r ih =>
    have hc : c ≠ 34 := fun e => h (e ▸ .head _)
    have := ih fun e => h (.tail _ e)
    unfold exq at this ⊢
    rw [List.flatMap_cons, this, if_neg hc]
    rfl
theorem exq_append (z a b : List Nat) : exq z (a ++ b) = exq z a ++ exq z b := List.flatMap_append
theorem exq_one {z u v : List Nat} (hu : 34 ∉ u) (hv : 34 ∉ v) : exq z (u ++ 34 :: v) = u ++ 34 :: (z ++ v) := by
  rw [exq_append, exq_no hu]
  show u ++ exq z (34 :: v) = _
  have : exq z (34 :: v) = (34 :: z) ++ exq z v := rfl
  rw [this, exq_no hv]
  rfl
theorem ls_low : ∀ c ∈ Ls, (lowc c = 34 ↔ c = 34) ∧ lowc c ≠ 39 ∧ c ≠ 39 ∧ c < 128 ∧ lowc c < 128 ∧ (lowc c = c ↔ upB c = false) := by decide
theorem exq_low {z p : List Nat} (hz : z.map lowc = z) (h : ∀ c ∈ p, c ∈ Ls) : (exq z p).map lowc = exq z (p.map lowc) := by
  induction p with
  | nil => rfl
  | cons c r ih =>
    have ih := ih fun d hdc => h d (.tail _ hdc)
    have hc := (ls_low c (h c (.head _))).1
    unfold exq at ih ⊢
    rw [List.flatMap_cons, List.map_cons, List.flatMap_cons, List.map_append, ih]
    by_cases q : c = 34
    · subst q
      have : lowc 34 = 34 := by decide
      rw [if_pos rfl, this, if_pos rfl, List.map_cons, this, hz]
    · have q2 : lowc c ≠ 34 := fun e => q (hc.mp e)
      rw [if_neg q, if_neg q2]; rfl
theorem exq_ne {z p : List Nat} (h : p ≠ []) : exq z p ≠ [] := by
  cases p with
  | nil => exact absurd rfl h
  | cons c r =>
    unfold exq
    rw [List.flatMap_cons]
    by_cases q : c = 34
    · rw [if_pos q]; simp
    · rw [if_neg q]; simp
theorem exq_mem {z p : List Nat} {c : Nat} (h : c ∈ exq z p) : c ∈ p ∨ c ∈ z := by
  obtain ⟨d, hdc, hc⟩ := List.mem_flatMap.mp h
  by_cases q : d = 34
  · rw [if_pos q] at hc
    rcases List.mem_cons.mp hc with rfl | hc
    · exact .inl (q ▸ hdc)
    · exact .inr hc
  · rw [if_neg q] at hc
    exact .inl ((List.mem_singleton.mp hc) ▸ hdc)
/-- the marks to try -/
noncomputable def IsZ (z : List Nat) : Prop := z = [] ∨ z = [39]
theorem exq_nodup {z p : List Nat} (hz : IsZ z) (h : p.Nodup) (h39 : 39 ∉ p) : (exq z p).Nodup := by
  rcases hz with rfl | rfl
  · rw [exq_nil]; exact h
  · by_cases q : 34 ∈ p
    · obtain ⟨u, v, rfl⟩ := List.append_of_mem q
      obtain ⟨n1, n2, n3⟩ := List.nodup_append.mp h
      have hu : 34 ∉ u := fun e => n3 34 e 34 (.head _) rfl
      have hv : 34 ∉ v := (List.nodup_cons.mp n2).1
      rw [exq_one hu hv]
      have hp : (u ++ 34 :: ([39] ++ v)).Perm (39 :: (u ++ 34 :: v)) := by
        have e : u ++ 34 :: ([39] ++ v) = (u ++ [34]) ++ 39 :: v := by simp
        rw [e]
        refine List.perm_middle.trans ?_
        simp
      exact hp.nodup_iff.mpr (List.nodup_cons.mpr ⟨h39, h⟩)
    · rw [exq_no q]; exact h
theorem exq_len {z p : List Nat} (h : p.Nodup) : ((exq z p).length : Int) = szF (z.length : Int) p := by
  unfold szF
  by_cases q : 34 ∈ p
  · rw [if_pos q]
    obtain ⟨u, v, rfl⟩ := List.append_of_mem q
    obtain ⟨n1, n2, n3⟩ := List.nodup_append.mp h
    have hu : 34 ∉ u := fun e => n3 34 e 34 (.head _) rfl
    have hv : 34 ∉ v := (List.nodup_cons.mp n2).1
    rw [exq_one hu hv]
    simp only [List.length_append, List.length_cons]
    omega
  · rw [if_neg q, exq_no q]; omega
theorem us_count (l : List Nat) : ∀ n, n ≤ l.length → us (fun o => if lowc (l.getD o 0) = l.getD o 0 then 0 else 1) n = ((l.take n).filter fun c => decide (lowc c ≠ c)).length
  | 0, _ => rfl
  | n + 1, h => by
    have e : l.take (n + 1) = l.take n ++ [l.getD n 0] := by
      rw [List.take_add_one, getD_of (by omega)]; rfl
    rw [e, List.filter_append, List.length_append, ← us_count l n (by omega)]
    simp only [us]
    generalize l.getD n 0 = d
    by_cases q : lowc d = d
    · rw [if_pos q]; simp [q]
    · rw [if_neg q]; simp [q]
theorem upC_exq {z p : List Nat} (hz : z.map lowc = z) (h : ∀ c ∈ p, c ∈ Ls) : upC p = (((exq z p).filter fun c => decide (lowc c ≠ c)).length : Int) := by
  unfold upC
  congr 1
  induction p with
  | nil => rfl
  | cons c r ih =>
    have ih := ih fun d hdc => h d (.tail _ hdc)
    have hc := (ls_low c (h c (.head _))).2.2.2.2.2
    have e : exq z (c :: r) = (if c = 34 then 34 :: z else [c]) ++ exq z r := rfl
    rw [e, List.filter_append, List.length_append, ← ih, List.filter_cons]
    by_cases q : c = 34
    · subst q
      have h1 : upB 34 = false := by decide
      have h2 : (34 :: z).filter (fun c => decide (lowc c ≠ c)) = [] := by
        apply List.filter_eq_nil_iff.mpr
        intro d hdc
        rcases List.mem_cons.mp hdc with rfl | hdc
        · decide
        · have : lowc d = d := by
            obtain ⟨i, hi, rfl⟩ := List.getElem_of_mem hdc
            have := congrArg (fun l => l[i]?) hz
            simpa [hi] using this
          simp [this]
      rw [if_pos rfl, h1, h2]
      simp
    · rw [if_neg q]
      cases hb : upB c with
      | true =>
        have : lowc c ≠ c := fun e => by rw [hc.mp e] at hb; cases hb
        simp [this]; omega
      | false =>
        have : lowc c = c := hc.mpr hb
        simp [this]
theorem z_low {z : List Nat} (hz : IsZ z) : z.map lowc = z := by rcases hz with rfl | rfl <;> decide
theorem rk_first : ∀ c ∈ Ls, ∀ d ∈ Ls, (Txt.find (Str.ofString "\"PQRSTUpqrstu") (mk [c]) < Txt.find (Str.ofString "\"PQRSTUpqrstu") (mk [d]) ↔ c < d) := by decide +kernel
theorem item_hd {p : List Nat} (h : p ≠ []) : Txt.item (mk p) 0 = mk [hdc p] := by
  cases p with
  | nil => exact absurd rfl h
  | cons c r => exact item_nat (Int.le_refl _) rfl
theorem rkS_lt {P : List (List Nat)} (G : Good P) {p q : List Nat} (hp : p ∈ P) (hq : q ∈ P) {rk : List Nat → Int} (hrk : ∀ p, rk p = Txt.find (Str.ofString "\"PQRSTUpqrstu") (Txt.item (mk p) 0)) : rk p < rk q ↔ hdc p < hdc q := by
  rw [hrk, hrk, item_hd (G.ne _ hp), item_hd (G.ne _ hq)]
  exact rk_first _ (G.hdc_ls hp) _ (G.hdc_ls hq)
theorem getDl {P : List (List Nat)} {k : Nat} (h : k < P.length) : P.getD k [] = P[k] := by rw [List.getD_eq_getElem?_getD, List.getElem?_eq_getElem h]; rfl
theorem map_getD {α : Type} (f : List Nat → α) (d : α) {P : List (List Nat)} {k : Nat} (h : k < P.length) : (P.map f).getD k d = f (P.getD k []) := by
  rw [List.getD_eq_getElem?_getD, List.getElem?_map, List.getElem?_eq_getElem h, getDl h]; rfl
theorem range_filter {α : Type} (f : List Nat → Bool) (g : List Nat → α) : ∀ P : List (List Nat), ((List.range P.length).filter fun i => f (P.getD i [])).map (fun i => g (P.getD i [])) = (P.filter f).map g := by
  intro P
  have e : P = (List.range P.length).map fun i => P.getD i [] := by
    apply List.ext_getElem
    · simp
    · intro i h1 h2
      rw [List.getElem_map, List.getElem_range, getDl h1]
  conv => rhs; rw [e, List.filter_map, List.map_map]
  rfl
theorem sum_cast : ∀ l : List Nat, (l.map fun (n : Nat) => (n : Int)).sum = ((l.sum : Nat) : Int)
  | [] => rfl
  | a :: r => by rw [List.map_cons, List.sum_cons, sum_cast r, List.sum_cons]; omega
end
-- part PFinC
section
theorem Good.nd1 {P : List (List Nat)} (G : Good P) : P.flatten.Nodup := by
  have := G.nd
  unfold List.Nodup at this ⊢
  rw [List.pairwise_map] at this
  exact this.imp fun h e => h (by rw [e])
theorem Good.nd_p {P : List (List Nat)} (G : Good P) {p : List Nat} (h : p ∈ P) : p.Nodup := by
  have hn := G.nd1
  obtain ⟨s, t, rfl⟩ := List.append_of_mem h
  rw [List.flatten_append, List.flatten_cons] at hn
  exact (List.nodup_append.mp (List.nodup_append.mp hn).2.1).1
theorem Good.ls_p {P : List (List Nat)} (G : Good P) {p : List Nat} (h : p ∈ P) : ∀ c ∈ p, c ∈ Ls := fun c hc => G.ls c (List.mem_flatten.mpr ⟨p, h, hc⟩)
theorem Good.mem_at {P : List (List Nat)} {k : Nat} (h : k < P.length) : P.getD k [] ∈ P := by rw [getDl h]; exact List.getElem_mem h
theorem way_exq {P : List (List Nat)} (G : Good P) {z : List Nat} (hz : IsZ z) {rk : List Nat → Int} (hrk : ∀ p, rk p = Txt.find (Str.ofString "\"PQRSTUpqrstu") (Txt.item (mk p) 0)) :
    (wayRun P (P.map (szF (z.length : Int))) (P.map rk) P.length).2.1 = D (exq z P.flatten) (exq z ((ordF P).flatten.map lowc)) := by
  have hzl := z_low hz
  have hQ := ord_perm P
  have hQ2 := ord_bk P.length P rfl G
  obtain ⟨R, hR⟩ : ∃ R, P.map (exq z) = R := ⟨_, rfl⟩
  have hRl : R.length = P.length := by rw [← hR, List.length_map]
  have ha : exq z P.flatten = R.flatten := by rw [exq_flat, hR]
  have hRk : ∀ k, k < R.length → R.getD k [] = exq z (P.getD k []) := fun k hk => by rw [← hR]; exact map_getD _ _ (by omega)
  have hQm : ∀ c ∈ (ordF P).flatten, c ∈ Ls := fun c hc => G.ls c (hQ.flatten.mem_iff.mp hc)
  obtain ⟨b, hb⟩ : ∃ b, exq z ((ordF P).flatten.map lowc) = b := ⟨_, rfl⟩
  have hbe : b = (((ordF P).map (exq z)).flatten).map lowc := by rw [← hb, ← exq_low hzl hQm, exq_flat]
  have hp : (((ordF P).map (exq z)).flatten).Perm R.flatten := by rw [← hR]; exact (hQ.map _).flatten
  have h39 : 39 ∉ P.flatten.map lowc := by
    intro h
    obtain ⟨c, hc, e⟩ := List.mem_map.mp h
    exact (ls_low c (G.ls c hc)).2.1 e
  have hm128 : ∀ c ∈ R.flatten, c < 128 := by
    intro c hc
    rw [← ha] at hc
    rcases exq_mem hc with h | h
    · exact (ls_low c (G.ls c h)).2.2.2.1
    · rcases hz with rfl | rfl
      · cases h
      · rw [List.mem_singleton.mp h]; decide
  have haN : (R.flatten.map lowc).Nodup := by
    rw [← ha, exq_low hzl G.ls]
    exact exq_nodup hz G.nd h39
  have hbN : b.Nodup := by rw [hbe]; exact (hp.map lowc).nodup_iff.mpr haN
  have hbl : ∀ c ∈ b, lowc c = c ∧ c < 128 := by
    intro c hc
    rw [hbe] at hc
    obtain ⟨d, hdc, rfl⟩ := List.mem_map.mp hc
    exact ⟨lowc_idem, lowc_lt (hm128 d (hp.mem_iff.mp hdc))⟩
  have hbL : b.length = R.flatten.length := by rw [hbe, List.length_map, hp.length_eq]
  have hne : ∀ p ∈ R, p ≠ [] := by
    intro p hp
    rw [← hR] at hp
    obtain ⟨q, hq, rfl⟩ := List.mem_map.mp hp
    exact exq_ne (G.ne q hq)
  have hB : ∀ k o, k < R.length → o < (R.getD k []).length → b[((P.filter fun q => decide (hdc q < hdc (P.getD k []))).map fun p => (exq z p).length).sum + o]? = some (lowc ((R.getD k []).getD o 0)) := by
    intro k o hk ho
    rw [hRk k hk] at ho ⊢
    have hpm : P.getD k [] ∈ P := Good.mem_at (by omega)
    generalize P.getD k [] = p at ho hpm
    obtain ⟨X1, X2, e, hs⟩ := bk_at G hpm
    have hl : (((X1.map (exq z)).flatten).map lowc).length = ((P.filter fun q => decide (hdc q < hdc p)).map fun p => (exq z p).length).sum := by
      rw [List.length_map, List.length_flatten, List.map_map, ← hs]; rfl
    rw [hbe, hQ2, e, List.map_append, List.flatten_append, List.map_append, List.map_cons, List.flatten_cons, List.map_append, List.getElem?_append_right (by omega), hl,
      Nat.add_sub_cancel_left, List.getElem?_append_left (by rw [List.length_map]; exact ho), List.getElem?_map, getD_of ho]
    rfl
  obtain ⟨K, hst, hg⟩ := blk_of (B := fun k => ((P.filter fun q => decide (hdc q < hdc (P.getD k []))).map fun p => (exq z p).length).sum) hbL hbN hbl haN hne hm128 hB
  have hsz : ∀ k, k < P.length → (P.map (szF (z.length : Int))).getD k 0 = ((exq z (P.getD k [])).length : Int) := fun k hk => by
    rw [map_getD _ _ hk, exq_len (G.nd_p (Good.mem_at hk))]
  have hszs : P.map (szF (z.length : Int)) = (P.map fun p => (exq z p).length).map fun (n : Nat) => (n : Int) := by
    rw [List.map_map]
    exact List.map_congr_left fun p hp => (exq_len (G.nd_p hp)).symm
  have := way_is (ps := P) (szs := P.map (szF (z.length : Int))) (rks := P.map rk) K rfl hbL hst hg ?_ (fun _ => rfl) (fun k hk => offs_succ (by omega)) ?_ ?_ ?_
  · rw [ha, hb, ← hRl]
    exact this
  · rw [hszs, sum_cast, List.length_flatten, ← hR, List.map_map]
    rfl
  · intro k hk
    rw [hsz k (by omega)]
    show _ = ((R.getD k []).length : Int)
    rw [hRk k hk]
  · intro k hk
    have hk' : k < P.length := by omega
    unfold plF
    rw [List.length_map]
    have e1 : (List.range P.length).filter (fun i => decide ((P.map rk).getD i 0 < (P.map rk).getD k 0)) = (List.range P.length).filter fun i => (fun q => decide (hdc q < hdc (P.getD k []))) (P.getD i []) := by
      apply List.filter_congr
      intro i hi
      have hi' : i < P.length := List.mem_range.mp hi
      apply decide_eq_decide.mpr
      rw [map_getD rk _ hi', map_getD rk _ hk']
      exact rkS_lt G (Good.mem_at hi') (Good.mem_at hk') hrk
    have e2 : ((List.range P.length).filter fun i => (fun q => decide (hdc q < hdc (P.getD k []))) (P.getD i [])).map (fun i => (P.map (szF (z.length : Int))).getD i 0) = ((List.range P.length).filter fun i => (fun q => decide (hdc q < hdc (P.getD k []))) (P.getD i [])).map fun i => (fun p => ((exq z p).length : Int)) (P.getD i []) := by
      apply List.map_congr_left
      intro i hi
      exact hsz i (List.mem_range.mp (List.mem_filter.mp hi).1)
    rw [e1, e2, range_filter (fun q => decide (hdc q < hdc (P.getD k []))) (fun p => ((exq z p).length : Int)) P, ← sum_cast, List.map_map]
    rfl
  · intro k hk
    have hk' : k < P.length := by omega
    have h1 := us_count (R.getD k []) (R.getD k []).length (Nat.le_refl _)
    rw [List.take_length] at h1
    have h2 := upC_exq hzl (G.ls_p (Good.mem_at hk'))
    rw [← hRk k hk] at h2
    rw [h2]
    show _ = ((us (uOf R k) (R.getD k []).length : Nat) : Int)
    rw [← h1]
    rfl
/-- the names -/
theorem way_plain {P : List (List Nat)} (G : Good P) {rk : List Nat → Int} (hrk : ∀ p, rk p = Txt.find (Str.ofString "\"PQRSTUpqrstu") (Txt.item (mk p) 0)) :
    (wayRun P (P.map (szF 0)) (P.map rk) P.length).2.1 = D P.flatten ((ordF P).flatten.map lowc) := by
  have := way_exq G (z := []) (.inl rfl) hrk
  rw [exq_nil, exq_nil] at this
  exact this
theorem cst_far {c d : Nat} (hc : c < 128) (hdc : d < 128) (h : lowc c ≠ lowc d) : cst c d = 2 := by
  rw [cst_ascii hc hdc, if_neg fun e => h (by rw [e]), if_neg h]
/-- the names within replies -/
theorem way_dbl {P : List (List Nat)} (G : Good P) {rk : List Nat → Int} (hrk : ∀ p, rk p = Txt.find (Str.ofString "\"PQRSTUpqrstu") (Txt.item (mk p) 0)) :
    (wayRun P (P.map (szF 1)) (P.map rk) P.length).2.1 = D (dbl P.flatten) (dbl ((ordF P).flatten.map lowc)) := by
  have h := way_exq G (z := [39]) (.inr rfl) hrk
  have e1 : (([39] : List Nat).length : Int) = 1 := rfl
  rw [e1] at h
  rw [h, ← exq_dbl, ← exq_dbl]
  have hQ := ord_perm P
  have hmem : 34 ∈ (ordF P).flatten.map lowc ↔ 34 ∈ P.flatten := by
    constructor
    · intro hm
      obtain ⟨c, hc, e⟩ := List.mem_map.mp hm
      have hc' := hQ.flatten.mem_iff.mp hc
      rw [(ls_low c (G.ls c hc')).1.mp e] at hc'
      exact hc'
    · intro hm
      exact List.mem_map.mpr ⟨34, hQ.flatten.mem_iff.mpr hm, by decide⟩
  have hnd2 : ((ordF P).flatten.map lowc).Nodup := (hQ.flatten.map lowc).nodup_iff.mpr G.nd
  by_cases q : 34 ∈ P.flatten
  · have q2 := hmem.mpr q
    have hn1 := G.nd1
    have hl1 := G.ls
    have hl2 : ∀ c ∈ (ordF P).flatten.map lowc, ∃ d ∈ Ls, c = lowc d := fun c hc => by
      obtain ⟨d, hdc, rfl⟩ := List.mem_map.mp hc
      exact ⟨d, G.ls d (hQ.flatten.mem_iff.mp hdc), rfl⟩
    generalize P.flatten = x at q hn1 hl1
    generalize (ordF P).flatten.map lowc = y at q2 hnd2 hl2
    obtain ⟨u, v, rfl⟩ := List.append_of_mem q
    obtain ⟨u', v', rfl⟩ := List.append_of_mem q2
    obtain ⟨_, n2, n3⟩ := List.nodup_append.mp hn1
    obtain ⟨_, n5, n6⟩ := List.nodup_append.mp hnd2
    have hu : 34 ∉ u := fun e => n3 34 e 34 (.head _) rfl
    have hv : 34 ∉ v := (List.nodup_cons.mp n2).1
    have hu' : 34 ∉ u' := fun e => n6 34 e 34 (.head _) rfl
    have hv' : 34 ∉ v' := (List.nodup_cons.mp n5).1
    rw [exq_one hu hv, exq_one hu' hv', exq_one hu hv, exq_one hu' hv']
    have far1 : ∀ c, c ∈ Ls → c ≠ 34 → cst c 34 = 2 ∧ cst c 39 = 2 := fun c hc h34 => by
      have := ls_low c hc
      exact ⟨cst_far this.2.2.2.1 (by decide) (by show lowc c ≠ 34; exact fun e => h34 (this.1.mp e)), cst_far this.2.2.2.1 (by decide) this.2.1⟩
    have far2 : ∀ c, (∃ d ∈ Ls, c = lowc d) → c ≠ 34 → cst c 34 = 2 ∧ cst c 39 = 2 := fun c hc h34 => by
      obtain ⟨d, hdc, rfl⟩ := hc
      have := ls_low d hdc
      exact ⟨cst_far this.2.2.2.2.1 (by decide) (by rw [lowc_idem]; exact h34), cst_far this.2.2.2.2.1 (by decide) (by rw [lowc_idem]; exact this.2.1)⟩
    have fu : ∀ c ∈ u, cst c 34 = 2 ∧ cst c 39 = 2 := fun c hc => far1 c (hl1 c (List.mem_append.mpr (.inl hc))) fun e => hu (e ▸ hc)
    have fv : ∀ c ∈ v, cst c 34 = 2 ∧ cst c 39 = 2 := fun c hc => far1 c (hl1 c (List.mem_append.mpr (.inr (.tail _ hc)))) fun e => hv (e ▸ hc)
    have fu' : ∀ c ∈ u', cst c 34 = 2 ∧ cst c 39 = 2 := fun c hc => far2 c (hl2 c (List.mem_append.mpr (.inl hc))) fun e => hu' (e ▸ hc)
    have fv' : ∀ c ∈ v', cst c 34 = 2 ∧ cst c 39 = 2 := fun c hc => far2 c (hl2 c (List.mem_append.mpr (.inr (.tail _ hc)))) fun e => hv' (e ▸ hc)
    have := quo (q := 34) (z := 39) (u := u) (u' := u') (v := v) (v' := v') (fun c hc => (fu c hc).1) (fun c hc => (fu' c hc).1) (fun c hc => by rw [cst_comm]; exact (fv c hc).1) (fun c hc => by rw [cst_comm]; exact (fv' c hc).1)
      (fun c hc => (fu c hc).2) (fun c hc => (fu' c hc).2) (fun c hc => (fv c hc).2) (fun c hc => (fv' c hc).2) (cst_far (by decide) (by decide) (by decide))
    show ((D (u ++ 34 :: 39 :: v) (u' ++ 34 :: 39 :: v') : Nat) : Int) = ((D (u ++ 34 :: 34 :: v) (u' ++ 34 :: 34 :: v') : Nat) : Int)
    rw [this]
  · have q2 : 34 ∉ (ordF P).flatten.map lowc := fun e => q (hmem.mp e)
    rw [exq_no q, exq_no q2, exq_no q, exq_no q2]
end
-- part PLaw
section
theorem ls_str : (Str.ofString "\"PQRSTUpqrstu").cps.toList = Ls := by decide +kernel
noncomputable def plO (P : List (List Nat)) (j : Nat) : List Nat := (Ls.take j).flatMap fun f => (P.filter fun p => decide (hdc p = f)).flatten
noncomputable def plI (P : List (List Nat)) (f i : Nat) : List Nat := ((P.take i).filter fun p => decide (hdc p = f)).flatten
noncomputable def OutP (P : List (List Nat)) (j : Nat) (s : Str) : Prop := j ≤ 13 ∧ s = mk (plO P j) ∧ s.length ≤ 6 * j
noncomputable def InP (P : List (List Nat)) (j f i : Nat) (s : Str) : Prop := s = mk (plO P j ++ plI P f i) ∧ s.length ≤ 6 * j + ((P.take i).map List.length).sum
section
variable {P : List (List Nat)} {j f i : Nat} {s : Str} {p : List Nat}
theorem outP_0 (P : List (List Nat)) : OutP P 0 (Str.ofString "") := ⟨Nat.zero_le _, by rw [empty_is]; rfl, by decide +kernel⟩
theorem in_0 (h : OutP P j s) : InP P j f 0 s := by
  refine ⟨?_, ?_⟩
  · have : plI P f 0 = [] := by simp [plI]
    rw [this, List.append_nil]; exact h.2.1
  · have := h.2.2; simp; omega
theorem take_snoc (hp : P[i]? = some p) : P.take (i + 1) = P.take i ++ [p] := by rw [List.take_add_one, hp]; rfl
theorem in_t (h : InP P j f i s) (hp : P[i]? = some p) (hf : hdc p = f) : InP P j f (i + 1) (s ++ mk p) := by
  obtain ⟨h1, h2⟩ := h
  have e : plI P f (i + 1) = plI P f i ++ p := by
    unfold plI
    rw [take_snoc hp, List.filter_append, List.flatten_append]
    simp [hf]
  refine ⟨?_, ?_⟩
  · rw [e, h1, mk_append, List.append_assoc]
  · rw [take_snoc hp, List.map_append, List.sum_append]
    rw [h1, mk_len] at h2
    rw [h1, mk_append, mk_len, List.length_append]
    simp only [List.map_cons, List.map_nil, List.sum_cons, List.sum_nil]
    omega
theorem in_f (h : InP P j f i s) (hp : P[i]? = some p) (hf : hdc p ≠ f) : InP P j f (i + 1) s := by
  obtain ⟨h1, h2⟩ := h
  have e : plI P f (i + 1) = plI P f i := by
    unfold plI
    rw [take_snoc hp, List.filter_append, List.flatten_append]
    simp [hf]
  refine ⟨by rw [e, h1], ?_⟩
  rw [take_snoc hp, List.map_append, List.sum_append]
  omega
theorem in_end (h : InP P j f P.length s) (hf : Ls[j]? = some f) (hs : (P.map List.length).sum ≤ 6) : OutP P (j + 1) s := by
  obtain ⟨h1, h2⟩ := h
  rw [List.take_length] at h2
  have hj : j < 13 := (List.getElem?_eq_some_iff.mp hf).1
  refine ⟨hj, ?_, by omega⟩
  rw [h1]
  have e : plO P (j + 1) = plO P j ++ plI P f P.length := by
    unfold plO plI
    have : Ls.take (j + 1) = Ls.take j ++ [f] := by rw [List.take_add_one, hf]; rfl
    rw [this, List.flatMap_append, List.take_length]
    simp
  rw [e]
theorem in_bound (h : InP P j f i s) (hj : j ≤ 13) (hs : (P.map List.length).sum ≤ 6) : s.length ≤ 84 := by
  have h2 := h.2
  have : ((P.take i).map List.length).sum ≤ (P.map List.length).sum := by
    conv => rhs; rw [← List.take_append_drop i P, List.map_append, List.sum_append]
    omega
  omega
theorem out_end (G : Good P) (h : OutP P 13 s) : s = mk (ordF P).flatten := by
  rw [h.2.1]
  have e : plO P 13 = (ordF P).flatten := by
    rw [ord_bk _ P rfl G]
    unfold plO Bk
    have : Ls.take 13 = Ls := rfl
    rw [this]
    generalize Ls = L
    induction L with
    | nil => rfl
    | cons f r ih => rw [List.flatMap_cons, List.flatMap_cons, List.flatten_append, ih]
  rw [e]
theorem item_f (G : Good P) (hp : P[i]? = some p) {ch : Nat} : (Txt.item (mk p) 0 == (⟨#[ch]⟩ : Str)) = true ↔ hdc p = ch := by
  rw [item_hd (G.ne p (List.mem_of_getElem? hp))]
  constructor
  · intro h
    have := mk_inj (l := [hdc p]) (r := [ch]) (beq_iff_eq.mp h)
    simpa using this
  · intro h; rw [h]; simp
end
theorem len_le_sum : ∀ {P : List (List Nat)}, (∀ p ∈ P, p ≠ []) → P.length ≤ (P.map List.length).sum
  | [], _ => Nat.le_refl _
  | p :: r, h => by
    have := len_le_sum fun q hq => h q (.tail _ hq)
    have := List.length_pos_iff.mpr (h p (.head _))
    simp only [List.length_cons, List.map_cons, List.sum_cons]; omega
theorem len_p {P : List (List Nat)} {p : List Nat} (h : p ∈ P) : p.length ≤ (P.map List.length).sum := by
  obtain ⟨s, t, rfl⟩ := List.append_of_mem h
  simp only [List.map_append, List.map_cons, List.sum_append, List.sum_cons]; omega
/-- a reply -/
theorem reply_is {x e : List Nat} : Str.ofString "257 \"" ++ mk (dbl x) ++ Str.ofString "\"" ++ mk e = mk ([50, 53, 55, 32, 34] ++ dbl x ++ 34 :: e) := by
  have e1 : Str.ofString "257 \"" = mk [50, 53, 55, 32, 34] := by decide +kernel
  rw [e1, quote_is, mk_append]
  rw [show (⟨#[34]⟩ : Str) = mk [34] from rfl, mk_append, mk_append]
  simp
noncomputable def EndOk (e : List Nat) : Prop := e = [] ∨ e = [32, 109, 97, 100, 101]
theorem end_is {y : Str} (h : y = Str.ofString "" ∨ y = Str.ofString " made") : ∃ e, y = mk e ∧ EndOk e := by
  rcases h with rfl | rfl
  · exact ⟨[], empty_is, .inl rfl⟩
  · exact ⟨[32, 109, 97, 100, 101], by decide +kernel, .inr rfl⟩
theorem end_34 {e : List Nat} (h : EndOk e) : ∀ c r, e = c :: r → c ≠ 34 := by
  intro c r hc
  rcases h with rfl | rfl
  · cases hc
  · obtain ⟨rfl, _⟩ := List.cons.inj hc; decide
theorem end_len {e : List Nat} (h : EndOk e) : e.length ≤ 5 := by rcases h with rfl | rfl <;> decide
theorem end_128 {e : List Nat} (h : EndOk e) : ∀ c ∈ e, c < 128 := by rcases h with rfl | rfl <;> decide
theorem reply_257 {n e : List Nat} : (Txt.slice (mk ([50, 53, 55, 32, 34] ++ dbl n ++ 34 :: e)) none (some 3) != Str.ofString "257") = false := by
  have e1 : Str.ofString "257" = mk [50, 53, 55] := by decide +kernel
  rw [sl_to (by decide), e1]
  have : (mk ([50, 53, 55, 32, 34] ++ dbl n ++ 34 :: e)).cps.toList.take (3 : Int).toNat = [50, 53, 55] := rfl
  rw [this]; simp
theorem reply_sq {n e : List Nat} : (Txt.slice (mk ([50, 53, 55, 32, 34] ++ dbl n ++ 34 :: e)) (some 3) (some 5) != Str.ofString " \"") = false := by
  have e1 : Str.ofString " \"" = mk [32, 34] := by decide +kernel
  rw [sl_ss (by decide) (by decide) (by rw [mk_len]; simp; omega), e1]
  have : ((mk ([50, 53, 55, 32, 34] ++ dbl n ++ 34 :: e)).cps.toList.drop (3 : Int).toNat).take ((5 : Int) - 3).toNat = [32, 34] := rfl
  rw [this]; simp
theorem reply_D {a b e : List Nat} : D ([50, 53, 55, 32, 34] ++ dbl a ++ 34 :: e) ([50, 53, 55, 32, 34] ++ dbl b ++ 34 :: e) = D (dbl a) (dbl b) := by
  rw [D_suf, D_pre]
theorem D_le_sum (a b : List Nat) : D a b ≤ 2 * (a.length + b.length) := by
  have h := D_min ((Al.dels a).append (Al.inss b))
  rw [List.append_nil, List.nil_append] at h
  omega
theorem dbl_len_eq {P : List (List Nat)} (G : Good P) : (dbl P.flatten).length = (dbl ((ordF P).flatten.map lowc)).length := by
  have hm : ∀ c ∈ (ordF P).flatten, c ∈ Ls := fun c hc => G.ls c ((ord_perm P).flatten.mem_iff.mp hc)
  rw [← exq_dbl, ← exq_dbl, ← exq_low (by decide) hm, List.length_map]
  exact ((ord_perm P).flatten.flatMap_right (fun c => if c = 34 then 34 :: [34] else [c])).length_eq.symm
theorem reply_len {x e : List Nat} (hx : x.length = 6) (he : EndOk e) : (50 :: 53 :: 55 :: 32 :: 34 :: (dbl x ++ 34 :: e)).length ≤ 40 := by
  have h1 := dbl_len2 x
  have h2 := end_len he
  simp only [List.length_cons, List.length_append]
  omega
theorem reply_D' {a b e : List Nat} : D (50 :: 53 :: 55 :: 32 :: 34 :: (dbl a ++ 34 :: e)) (50 :: 53 :: 55 :: 32 :: 34 :: (dbl b ++ 34 :: e)) = D (dbl a) (dbl b) := reply_D
end
-- part WList
section
section
variable {prog : Program} {w : World} {A : Around} {E : Value → Shared → Prop} {s : Shared} {h₀ : Heap} {L : Addr} {m : Str → Option Value} {news news' : List (Addr × Obj)}
theorem own_range {r : Addr} {a b c : Int} {t u v : Tok} {n : Nat} {Q : Value → Shared → Prop} (hh : A.handled = none) (F : Fr h₀ L s.heap m) (N : News h₀ L s.heap news) (hr : IsRange s.heap r a b c t u v) (hsmall : Builtin.Range.small a b c = true) (hn : Builtin.Range.rangeSize a b c = (n : Int)) (hz : n ≤ 2 ^ 24)
    (h : ∀ D us nn h' tk, Fr h₀ L h' m → News h₀ L h' ((D, listOf (List.toArray us) nn) :: news) → (∀ p ∈ news, p.1 < D) → us.length = n → (∀ j, j < n → ∃ t, us[j]? = some (.int (a + (j : Int) * c) t)) → Q (.ref D) { s with heap := h', toks := tk }) :
    wpAny (model prog w) A (call (.type "list") [.ref r]) Q E s := by
  refine call_list_range hh hr hsmall hn hz fun h' tk acc c hk hD hI => ?_
  have hD' : h'.get? s.heap.objs.size = some (listOf (List.toArray acc.toList) c) := by
    rw [Array.toArray_toList]
    exact hD
  refine h _ acc.toList c h' tk (F.keeps hk) (news_pushed F N hk hD' rfl) (fun p hp => Heap.lt_size (N p hp).1) (by rw [Array.length_toList]; exact hI.1) fun j hj => ?_
  have hj' : j < acc.size := by rw [hI.1]; exact hj
  obtain ⟨t, ht⟩ := hI.2 j acc[j] (Array.getElem?_eq_getElem hj')
  exact ⟨t, by rw [Array.getElem?_toList, Array.getElem?_eq_getElem hj', ht]⟩
theorem own_item {value slice : PySem.Expr} {l : Addr} {vs : List Value} {nn : Nat} {k : Int} {u : Tok} {x : Value} {Q : Value → Shared → Prop} (N : News h₀ L s.heap news) (hl : (l, listOf vs.toArray nn) ∈ news)
    (h0 : 0 ≤ k) (hfit : k < 2 ^ 63) (hx : vs[k.toNat]? = some x) (h : Q x s)
    (hs : subscripted slice false (.ref l) (.int k u) = operate [.ref l, .int k u] (getItem (.ref l) (.int k u)) := by with_unfolding_all rfl) :
    wpAny (model prog w) A (subscriptTail value slice (.ref l) (.int k u)) Q E s := by
  have hl' : s.heap.IsList l vs.toArray := News.isList N hl
  exact tail_any hl'.typeIs slot_list_getitem.lookup (wpAny_getItem_list hl' h0 hfit (by simpa using hx) h) hs
theorem setL_ok : ∀ {l : List Value} {k : Nat} {v : Value}, k < l.length → ki_setL l k v = some (l.set k v)
  | [], _, _, h => absurd h (Nat.not_lt_zero _)
  | _ :: _, 0, _, _ => rfl
  | x :: r, k + 1, v, h => by
    unfold ki_setL
    rw [setL_ok (Nat.lt_of_succ_lt_succ h)]
    rfl
theorem own_set {l : Addr} {vs : List Value} {nn : Nat} {k : Int} {t : Tok} {v : Value} {Q : Unit → Shared → Prop} (F : Fr h₀ L s.heap m) (N : News h₀ L s.heap news) (h0 : 0 ≤ k) (hfit : k < 2 ^ 63) (hk : k < vs.length)
    (U : Upd l (listOf vs.toArray nn) (listOf (vs.set k.toNat v).toArray nn) news news')
    (h : ∀ h', Fr h₀ L h' m → News h₀ L h' news' → Q () { s with heap := h' }) : wpAny (model prog w) A (setItem (.ref l) (.int k t) v) Q E s :=
  ki_set F N h0 hfit (by rw [List.toList_toArray]; exact setL_ok (by omega)) U h
end
theorem two_small {b : Int} (h0 : 0 ≤ b) (h1 : b ≤ 1000) : Builtin.Range.small 2 b 2 = true := by
  unfold Builtin.Range.small Builtin.Range.rangeSize Builtin.Range.rangeFitsLong
  simp only [Bool.and_eq_true, Bool.or_eq_true, decide_eq_true_eq, beq_iff_eq, show (2 : Int) > 0 by decide, if_true]
  split <;> omega
theorem two_size (n : Nat) : Builtin.Range.rangeSize 2 (2 * ((n : Int) + 1)) 2 = (n : Int) := by
  unfold Builtin.Range.rangeSize
  simp only [show (2 : Int) > 0 by decide, if_true]
  split <;> omega
theorem rowV_0 {A B : List Nat} {us : List Value} (h1 : us.length = A.length) (h2 : ∀ j, j < A.length → ∃ t, us[j]? = some (.int (2 + (j : Int) * 2) t)) : RowV A B 0 0 us := by
  refine ⟨h1, fun j hj => ?_⟩
  obtain ⟨t, ht⟩ := h2 j hj
  refine ⟨t, ?_⟩
  rw [ht, if_neg (Nat.not_lt_zero _), tb_0 (by omega)]
  have : (2 + (j : Int) * 2) = ((2 * (j + 1) : Nat) : Int) := by omega
  rw [this]
/-- the outer and the inner turn -/
noncomputable def OutI (A B : List Nat) (i : Nat) (us : List Value) (r : Int) : Prop := RowV A B i 0 us ∧ (i ≠ 0 → r = tb A B i A.length)
noncomputable def InI (A B : List Nat) (i : Nat) (idx : Nat) (us : List Value) (d r mi : Int) : Prop :=
  RowV A B i idx us ∧ d = tb A B i idx ∧ r = rs A B i idx ∧ ∀ j, 1 ≤ j → j ≤ idx → mi ≤ (tb A B (i + 1) j : Int)
theorem inI_0 {A B : List Nat} {i : Nat} {us : List Value} {r v mi : Int} (h : OutI A B i us r) (hi : i < B.length) (hv : v = 2 * (i : Int)) : InI A B i 0 us v v mi := by
  refine ⟨h.1, ?_, ?_, fun j h1 h2 => by omega⟩
  · rw [tb_c (by omega), hv]; omega
  · unfold rs; rw [if_pos rfl, hv]; omega
theorem inI_next {A B : List Nat} {i idx : Nat} {us : List Value} {d r mi d' r' mi' c : Int} {t : Tok} (h : InI A B i idx us d r mi) (hi : i < B.length) (hx : idx < A.length)
    (hc : c = cst (B.getD i 0) (A.getD idx 0)) (hd : d' = (tb A B i (idx + 1) : Int)) (hr : r' = min (min r d' + 2) (d + c)) (hm : mi' ≤ mi) (hm' : mi' ≤ r') :
    InI A B i (idx + 1) (us.set idx (.int r' t)) d' r' mi' := by
  obtain ⟨h1, h2, h3, h4⟩ := h
  have e : r' = (rs A B i (idx + 1) : Int) := by
    rw [rs_next hi hx, hr, hd, h2, h3, hc]; omega
  have e2 : rs A B i (idx + 1) = tb A B (i + 1) (idx + 1) := if_neg (by omega)
  refine ⟨h1.set hx (by rw [e, e2]), hd, e, fun j hj1 hj2 => ?_⟩
  by_cases q : j = idx + 1
  · subst q; rw [← e2, ← e]; exact hm'
  · exact Int.le_trans hm (h4 j hj1 (by omega))
theorem inI_end {A B : List Nat} {i : Nat} {us : List Value} {d r mi : Int} (hA : 0 < A.length) (h : InI A B i A.length us d r mi) : OutI A B (i + 1) us r := by
  refine ⟨h.1.turn, fun _ => ?_⟩
  rw [h.2.2.1]; unfold rs; rw [if_neg (by omega)]
theorem inI_far {A B : List Nat} {i : Nat} {us : List Value} {d r mi mx : Int} (hA : 0 < A.length) (hi : i < B.length) (h : InI A B i A.length us d r mi) (hf : mx < mi) : mx < (D A B : Int) :=
  D_far hA hi fun j h1 h2 => by have := h.2.2.2 j h1 h2; omega
theorem outI_end {A B : List Nat} {us : List Value} {r : Int} (hA : 0 < A.length) (hl : A.length = B.length) (h : OutI A B B.length us r) : r = D A B := by
  rw [h.2 (by omega), tb_all]
theorem sub_items {A B : List Nat} {i j : Nat} (hi : i < B.length) (hj : j < A.length) : subCost (Txt.item (mk B) (0 + (i : Int))) (Txt.item (mk A) (0 + (j : Int))) = cst (B.getD i 0) (A.getD j 0) := by
  rw [item_get (by omega) (by omega), item_get (by omega) (by omega), subCost_mk]
  have e1 : (0 + (i : Int)).toNat = i := by omega
  have e2 : (0 + (j : Int)).toNat = j := by omega
  rw [e1, e2]
theorem lev_zero {A B : List Nat} (h : A.length = B.length) (h0 : A.length = 0) : D A B = 0 := by
  rw [List.length_eq_zero_iff.mp h0, D_nil_left]; omega
theorem ite_min {a b : Int} : (if b < a then b else a) = min a b := by
  rw [Int.min_def]; split <;> split <;> omega
end
-- part WMore
section
theorem pick_to {vs : List Value} {k : Int} (h : 0 ≤ k) : (slicePick vs.toArray none (some k) none).toList = vs.take k.toNat := by
  have e : sliceBounds none (some k) none vs.toArray.size = (((0 : Nat) : Int), ((min k.toNat vs.toArray.size : Nat) : Int), 1) := by
    simp only [sliceBounds, Option.getD_none, show (1 : Int) > 0 by decide, if_true, if_neg (show ¬ (k < 0) by omega)]
    congr 1
    congr 1
    omega
  rw [kmk_pick_nat _ e]
  show (vs.drop 0).take (min k.toNat vs.toArray.size - 0) = _
  rw [List.drop_zero, Nat.sub_zero, List.size_toArray, kmk_take_min]
theorem pick_from {vs : List Value} {k : Int} (h : 0 ≤ k) : (slicePick vs.toArray (some k) none none).toList = vs.drop k.toNat := by
  have e : sliceBounds (some k) none none vs.toArray.size = (((min k.toNat vs.toArray.size : Nat) : Int), ((vs.toArray.size : Nat) : Int), 1) := by
    simp only [sliceBounds, Option.getD_none, show (1 : Int) > 0 by decide, if_true, if_neg (show ¬ (k < 0) by omega)]
    congr 1
    omega
  rw [kmk_pick_nat _ e]
  show (vs.drop (min k.toNat vs.toArray.size)).take (vs.toArray.size - min k.toNat vs.toArray.size) = _
  rw [List.size_toArray, kmk_drop_min, List.take_of_length_le (by rw [List.length_drop]; omega)]
section
variable {prog : Program} {w : World} {A : Around} {E : Value → Shared → Prop} {s : Shared} {h₀ : Heap} {L l a b : Addr} {m : Str → Option Value} {news : List (Addr × Obj)} {value slice : PySem.Expr} {vs ws zs : List Value} {nn n1 n2 : Nat} {vl vu : Value} {lo hi : Option Int} {Q : Value → Shared → Prop}
theorem own_slice (F : Fr h₀ L s.heap m) (N : News h₀ L s.heap news) (hl : (l, listOf vs.toArray nn) ∈ news) (pl : IsPart vl lo) (pu : IsPart vu hi) (e : (slicePick vs.toArray lo hi none).toList = zs)
    (h : ∀ D h', Fr h₀ L h' m → News h₀ L h' ((D, listOf zs.toArray 0) :: news) → (∀ p ∈ news, p.1 < D) → Q (.ref D) { s with heap := h' })
    (hs : subscripted slice false (.ref l) (.ref s.heap.objs.size) = operate [.ref s.heap.objs.size, .ref l] (getItem (.ref l) (.ref s.heap.objs.size))) (ht : ∀ r, letTemporaryGo value (.ref l) r = pure ()) (hz : vs.length ≤ 1000) :
    wpAny (model prog w) A (subscriptTail value slice (.ref l) (.ref s.heap.objs.size)) Q E { s with heap := s.heap.push { cls := .type "slice", data := .fields #[vl, vu, .none] } } :=
  kmk_slice_lit F N (News.isList N hl) pl pu e h hs ht (by rw [List.size_toArray, sizeLine_eq]; omega)
theorem own_add (F : Fr h₀ L s.heap m) (N : News h₀ L s.heap news) (ha : (a, listOf vs.toArray n1) ∈ news) (hb : (b, listOf ws.toArray n2) ∈ news)
    (h : ∀ D h', Fr h₀ L h' m → News h₀ L h' ((D, listOf (vs ++ ws).toArray 0) :: news) → (∀ p ∈ news, p.1 < D) → Q (.ref D) { s with heap := h' })
    (hz : vs.length + ws.length ≤ 1000) : wpAny (model prog w) A (binaryOp .Add (.ref a) (.ref b)) Q E s :=
  add_lists F N (News.isList N ha) (News.isList N hb) (fun h' F' N' => h _ h' F' N' fun p hp => Heap.lt_size (N p hp).1) (by rw [sizeLine_eq]; omega)
theorem own_len {Q : Value → Shared → Prop} (N : News h₀ L s.heap news) (hl : (l, listOf vs.toArray nn) ∈ news) (hz : vs.length ≤ 1000)
    (h : ∀ t k, Q (.int vs.length t) { s with toks := k }) : wpAny (model prog w) A (call (.builtin "len") [.ref l]) Q E s :=
  PyProof.Rows.len_list (News.isList N hl) (by rw [List.size_toArray]; omega) (by rw [List.size_toArray]; exact h _ _)
theorem own_menu2s {y0 y1 : Str} {t0 t1 : Tok} {k : Int} {u : Tok} {Q : Value → Shared → Prop} (N : News h₀ L s.heap news)
    (hl : (l, listOf (List.toArray [.str y0 t0, .str y1 t1]) nn) ∈ news) (h0 : 0 ≤ k) (h4 : k ≤ 1)
    (h : ∀ y t, (y = y0 ∨ y = y1) → Q (.str y t) s)
    (hs : subscripted slice false (.ref l) (.int k u) = operate [.ref l, .int k u] (getItem (.ref l) (.int k u))) :
    wpAny (model prog w) A (subscriptTail value slice (.ref l) (.int k u)) Q E s := by
  have hk : k = 0 ∨ k = 1 := by omega
  rcases hk with rfl | rfl
  · exact own_item N hl (by decide) (by decide) rfl (h y0 t0 (.inl rfl)) hs
  · exact own_item N hl (by decide) (by decide) rfl (h y1 t1 (.inr rfl)) hs
theorem own_menu4 {a0 a1 a2 a3 : Addr} {v0 v1 v2 v3 : List Value} {n0 n3 n4 n5 : Nat} {k : Int} {u : Tok} {Q : Value → Shared → Prop} (f : Int → List Int) (N : News h₀ L s.heap news)
    (hl : (l, listOf (List.toArray [.ref a0, .ref a1, .ref a2, .ref a3]) nn) ∈ news) (m0 : (a0, listOf v0.toArray n0) ∈ news) (m1 : (a1, listOf v1.toArray n3) ∈ news) (m2 : (a2, listOf v2.toArray n4) ∈ news) (m3 : (a3, listOf v3.toArray n5) ∈ news)
    (i0 : IntsAre v0 (f 0)) (i1 : IntsAre v1 (f 1)) (i2 : IntsAre v2 (f 2)) (i3 : IntsAre v3 (f 3)) (h0 : 0 ≤ k) (h4 : k ≤ 3)
    (h : ∀ b vs n, (b, listOf vs.toArray n) ∈ news → IntsAre vs (f k) → Q (.ref b) s)
    (hs : subscripted slice false (.ref l) (.int k u) = operate [.ref l, .int k u] (getItem (.ref l) (.int k u))) :
    wpAny (model prog w) A (subscriptTail value slice (.ref l) (.int k u)) Q E s := by
  have hk : k = 0 ∨ k = 1 ∨ k = 2 ∨ k = 3 := by omega
  rcases hk with rfl | rfl | rfl | rfl
  · exact own_item N hl (by decide) (by decide) rfl (h a0 v0 n0 m0 i0) hs
  · exact own_item N hl (by decide) (by decide) rfl (h a1 v1 n3 m1 i1) hs
  · exact own_item N hl (by decide) (by decide) rfl (h a2 v2 n4 m2 i2) hs
  · exact own_item N hl (by decide) (by decide) rfl (h a3 v3 n5 m3 i3) hs
end
section
open PySem.Calls PyProof.V PySem.Spec
theorem ks_canLayAll0 : ∀ ns : List Str, (∀ x ∈ ns, PyData.strOk x = true) → PyData.canLayAll0 (ns.map PyData.str) = true
  | [], _ => rfl
  | x :: r, h => by simp [PyData.canLayAll0, PyData.canLay0, ks_canLayAll0 r fun y hy => h y (.tail _ hy), h x (.head _)]
theorem ks_depthAll : ∀ ns : List Str, PyData.depthAll (ns.map PyData.str) = 0
  | [] => rfl
  | _ :: r => by simp [PyData.depthAll, PyData.depth, ks_depthAll r]
theorem ks_shaped (ns : List Str) (h : ∀ x ∈ ns, PyData.strOk x = true) : SeqAt.shaped (.list (ns.map PyData.str)) = true := by
  simp [SeqAt.shaped, PyData.canLay0, PyData.depth, ks_canLayAll0 ns h, ks_depthAll]
theorem ks_sameAll : ∀ ns ms : List Str, PySem.Spec.sameAll (ns.map PyData.str) (ms.map PyData.str) = decide (ns = ms)
  | [], [] => by simp [PySem.Spec.sameAll]
  | [], _ :: _ => by simp [PySem.Spec.sameAll]
  | _ :: _, [] => by simp [PySem.Spec.sameAll]
  | a :: r, b :: t => by
    simp only [List.map_cons, PySem.Spec.sameAll, PySem.Spec.same, ks_sameAll r t]
    by_cases h : a = b <;> by_cases h' : r = t <;> simp [h, h']
theorem ks_same (ns ms : List Str) : PySem.Spec.same (.list (ns.map PyData.str)) (.list (ms.map PyData.str)) = decide (ns = ms) := by
  simp only [PySem.Spec.same]; exact ks_sameAll ns ms
theorem ks_carried : ∀ {vs : List Value} {ns : List Str}, StrsAre vs ns → CarriedAll vs (ns.map PyData.str)
  | _, _, .nil => .nil
  | _, _, .cons _ t r => .cons (.str _ t) (ks_carried r)
theorem own_ne_strs {prog : Program} {w : World} {A : Around} {E : Value → Shared → Prop} {s : Shared} {h₀ : Heap} {L a b : Addr} {news : List (Addr × Obj)} {xs ys : List Value} {n1 n2 : Nat} {ns ms : List Str} {Q : Value → Shared → Prop} (N : News h₀ L s.heap news)
    (ha : (a, listOf xs.toArray n1) ∈ news) (hb : (b, listOf ys.toArray n2) ∈ news) (hi : StrsAre xs ns) (hj : StrsAre ys ms) (hu : A.units + 64 < cLine) (o1 : ∀ x ∈ ns, PyData.strOk x = true) (o2 : ∀ x ∈ ms, PyData.strOk x = true) (h : Q (.bool (!decide (ns = ms))) s) :
    wpAny (model prog w) A (compareOp .NotEq (.ref a) (.ref b)) Q E s :=
  ne_dataH_same (reads_newData (News.isList N ha) (ks_carried hi)) (reads_newData (News.isList N hb) (ks_carried hj)) (ks_shaped _ o1) (ks_shaped _ o2) hu (SeqAt.noMix_of_shape (.list .str) rfl _ _ (list_map_has fun _ => rfl) (list_map_has fun _ => rfl)) (by rw [ks_same]; exact h)
end
end
-- part WComp
section
section
variable {prog : Program} {w : World} {A : Around} {s : Shared} {h₀ : Heap} {L : Addr} {m : Str → Option Value} {env : Env} {elt ct : PySem.Expr} {x : Str} {scope : Scope} {cl : List (Str × Addr)} {S : List (Addr × Obj) → Prop} {P : Nat → Value → Prop} {Fin : List Value → List (Addr × Obj) → Prop} {news : List (Addr × Obj)}
/-- a comprehension without a test: what each turn gives -/
theorem own_rest {n : Nat} (V : Nat → Value → Prop)
    (turn : ∀ i v I oI C oC D m₂ ys h tk (E' : Value → Shared → Prop), i < n → P i v → LCg.NsObj oC m₂ → m₂ x = some v → Fr h₀ L h m → News h₀ L h ((I, oI) :: (C, oC) :: (D, LCg.lst ys) :: news) → LCg.Off3 I C D news → ((@Ne Nat I C) ∧ (@Ne Nat I D) ∧ (@Ne Nat C D)) →
      wpAny (model prog w) A (eval elt (compEnvC scope cl C env)) (LCg.CompEnd h₀ L m { s with heap := h, toks := tk } I oI C oC D (LCg.lst ys) S (fun y news' => news' = news ∧ V i y)) E' { s with heap := h, toks := tk })
    (fin : ∀ ys, ys.length = n → (∀ j y, ys[j]? = some y → V j y) → Fin ys news) : LCg.CompRest prog w A h₀ L m env elt x scope cl s S P Fin n 0 [] news := by
  have key : ∀ (j i : Nat) (ys : List Value), i + j = n → ys.length = i → (∀ j y, ys[j]? = some y → V j y) → LCg.CompRest prog w A h₀ L m env elt x scope cl s S P Fin j i ys news := by
    intro j
    induction j with
    | zero =>
      intro i ys hi hy hV
      exact LCg.CompRest.zero (fin ys (by omega) hV)
    | succ j ih =>
      intro i ys hi hy hV
      refine LCg.CompRest.succ ?_
      intro v I oI C oC D m₂ h tk E' hv hC hx F N off ne
      refine wpAny_mono (turn i v I oI C oC D m₂ ys h tk E' (by omega) hv hC hx F N off ne) (fun y s₂ hq => ?_) fun _ _ e => e
      obtain ⟨h', tk', nw, e, F', N', off', hS, hn, hy'⟩ := hq
      subst hn
      refine ⟨h', tk', nw, e, F', N', off', hS, ih (i + 1) _ (by omega) (by simp; omega) fun j z hz => ?_⟩
      by_cases q : j < ys.length
      · rw [List.getElem?_append_left q] at hz; exact hV j z hz
      · have q2 : j = ys.length := by
          have := (List.getElem?_eq_some_iff.mp hz).1
          simp at this; omega
        subst q2
        rw [List.getElem?_append_right (Nat.le_refl _), Nat.sub_self] at hz
        have : y = z := by simpa using hz
        rw [← this, hy]; exact hy'
  exact key n 0 [] (by omega) rfl fun j y h => by simp at h
/-- a comprehension with a test that makes ints -/
theorem own_restT {n : Nat} (b : Nat → Bool) (g : Nat → Int)
    (turn : ∀ i v I oI C oC D m₂ ys h tk (E' : Value → Shared → Prop), i < n → P i v → LCg.NsObj oC m₂ → m₂ x = some v → Fr h₀ L h m → News h₀ L h ((I, oI) :: (C, oC) :: (D, LCg.lst ys) :: news) → LCg.Off3 I C D news → ((@Ne Nat I C) ∧ (@Ne Nat I D) ∧ (@Ne Nat C D)) →
      wpAny (model prog w) A (isTrue ct (compEnvC scope cl C env) (eval ct (compEnvC scope cl C env))) (fun ok s' => if ok = true then
        wpAny (model prog w) A (eval elt (compEnvC scope cl C env)) (LCg.CompEnd h₀ L m { s with heap := h, toks := tk } I oI C oC D (LCg.lst ys) S (fun y news' => news' = news ∧ b i = true ∧ ∃ t, y = .int (g i) t)) E' s'
        else LCg.CompEnd h₀ L m { s with heap := h, toks := tk } I oI C oC D (LCg.lst ys) S (fun _ news' => news' = news ∧ b i = false) Value.none s') E' { s with heap := h, toks := tk })
    (fin : ∀ ys, IntsAre ys (((List.range n).filter b).map g) → Fin ys news) : LCt.CompRestT prog w A h₀ L m env ct elt x scope cl s S P Fin n 0 [] news := by
  have key : ∀ (j i : Nat) (ys : List Value), i + j = n → IntsAre ys (((List.range i).filter b).map g) → LCt.CompRestT prog w A h₀ L m env ct elt x scope cl s S P Fin j i ys news := by
    intro j
    induction j with
    | zero =>
      intro i ys hi hy
      obtain rfl : i = n := by omega
      exact LCt.CompRestT.zero (fin ys hy)
    | succ j ih =>
      intro i ys hi hy
      refine LCt.CompRestT.succ ?_
      intro v I oI C oC D m₂ h tk E' hv hC hx F N off ne
      refine wpAny_mono (turn i v I oI C oC D m₂ ys h tk E' (by omega) hv hC hx F N off ne) (fun ok s₁ hk => ?_) fun _ _ e => e
      cases ok with
      | true =>
        simp only [if_true] at hk ⊢
        refine wpAny_mono hk (fun y s₂ hq => ?_) fun _ _ e => e
        obtain ⟨h', tk', nw, e, F', N', off', hS, hn, hb, t, rfl⟩ := hq
        subst hn
        refine ⟨h', tk', nw, e, F', N', off', hS, ih (i + 1) _ (by omega) ?_⟩
        rw [List.range_succ, List.filter_append, List.map_append]
        have : ([i].filter b).map g = [g i] := by simp [hb]
        rw [this]
        exact IntsAre.append hy (.cons (g i) t .nil)
      | false =>
        simp only [Bool.false_eq_true, if_false] at hk ⊢
        obtain ⟨h', tk', nw, e, F', N', off', hS, hn, hb⟩ := hk
        subst hn
        refine ⟨h', tk', nw, e, F', N', off', hS, ih (i + 1) _ (by omega) ?_⟩
        rw [List.range_succ, List.filter_append, List.map_append]
        have : ([i].filter b).map g = [] := by simp [hb]
        rw [this, List.append_nil]
        exact hy
  exact key n 0 [] (by omega) .nil
/-- a comprehension's source is known -/
noncomputable def KSrc (prog : Program) (w : World) (A : Around) (h₀ : Heap) (L : Addr) (m : Str → Option Value) (env : Env) (elt : PySem.Expr) (x : Str) (scope : Scope) (cl : List (Str × Addr)) (Fin : Shared → List Value → List (Addr × Obj) → Prop) (xv : Value) (s₁ : Shared) : Prop :=
  LCg.CompSrc prog w A h₀ L m env elt x scope cl Fin xv s₁
theorem ksrc_start {Fin : Shared → List Value → List (Addr × Obj) → Prop} {xv : Value} {s₁ : Shared} (h : KSrc prog w A h₀ L m env elt x scope cl Fin xv s₁) : LCg.CompSrc prog w A h₀ L m env elt x scope cl Fin xv s₁ := h
noncomputable def KSrcT (prog : Program) (w : World) (A : Around) (h₀ : Heap) (L : Addr) (m : Str → Option Value) (env : Env) (ct elt : PySem.Expr) (x : Str) (scope : Scope) (cl : List (Str × Addr)) (Fin : Shared → List Value → List (Addr × Obj) → Prop) (xv : Value) (s₁ : Shared) : Prop :=
  LCt.CompSrcT prog w A h₀ L m env ct elt x scope cl Fin xv s₁
theorem ksrcT_start {Fin : Shared → List Value → List (Addr × Obj) → Prop} {xv : Value} {s₁ : Shared} (h : KSrcT prog w A h₀ L m env ct elt x scope cl Fin xv s₁) : LCt.CompSrcT prog w A h₀ L m env ct elt x scope cl Fin xv s₁ := h
theorem own_compR {Fin : Shared → List Value → List (Addr × Obj) → Prop} {r : Addr} {e : Int} {t u v : Tok} {n : Nat} {s₁ : Shared} (b : Nat → Bool) (g : Nat → Int)
    (hh : A.handled = none) (F : Fr h₀ L s₁.heap m) (N : News h₀ L s₁.heap news) (hr : IsRange s₁.heap r 0 e 1 t u v) (hsm : Builtin.Range.small 0 e 1 = true) (hn : Builtin.Range.rangeSize 0 e 1 = ((n : Nat) : Int)) (hsz : n ≤ 1000)
    (turn : ∀ g' i t I oI C oC D m₂ ys h tk (E' : Value → Shared → Prop), i < n → LCg.NsObj oC m₂ → m₂ x = some (.int (0 + (i : Int)) t) → Fr h₀ L h m → News h₀ L h ((I, oI) :: (C, oC) :: (D, LCg.lst ys) :: news) → LCg.Off3 I C D news → ((@Ne Nat I C) ∧ (@Ne Nat I D) ∧ (@Ne Nat C D)) →
      wpAny (model prog w) A (isTrue ct (compEnvC scope cl C env) (eval ct (compEnvC scope cl C env))) (fun ok s' => if ok = true then
        wpAny (model prog w) A (eval elt (compEnvC scope cl C env)) (LCg.CompEnd h₀ L m { { s₁ with heap := g' } with heap := h, toks := tk } I oI C oC D (LCg.lst ys) (fun _ => True) (fun y news' => news' = news ∧ b i = true ∧ ∃ t, y = .int (g i) t)) E' s'
        else LCg.CompEnd h₀ L m { { s₁ with heap := g' } with heap := h, toks := tk } I oI C oC D (LCg.lst ys) (fun _ => True) (fun _ news' => news' = news ∧ b i = false) Value.none s') E' { { s₁ with heap := g' } with heap := h, toks := tk })
    (fin : ∀ g' ys, IntsAre ys (((List.range n).filter b).map g) → Fin { s₁ with heap := g' } ys news) : KSrcT prog w A h₀ L m env ct elt x scope cl Fin (.ref r) s₁ :=
  LCt.CompSrcT.range hh F N hr hsm hn (by rw [sizeLine_eq]; omega) fun g' =>
    own_restT b g (fun i v I oI C oC D m₂ ys h tk E' hi hv hC hx F N off ne => by
      obtain ⟨t, rfl⟩ := hv
      exact turn g' i t I oI C oC D m₂ ys h tk E' hi hC hx F N off ne) (fin g')
theorem ints_of_get : ∀ {ys : List Value} {ns : List Int}, ys.length = ns.length → (∀ (j : Nat) (y : Value), ys[j]? = some y → ∃ n t, ns[j]? = some n ∧ y = Value.int n t) → IntsAre ys ns
  | [], [], _, _ => .nil
  | [], _ :: _, h, _ => by simp at h
  | _ :: _, [], h, _ => by simp at h
  | y :: ys, n :: ns, h, hg => by
    obtain ⟨n', t, e1, e2⟩ := hg 0 y rfl
    have : n = n' := by simpa using e1
    subst this e2
    exact .cons n t (ints_of_get (by simpa using h) fun j z hz => by
      obtain ⟨a, t, e1, e2⟩ := hg (j + 1) z (by simpa using hz)
      exact ⟨a, t, by simpa using e1, e2⟩)
theorem strs_of_get : ∀ {ys : List Value} {ns : List Str}, ys.length = ns.length → (∀ (j : Nat) (y : Value), ys[j]? = some y → ∃ n t, ns[j]? = some n ∧ y = Value.str n t) → StrsAre ys ns
  | [], [], _, _ => .nil
  | [], _ :: _, h, _ => by simp at h
  | _ :: _, [], h, _ => by simp at h
  | y :: ys, n :: ns, h, hg => by
    obtain ⟨n', t, e1, e2⟩ := hg 0 y rfl
    have : n = n' := by simpa using e1
    subst this e2
    exact .cons n t (strs_of_get (by simpa using h) fun j z hz => by
      obtain ⟨a, t, e1, e2⟩ := hg (j + 1) z (by simpa using hz)
      exact ⟨a, t, by simpa using e1, e2⟩)
theorem own_comp {Fin : Shared → List Value → List (Addr × Obj) → Prop} {ax : Addr} {vs : List Value} {nn : Nat} {s₁ : Shared} (V : Nat → Value → Prop)
    (hh : A.handled = none) (F : Fr h₀ L s₁.heap m) (N : News h₀ L s₁.heap news) (hm : (ax, listOf vs.toArray nn) ∈ news) (hsz : vs.length ≤ 1000)
    (turn : ∀ g i v I oI C oC D m₂ ys h tk (E' : Value → Shared → Prop), vs[i]? = some v → LCg.NsObj oC m₂ → m₂ x = some v → Fr h₀ L h m → News h₀ L h ((I, oI) :: (C, oC) :: (D, LCg.lst ys) :: news) → LCg.Off3 I C D news → ((@Ne Nat I C) ∧ (@Ne Nat I D) ∧ (@Ne Nat C D)) →
      wpAny (model prog w) A (eval elt (compEnvC scope cl C env)) (LCg.CompEnd h₀ L m { { s₁ with heap := g } with heap := h, toks := tk } I oI C oC D (LCg.lst ys) (LCg.SrcAt h₀ ax vs.toArray) (fun y news' => news' = news ∧ V i y)) E' { { s₁ with heap := g } with heap := h, toks := tk })
    (fin : ∀ g ys, ys.length = vs.length → (∀ j y, ys[j]? = some y → V j y) → Fin { s₁ with heap := g } ys news) : KSrc prog w A h₀ L m env elt x scope cl Fin (.ref ax) s₁ :=
  LCg.CompSrc.ledger (k := nn) hh F N hm (by rw [List.size_toArray, sizeLine_eq]; omega) fun g => by
    have e : vs.toArray.size = vs.length := List.size_toArray ..
    rw [e]
    exact own_rest V (fun i v I oI C oC D m₂ ys h tk E' hi hv hC hx F N off ne => turn g i v I oI C oC D m₂ ys h tk E' (by simpa using hv) hC hx F N off ne) (fin g)
end
end
-- part WPost
section
/-- the law's end: the answer 'True' is what the row asks -/
theorem post_true (ns : List Int) : PySem.Challenge.rw_wn0052_01.row.claim.post [ofPy (PyData.list (List.map PyData.int ns))] (.bool true) [ofPy (PyData.list (List.map PyData.int ns))] = true := by wrow_post
end
-- part WSub
theorem restWSub {M : Model} {A : Around} {env : Env} {Q : Flow → Shared → Prop} {E : Value → Shared → Prop} {s : Shared} (h : wpAny M A (execs [] env) Q E s) : wpAny M A (execs [] env) Q E s := by w_top off; first | (walk1; fail) | exact h
section
section
variable {w : World} {mean : ExcName → Option Value} {mg mb : Str → Option Value} {dp un : Nat} {gd : Option (List Code)} {cn : Str} {cs : Scope} {a : Addr} {ccd : Value} {cl : List (Str × Addr)} {outer : List Env} {A₀ : Around} {base h₀ : Heap} {L : Addr} {m : Str → Option Value} {s : Shared} {Q : Value → Shared → Prop} {E : Value → Shared → Prop} {news : List (Addr × Obj)}

theorem sub_0 {a b : Str} (h : (a == b) = true) : (0 : Int) = subCost a b := by unfold subCost; rw [if_pos (by simpa using h)]
theorem sub_1 {a b : Str} (h : (a == b) = false) (h' : (Txt.lower a == Txt.lower b) = true) : (1 : Int) = subCost a b := by
  unfold subCost; rw [if_neg (by simpa using h), if_pos (by simpa using h')]
theorem sub_2 {a b : Str} (h : (a == b) = false) (h' : (Txt.lower a == Txt.lower b) = false) : (2 : Int) = subCost a b := by
  unfold subCost; rw [if_neg (by simpa using h), if_neg (by simpa using h')]
set_option maxHeartbeats 4000000 in
theorem sub_call {x y : Str} {tx ty : Tok} (B : Below A₀ base outer h₀) (F : Fr h₀ L s.heap m) (X : (hd.heap_1 w.params).In h₀) (N : News h₀ L s.heap news) (T : Top vw (looseW vw []) mean mg mb h₀) (hk : cs.kind = .function) (hd : dp + 1 < recursionLimit) (hu : un + 8 < cLine) (hx : x.length ≤ 1000) (hy : y.length ≤ 1000)
    (hret : Ret h₀ L m news s Q (fun t => .int (subCost x y) t)) :
    wpAny (model prog w) (ktrTop dp un gd cn cs L a ccd cl outer) (call (.ref 21) [.str x tx, .str y ty]) Q E s := by
  refine wpAny_call ?_
  k_dflt cell_enter
  k_steps
  · exact retI hret (sub_0 (by assumption)) (by assumption) (by assumption)
  · exact retI hret (sub_1 (by assumption) (by assumption)) (by assumption) (by assumption)
  · exact retI hret (sub_2 (by assumption) (by assumption)) (by assumption) (by assumption)

end
end
-- part WPar
theorem restWPar {M : Model} {A : Around} {env : Env} {Q : Flow → Shared → Prop} {E : Value → Shared → Prop} {s : Shared} (h : wpAny M A (execs [] env) Q E s) : wpAny M A (execs [] env) Q E s := by w_top off; first | (walk1; fail) | exact h
section
section
variable {w : World} {mean : ExcName → Option Value} {mg mb : Str → Option Value} {dp un : Nat} {gd : Option (List Code)} {cn : Str} {cs : Scope} {a : Addr} {ccd : Value} {cl : List (Str × Addr)} {outer : List Env} {A₀ : Around} {base h₀ : Heap} {L : Addr} {m : Str → Option Value} {s : Shared} {Q : Value → Shared → Prop} {E : Value → Shared → Prop} {news : List (Addr × Obj)}

set_option maxHeartbeats 4000000 in
theorem par_call {x : Str} {tx : Tok} {name e : List Nat} (B : Below A₀ base outer h₀) (F : Fr h₀ L s.heap m) (X : (hd.heap_1 w.params).In h₀) (N : News h₀ L s.heap news) (T : Top vw (looseW vw []) mean mg mb h₀) (hk : cs.kind = .function) (hd : dp + 1 < recursionLimit) (hu : un + 8 < cLine) (hx : x.length ≤ 1000)
    (h257 : (Txt.slice x none (some 3) != Str.ofString "257") = false) (hsq : (Txt.slice x (some 3) (some 5) != Str.ofString " \"") = false)
    (hxe : x.cps.toList = [50, 53, 55, 32, 34] ++ dbl name ++ 34 :: e) (he : ∀ c r, e = c :: r → c ≠ 34)
    (hret : Ret h₀ L m news s Q (fun t => .str ⟨name.toArray⟩ t)) :
    wpAny (model prog w) (ktrTop dp un gd cn cs L a ccd cl outer) (call (.ref 60) [.str x tx]) Q E s := by
  refine wpAny_call ?_
  k_dflt cell_enter
  k_steps
  · refine' kwhile (fun c : Int × Tok × Str × Tok × Tok => [(Str.ofString "resp", .str x tx), (Str.ofString "i", .int c.1 c.2.1), (Str.ofString "dirname", .str c.2.2.1 c.2.2.2.1), (Str.ofString "n", .int x.length c.2.2.2.2)]) (fun _ => news) (fun c => ParI name c.1 c.2.2.1) (fun c => (1000 - c.1).toNat) ⟨_, _, _, _, _⟩ ?zF ?zN (fun _ h => h) ?zk ?zp ?zE ?zt
    case zF => assumption
    case zN => assumption
    case zk => kst_all
    case zp => exact parI_0 name
    case zE => with_unfolding_all passes_own
    case zt =>
      rintro ⟨i, ti, d, td, tn⟩ m h tk hP F' N'
      dsimp only [see] at F' N' hP
      have hb := par_lt hxe hP
      k_steps
      · exact retS hret (par_end1 hxe hP (by assumption)) (by assumption) (by assumption)
      · exact retS hret (par_end2 hxe hP (by assumption) (by assumption)) (by assumption) (by assumption)
      · refine' NextW.intro ⟨_, _, _, _, _⟩ ?zF ?zN ?zm ?zp (fun _ h => h) ?zk
        case zF => assumption
        case zN => assumption
        case zk => kst_all
        case zp => exact par_next1 hxe he hP (by assumption) (by assumption) (by assumption)
        case zm => dsimp only; omega
      · refine' NextW.intro ⟨_, _, _, _, _⟩ ?zF ?zN ?zm ?zp (fun _ h => h) ?zk
        case zF => assumption
        case zN => assumption
        case zk => kst_all
        case zp => exact par_next2 hxe hP (by assumption)
        case zm => dsimp only; omega

end
end
-- part WCol
theorem restWCol {M : Model} {A : Around} {env : Env} {Q : Flow → Shared → Prop} {E : Value → Shared → Prop} {s : Shared} (h : wpAny M A (execs [] env) Q E s) : wpAny M A (execs [] env) Q E s := by w_top off; first | (walk1; fail) | exact h
section
section
variable {w : World} {mean : ExcName → Option Value} {mg mb : Str → Option Value} {dp un : Nat} {gd : Option (List Code)} {cn : Str} {cs : Scope} {a : Addr} {ccd : Value} {cl : List (Str × Addr)} {outer : List Env} {A₀ : Around} {base h₀ : Heap} {L : Addr} {m : Str → Option Value} {s : Shared} {Q : Value → Shared → Prop} {E : Value → Shared → Prop} {news : List (Addr × Obj)}

noncomputable def colV (x y : Str) : Int := b2i (decide (y.cps.toList < x.cps.toList)) - b2i (decide (x.cps.toList < y.cps.toList))
set_option maxHeartbeats 4000000 in
theorem col_call {x y : Str} {tx ty : Tok} (B : Below A₀ base outer h₀) (F : Fr h₀ L s.heap m) (X : (hd.heap_1 w.params).In h₀) (N : News h₀ L s.heap news) (T : Top vw (looseW vw []) mean mg mb h₀) (hk : cs.kind = .function) (hd : dp + 1 < recursionLimit) (hu : un + 8 < cLine)
    (hret : Ret h₀ L m news s Q (fun t => .int (colV x y) t)) :
    wpAny (model prog w) (ktrTop dp un gd cn cs L a ccd cl outer) (call (.ref 67) [.str x tx, .str y ty]) Q E s := by
  refine wpAny_call ?_
  k_dflt cell_enter
  k_steps
  · exact retI hret rfl (by assumption) (by assumption)

end
end
-- part WRep
theorem restWRep {M : Model} {A : Around} {env : Env} {Q : Flow → Shared → Prop} {E : Value → Shared → Prop} {s : Shared} (h : wpAny M A (execs [] env) Q E s) : wpAny M A (execs [] env) Q E s := by w_top off; first | (walk1; fail) | exact h
section
section
variable {w : World} {mean : ExcName → Option Value} {mg mb : Str → Option Value} {dp un : Nat} {gd : Option (List Code)} {cn : Str} {cs : Scope} {a : Addr} {ccd : Value} {cl : List (Str × Addr)} {outer : List Env} {A₀ : Around} {base h₀ : Heap} {L : Addr} {m : Str → Option Value} {s : Shared} {Q : Value → Shared → Prop} {E : Value → Shared → Prop} {news : List (Addr × Obj)}

theorem rep_len (x : Str) (hx : x.length ≤ 1000) : (Txt.replace x (Str.ofString "\"") (Str.ofString "\"\"")).length ≤ 3000000 := by
  rw [str_eta x] at hx ⊢
  rw [rep_dbl, mk_len]
  rw [mk_len] at hx
  have := dbl_len2 x.cps.toList
  omega
set_option maxHeartbeats 4000000 in
theorem rep_call {x y : Str} {tx ty : Tok} (B : Below A₀ base outer h₀) (F : Fr h₀ L s.heap m) (X : (hd.heap_1 w.params).In h₀) (N : News h₀ L s.heap news) (T : Top vw (looseW vw []) mean mg mb h₀) (hk : cs.kind = .function) (hd : dp + 1 < recursionLimit) (hu : un + 8 < cLine) (hx : x.length ≤ 1000) (hy : y.length ≤ 1000)
    (hret : Ret h₀ L m news s Q (fun t => .str (Str.ofString "257 \"" ++ Txt.replace x (Str.ofString "\"") (Str.ofString "\"\"") ++ Str.ofString "\"" ++ y) t)) :
    wpAny (model prog w) (ktrTop dp un gd cn cs L a ccd cl outer) (call (.ref 126) [.str x tx, .str y ty]) Q E s := by
  have hl := rep_len x hx
  have l1 : (Str.ofString "257 \"").length = 5 := by decide +kernel
  have l2 : (Str.ofString "\"").length = 1 := by decide +kernel
  refine wpAny_call ?_
  k_dflt cell_enter
  k_steps
  · exact retS hret rfl (by assumption) (by assumption)
theorem rep_call2 {xl el : List Nat} {tx ty : Tok} (B : Below A₀ base outer h₀) (F : Fr h₀ L s.heap m) (X : (hd.heap_1 w.params).In h₀) (N : News h₀ L s.heap news) (T : Top vw (looseW vw []) mean mg mb h₀) (hk : cs.kind = .function) (hd : dp + 1 < recursionLimit) (hu : un + 8 < cLine) (hx : (mk xl).length ≤ 1000) (hy : (mk el).length ≤ 1000)
    (hret : Ret h₀ L m news s Q (fun t => .str (mk ([50, 53, 55, 32, 34] ++ dbl xl ++ 34 :: el)) t)) :
    wpAny (model prog w) (ktrTop dp un gd cn cs L a ccd cl outer) (call (.ref 126) [.str (mk xl) tx, .str (mk el) ty]) Q E s := by
  refine rep_call B F X N T hk hd hu hx hy ?_
  rw [rep_dbl, reply_is]
  exact hret

end
end
-- part WSig
theorem restWSig {M : Model} {A : Around} {env : Env} {Q : Flow → Shared → Prop} {E : Value → Shared → Prop} {s : Shared} (h : wpAny M A (execs [] env) Q E s) : wpAny M A (execs [] env) Q E s := by w_top off; first | (walk1; fail) | exact h
section
local macro_rules | `(tactic| walk_at "exec For Name Name cons nil") => `(tactic| refine kfor_start ?_)
local macro_rules | `(tactic| walk_at "exec For Name Call cons nil") => `(tactic| refine kfor_start ?_)
local macro_rules | `(tactic| walk_at "exec For Name Subscript cons nil") => `(tactic| refine kfor_start ?_)
local macro_rules | `(tactic| walk_at "exec For Name Constant cons nil") => `(tactic| refine kfor_start ?_)
local macro_rules | `(tactic| walk_at "exec For Tuple Name cons nil") => `(tactic| refine kfor_start ?_)
section
variable {w : World} {mean : ExcName → Option Value} {mg mb : Str → Option Value} {dp un : Nat} {gd : Option (List Code)} {cn : Str} {cs : Scope} {a : Addr} {ccd : Value} {cl : List (Str × Addr)} {outer : List Env} {A₀ : Around} {base h₀ : Heap} {L : Addr} {m : Str → Option Value} {s : Shared} {Q : Value → Shared → Prop} {E : Value → Shared → Prop} {news : List (Addr × Obj)}

set_option maxHeartbeats 4000000 in
theorem sig_call {l : Addr} {vs : List Value} {ns : List Int} {nn : Nat} (B : Below A₀ base outer h₀) (F : Fr h₀ L s.heap m) (X : (hd.heap_1 w.params).In h₀) (N : News h₀ L s.heap news) (T : Top vw (looseW vw []) mean mg mb h₀) (hk : cs.kind = .function) (hd : dp + 3 < recursionLimit) (hu : un + 40 < cLine)
    (hl : (l, listOf vs.toArray nn) ∈ news) (hv : IntsAre vs ns) (hlen : ns.length = 6)
    (hret : Ret h₀ L m news s Q (fun t => .str ⟨(sgRun ns).2.toArray⟩ t)) :
    wpAny (model prog w) (ktrTop dp un gd cn cs L a ccd cl outer) (call (.ref 81) [.ref l]) Q E s := by
  have hv6 := IntsAre.length hv
  refine wpAny_call ?_
  k_dflt cell_enter
  k_steps
  · (rename Fr _ _ _ _ => lF'); (rename News _ _ _ _ => lN')
    refine' kfor_list (fun c : Str × Tok × Str × Tok => [(Str.ofString "pool", .str c.1 c.2.1), (Str.ofString "signs", .str c.2.2.1 c.2.2.2)]) (fun _ => news) (fun i c => SigI ns i c.1 c.2.2.1) ⟨_, _, _, _⟩ rfl (fun _ => hl) go_nameL lF' lN' (fun _ h => h) ?zk ?zp ?zE ?zt ?zd
    case zk => kst_all
    case zp => exact sigI_0 ns
    case zE => with_unfolding_all passes_own
    case zt =>
      clear lF' lN'
      rintro I i v ⟨pool, tp, signs, ts⟩ m h tk o hlt hvi hP hne F' N'
      dsimp only [see] at F' N' hP
      have hi6 : i < 6 := by
        have := (List.getElem?_eq_some_iff.mp hvi).1
        omega
      obtain ⟨n, hn⟩ : ∃ n, ns[i]? = some n := ⟨ns[i]'(by omega), by simp⟩
      obtain ⟨t, ht⟩ := hv.get i n hn
      obtain rfl : v = .int n t := by rw [hvi] at ht; exact Option.some.inj ht
      have hS := sigI_facts hlen hP
      have hf := fmod_in n (n := pool.length) (by omega)
      have hU := len_upper (Txt.item pool (n.fmod pool.length))
      refine wpAny_assign_Name ?_
      k_steps
      · refine' NextF.intro ⟨_, _, _, _⟩ ?zF ?zN ?zp hne (fun _ h => h) ?zk
        case zF => assumption
        case zN => assumption
        case zk => kst_all
        case zp => exact sigI_up hlen hP hn hi6 (by assumption)
      · refine' NextF.intro ⟨_, _, _, _⟩ ?zF ?zN ?zp hne (fun _ h => h) ?zk
        case zF => assumption
        case zN => assumption
        case zk => kst_all
        case zp => exact sigI_no hlen hP hn hi6 (by assumption)
    case zd =>
      clear lF' lN'
      rintro ⟨pool, tp, signs, ts⟩ m h tk hP F' N'
      dsimp only [see] at F' N' hP
      k_steps
      · obtain ⟨_, _, hs⟩ := hP
        rw [hv6, List.take_of_length_le (by omega)] at hs
        exact retS hret hs (by assumption) (by assumption)

end
end
-- part WGenA
section
open Sem (wp)
section
variable {prog : Program} {w : World} {A : Around} {E : Value → Shared → Prop} {s : Shared}

/-- one pull of a generator function's generator; what it leaves is bare -/
theorem pyNext_gen {a : Addr} {g n : Nat} {gs : GenState} {P : Nat → Shared → Shared → Prop} {Y : Protocol} {Q : Option Value → Shared → Prop} (hh : A.handled = none)
    (hl : s.heap.NoLimit) (hroom : A.depth < recursionLimit) (hg : s.heap.IsGen a g) (hgs : s.gens[g]? = some gs)
    (hgo : gs.Goes (model prog w) A.in1 (fun n s₀ r s₁ => r = .ok (.ret .none) ∧ P n s₀ s₁) Y n (.send .none) (s.setGen g .running))
    (hY : ∀ v s₁ gs', gs'.bare = true → Y (n - 1) (s.setGen g .running) v s₁ (fun r' s'' => match n with
        | 0 => False
        | m + 1 => gs'.Goes (model prog w) A.in1 (fun n s₀ r s₁ => r = .ok (.ret .none) ∧ P n s₀ s₁) Y m r' s'') → Q (some v) (s₁.setGen g gs'))
    (hP : ∀ s₁, P n (s.setGen g .running) s₁ → ∀ h', (∀ b o, s₁.heap.get? b = some o → h'.get? b = some o) → Q none { s₁.setGen g .finished with heap := h' }) :
    wpAny (model prog w) A (pyNext (.ref a)) Q E s := by
  unfold pyNext
  refine wpAny_bind (wpAny_attempt (wpAny_callSpecial?_slot (name := Str.ofString "__next__") hg.typeIs slot_gen_next
    (wpAny_call_entry slot_gen_next hg.typeIs entry_gen_next ?_ (args_gen_next _))))
  show wpAny _ A.in1 (Builtin.Generator.genWake (.ref a) (.send .none)) _ _ s
  unfold Builtin.Generator.genWake
  refine wpAny_bind (wpAny_holding (wpAny_genNumber hg (wpAny_bind (wpAny_genState hgs ?_))))
  cases gs with
  | running => exact hgo.elim
  | finished => exact hgo.elim
  | _ =>
    refine wpAny_bind (wpAny_roomToWake hl hroom ?_)
    show wpAny _ A.in1 (.resume g (.send .none) [] _) _ _ s
    refine wpAny_resumeQ hgs hgo (fun x s₁ hx => ?_) (fun v s₁ gs' hb hv => ?_)
    · obtain ⟨rfl, hp⟩ := hx
      show wpAny _ A.in1 (newExc (.type "StopIteration") [] >>= _) _ _ _
      refine wpAny_bind ?_
      simp only [newExc, newTuple]
      refine wpAny_bind (wpAny_newObj_type ?_ (by size_fits))
      refine wpAny_bind (m := firstArgMember _ _) (wpAny_of_eq (a := Value.none) (by first | rfl | (simp only [firstArgMember]; rfl)) ?_)
      refine wpAny_newObj_type ?_ (by size_fits)
      simp only [raiseNew]
      refine wpAny_bind (wpAny_bind (wpAny_handled ?_))
      first | rw [show A.in1.handled = none from hh] | rw [hh]
      refine wpAny_throw ?_
      refine wpAny_bind (wpAny_isInstance (T := "StopIteration") (b := true) ⟨_, Heap.get?_push_size _ rfl, rfl⟩ isSubtype_stop ?_)
      exact wpAny_pure (hP s₁ hp _ fun b o hb => Heap.get?_push_of_some _ (Heap.get?_push_of_some _ hb))
    · exact wpAny_pure ⟨v, rfl, wpAny_pure (hY v s₁ gs' hb hv)⟩
end

section
variable {prog : Program} {w : World} {A : Around} {R : GenEnd} {Y : Protocol} {n : Nat} {s₀ : Shared} {c : Code} {fs : List Frame} {s : Shared} {env : Env}
  {K : Flow → Sem Fin} {H : Value → Sem Fin} {gd : Bool → Bool} {lv : List Value → List Value}

theorem seg_plain {st : Stmt} (h : wpAny (model prog w) (A.over c fs) (exec st env) (fun f s' => Seg (model prog w) A R Y n s₀ c (K f) fs s') (fun _ _ => False) s) :
    Seg (model prog w) A R Y n s₀ c ((exec st env).wrap K H gd lv) fs s :=
  seg_wrap (wpAny_mono h (fun _ _ x => x) fun _ _ x => x.elim)

theorem seg_If {test : PySem.Expr} {body orelse : List Stmt} {pos : Pos}
    (h : wpAny (model prog w) (A.over c fs) (isTrue test env (eval test env)) (fun b s' => if b = true then Seg (model prog w) A R Y n s₀ c ((execs body env).wrap K H gd lv) fs s' else Seg (model prog w) A R Y n s₀ c ((execs orelse env).wrap K H gd lv) fs s') (fun _ _ => False) s) :
    Seg (model prog w) A R Y n s₀ c ((exec (.If test body orelse pos) env).wrap K H gd lv) fs s := by
  rw [exec_If]
  refine seg_bind_wrap (wpAny_standAt ?_)
  refine seg_bind_wrap (wpAny_mono h (fun b s' hb => ?_) fun _ _ x => x.elim)
  cases b with
  | true => simpa using hb
  | false => simpa using hb

theorem seg_For {target iter : PySem.Expr} {body : List Stmt} {pos : Pos}
    (h : wpAny (model prog w) (A.over c fs) (eval iter env) (fun x s₁ => wpAny (model prog w) (A.over c fs) (pyIter x) (fun it s₂ =>
      ∀ p, Seg (model prog w) A R Y n s₀ (.forLoop target it body [] env) ((model prog w).den (.forLoop target it body [] env))
        (.ret (fun r => ((match r with | .ok f => (.pure f : Sem Flow) | .error e => .raise e).onRaise fun (x : Value) => do
          if (← field x 1) == Value.none then unsupported "frame.own-activation:exception-without-traceback"
          setFlight x env.frame).wrap K H gd lv) none (gd false) (lv []) c p [] :: fs) s₂) (fun _ _ => False) s₁) (fun _ _ => False) s)
    (hs : ∀ x, foldedSetIterable iter env x = pure x := by intro _; rfl) :
    Seg (model prog w) A R Y n s₀ c ((exec (.For target iter body [] pos) env).wrap K H gd lv) fs s := by
  rw [exec_For]
  refine seg_bind_wrap (wpAny_standAt ?_)
  refine seg_bind_wrap (wpAny_mono h (fun x s₁ h₁ => ?_) fun _ _ x => x.elim)
  refine seg_bind_wrap (wpAny_of_eq (hs x) ?_)
  refine seg_bind_wrap (wpAny_standAt ?_)
  refine seg_bind_wrap (wpAny_holding (wpAny_mono h₁ (fun it s₂ h₂ => ?_) fun _ _ x => x.elim))
  exact seg_call h₂

theorem seg_forLoop {target : PySem.Expr} {it : Value} {body : List Stmt}
    (h : wpAny (model prog w) (A.over (.forLoop target it body [] env) fs) (pyNext it) (fun r s₁ => match r with
      | none => Seg (model prog w) A R Y n s₀ (.block [] env) (leafOf (.ok .next)) fs s₁
      | some v => wpAny (model prog w) (A.over (.forLoop target it body [] env) fs) (letOwnedTupleGo target it v) (fun _ s₁' => wpAny (model prog w) (A.over (.forLoop target it body [] env) fs) (assign target env v) (fun _ s₂ =>
          Seg (model prog w) A R Y n s₀ (.forLoop target it body [] env) ((execs body env).wrap (fun f => match f with
            | .next | .cont => .pure (.again (.forLoop target it body [] env))
            | .brk => .pure (.done .next)
            | .ret v => .pure (.done (.ret v))) (fun e => (do noteFrame e env; theTreesLotGoes e : Sem Unit).wrap (fun _ => .raise e) .raise id id) id id) fs s₂) (fun _ _ => False) s₁') (fun _ _ => False) s₁) (fun _ _ => False) s) :
    Seg (model prog w) A R Y n s₀ (.forLoop target it body [] env) ((model prog w).den (.forLoop target it body [] env)) fs s := by
  show Seg _ A R Y n s₀ _ ((forTurn target it body [] env).onRaise (fun x => do noteFrame x env; theTreesLotGoes x)) fs s
  unfold forTurn
  rw [Sem.onRaise_eq_wrap]
  refine seg_bind_wrap (wpAny_standAt ?_)
  refine seg_bind_wrap (wpAny_onRaise (wpAny_mono h (fun r s₁ h₁ => ?_) fun _ _ x => x.elim))
  cases r with
  | none =>
    show Seg _ A R Y n s₀ _ (.pure (.again (.block [] env))) fs s₁
    refine seg_again rfl ?_
    exact h₁
  | some v =>
    refine seg_bind_wrap (wpAny_mono h₁ (fun _ s₂ h₂ => ?_) fun _ _ x => x.elim)
    refine seg_bind_wrap (wpAny_mono h₂ (fun _ s₃ h₃ => ?_) fun _ _ x => x.elim)
    rw [Sem.bind_eq_wrap', Sem.wrap_wrap]
    rw [Sem.wrap_congr (execs body env) _ _ (K' := fun f => match f with
            | .next | .cont => .pure (.again (.forLoop target it body [] env))
            | .brk => .pure (.done .next)
            | .ret v => .pure (.done (.ret v))) (H' := (fun e => (do noteFrame e env; theTreesLotGoes e : Sem Unit).wrap (fun _ => .raise e) .raise id id))
        (fun f => by cases f <;> rfl)
        (fun e => by first | exact Sem.bind_eq_wrap _ _ | (show (do noteFrame e env; theTreesLotGoes e : Sem Unit).bind (fun _ => .raise e) = _; rw [Sem.bind_eq_wrap]))]
    exact h₃
end
end
-- part WGenB
theorem restWGenB {M : Model} {A : Around} {env : Env} {Q : Flow → Shared → Prop} {E : Value → Shared → Prop} {s : Shared} (h : wpAny M A (execs [] env) Q E s) : wpAny M A (execs [] env) Q E s := by w_top off; first | (walk1; fail) | exact h
section
section
variable {w : World} {mean : ExcName → Option Value} {mg mb : Str → Option Value} {dp un : Nat} {gd : Option (List Code)} {cn : Str} {cs : Scope} {a : Addr} {ccd : Value} {cl : List (Str × Addr)} {outer : List Env} {A₀ : Around} {base h₀ : Heap} {L : Addr} {m : Str → Option Value} {s : Shared} {Q : Value → Shared → Prop} {E : Value → Shared → Prop} {news : List (Addr × Obj)}

open Sem (wp)
noncomputable abbrev itCls : Value := .type "list_iterator"
noncomputable def GenMoved (C a : Addr) (s₀ s : Shared) : Prop := ∃ h' tk, s = { s₀ with heap := h', toks := tk } ∧ ∀ b o, (b < C ∨ b = a) → s₀.heap.get? b = some o → h'.get? b = some o
noncomputable def gY (g : Heap) (C a l : Addr) (og lo : Obj) (spec : Nat → Option Int) : Protocol := fun m s₀ v s kap =>
  ∃ i t, spec (m + 1) = some i ∧ v = .int i t ∧ GenMoved C a s₀ s ∧ (0 < m → ∃ own : List (Addr × Obj), (∀ p ∈ own, s.heap.get? p.1 = some p.2 ∧ g.get? p.1 = none ∧ C ≤ p.1 ∧ p.1 ≠ a) ∧
    ∀ s'' : Shared, g.StaysIn s''.heap → s''.heap.get? l = some lo → s''.heap.get? a = some og → (∀ p ∈ own, s''.heap.get? p.1 = some p.2) → kap (.send .none) s'')
noncomputable def gP (C a : Addr) (spec : Nat → Option Int) : Nat → Shared → Shared → Prop := fun n s₀ s => spec n = none ∧ GenMoved C a s₀ s
noncomputable abbrev gR (C a : Addr) (spec : Nat → Option Int) : GenEnd := fun n s₀ r s₁ => r = .ok (.ret .none) ∧ gP C a spec n s₀ s₁
/-- what the generator tells, by how many pulls are left -/
noncomputable def MatchFor (spec : Nat → Option Int) : Nat → List Int → Option Int → Prop
  | 0, _, _ => True
  | n + 1, [], _ => spec (n + 1) = none
  | n + 1, r :: rest, last => if r = 127 then spec (n + 1) = none else if r = 0 then ∃ v, last = some v ∧ ∀ j, 1 ≤ j → j ≤ n + 1 → spec j = some v
    else spec (n + 1) = some r ∧ MatchFor spec n rest (some r)
noncomputable def GenOk (w : World) (A : Around) (g : Heap) (C a l : Addr) (og lo : Obj) (spec : Nat → Option Int) (n : Nat) (gs : GenState) (own : List (Addr × Obj)) : Prop :=
  ∀ s'' : Shared, g.StaysIn s''.heap → s''.heap.get? l = some lo → s''.heap.get? a = some og → (∀ p ∈ own, s''.heap.get? p.1 = some p.2) → gs.Goes (model prog w) A (gR C a spec) (gY g C a l og lo spec) n (.send .none) s''

noncomputable def Cov (g : Heap) (C a : Addr) (h : Heap) (led : List (Addr × Obj)) : Prop := (∀ p ∈ led, p.1 < C ∨ p.1 = a) ∧ ∀ b o, h.get? b = some o → (b < C ∨ b = a) → g.get? b = none → (b, o) ∈ led
open Classical in
theorem cover {g h : Heap} {C a : Addr} (hCa : C < a) : ∃ led, News g C h led ∧ Cov g C a h led := by
  refine ⟨(List.range h.objs.size).filterMap fun b => (h.get? b).bind fun o => if (b < C ∨ b = a) ∧ g.get? b = none then some (b, o) else none, fun p hp => ?_, fun p hp => ?_, fun b o e h1 h2 => ?_⟩
  · obtain ⟨b, _, hb⟩ := List.mem_filterMap.mp hp
    obtain ⟨o, ho, hb⟩ := Option.bind_eq_some_iff.mp hb
    split at hb
    · rename_i hc; cases hb; exact ⟨ho, fun q => hc.1.elim (fun h => absurd h (by rw [show b = C from q]; exact Nat.lt_irrefl _)) fun h => absurd hCa (by rw [← h, show b = C from q]; exact Nat.lt_irrefl _), hc.2⟩
    · cases hb
  · obtain ⟨b, _, hb⟩ := List.mem_filterMap.mp hp
    obtain ⟨o, ho, hb⟩ := Option.bind_eq_some_iff.mp hb
    split at hb
    · rename_i hc; cases hb; exact hc.1
    · cases hb
  · refine List.mem_filterMap.mpr ⟨b, List.mem_range.mpr (Heap.lt_size e), ?_⟩
    rw [e]; simp [h1, h2]
theorem moved_of {g h' : Heap} {C : Addr} {s0 : Shared} {led led' : List (Addr × Obj)} {m' : Str → Option Value} {tk : Nat} (F : Fr g C h' m') (N : News g C h' led') (hs : ∀ p ∈ led, p ∈ led') (hst : g.StaysIn s0.heap) (hc : Cov g C a s0.heap led) : GenMoved C a s0 { s0 with heap := h', toks := tk } := by
  refine ⟨h', tk, rfl, fun b o hb e => ?_⟩
  cases q : g.get? b with
  | some o' =>
    have := hst b o' q
    rw [e] at this
    exact (Option.some.inj this) ▸ F.keep b o' q
  | none => exact (N _ (hs _ (hc.2 b o e hb q))).1
theorem fr_but {g h h' : Heap} {C I : Addr} {m' : Str → Option Value} (F : Fr g C h m') (hIC : I ≠ C) (hIg : g.get? I = none) (hk : Heap.ExtBut I h h') : Fr g C h' m' :=
  ⟨F.ns.at fun o e => hk _ o (Ne.symm hIC) e, fun b o e => hk b o (fun q => by rw [q, hIg] at e; cases e) (F.keep b o e), F.above⟩
theorem news_but {g h h' : Heap} {C I : Addr} {led : List (Addr × Obj)} (N : News g C h led) (hI : ∀ p ∈ led, p.1 ≠ I) (hk : Heap.ExtBut I h h') : News g C h' led :=
  fun p hp => ⟨hk _ _ (hI p hp) (N p hp).1, (N p hp).2⟩

theorem fr_back {g h h'' : Heap} {C : Addr} {oC : Obj} {m' : Str → Option Value} (F : Fr g C h m') (hC : h.get? C = some oC) (hs : g.StaysIn h'') (hC' : h''.get? C = some oC) : Fr g C h'' m' :=
  ⟨F.ns.at fun o e => by rw [hC] at e; rw [hC']; exact e, hs, F.above⟩

theorem code_gen {A : Around} {R : Result → Shared → Prop} {name qual : Str} {params : Arguments} {body : List Stmt} {scope : Scope} {dV kV doc pm cdv ct oc : Value} {an od : Option Addr} {osl : Array (Option Value)} {f : Addr} {args : Args} {binds : List (Str × Value)} {K : Frag}
    (F : Fr h₀ L s.heap m) (X₀ : K.In h₀) (N : News h₀ L s.heap news) (T : Top vw (looseW vw []) mean mg mb h₀)
    (ho : K.lookup f = some ⟨oc, od, .func (fnOf name qual params body scope dV kV doc pm an cdv ct), osl⟩) (hcd : codeIn K cdv qual = true) (hroom : A.depth < recursionLimit)
    (hbind : BindsTo s (fnOf name qual params body scope dV kV doc pm an cdv ct) args binds) (hloc : ∀ y ∈ binds, scope.names.lookup y.1 = some .local)
    (h : ∀ C a oC og h', s.heap.objs.size ≤ C → Fr h₀ L h' m → News h₀ L h' ((a, og) :: (C, oC) :: news) → (∀ p ∈ news, p.1 < C) → C < a → Fr h₀ C h' (fun y => binds.reverse.lookup y) →
      (∀ h'' : Heap, h''.get? a = some og → h''.IsGen a s.gens.size) →
      R (.ok (.ret (.ref a))) { s with heap := h', toks := s.toks + binds.length + 1 + 1, gens := s.gens.push (.fresh (.func body (envOf qual scope C f cdv))) })
    (hco : scope.isCoroutine = false) (hgen : scope.isGenerator = true) (hk : scope.kind = .function)
    (hcell : ∀ x ∈ scope.names, x.2 ≠ .cell) : codeAny (model prog w) A (.call (.ref f) args) R s := by
  refine codeAny_call_generator hroom ((X₀.keeps F.keep) _ _ ho) rfl hco hgen rfl (codeRec_of (X₀.keeps F.keep) hcd) ?_
  refine hbind _ _ _ _ ?_
  refine wpAny_newFunctionEnv hcell hloc (fun h₁ hns hsb => ?_) hk
  have keep1 : ∀ b o, s.heap.get? b = some o → h₁.get? b = some o := fun b o e => hsb.extBut b o (Nat.ne_of_lt (Heap.lt_size e)) (Heap.get?_push_of_some _ e)
  refine ⟨(T.nolimit.keeps F.keep).keeps keep1, ?_⟩
  have hns' := hns
  obtain ⟨oC, es, ep, hC, hCd, hCk, hCf⟩ := hns'
  have hlt : s.heap.objs.size < h₁.objs.size := Heap.lt_size hC
  have hg0 : ∀ b, s.heap.objs.size ≤ b → h₀.get? b = none := fun b hb => by
    cases q : h₀.get? b with
    | none => rfl
    | some o => exact absurd (Heap.lt_size (F.keep _ _ q)) (Nat.not_lt.mpr hb)
  have hLlt := F.ns.lt
  refine h s.heap.objs.size h₁.objs.size oC { cls := .type "generator", data := .fields #[.int s.gens.size 0, .str name (s.toks + binds.length), .str qual (s.toks + binds.length + 1)] } (h₁.push _) (Nat.le_refl _) ⟨F.ns.at fun o e => Heap.get?_push_of_some _ (keep1 _ _ e), fun b o e => Heap.get?_push_of_some _ (keep1 _ _ (F.keep b o e)), F.above⟩ ?_
    (fun p hp => Heap.lt_size (N p hp).1) hlt ⟨hns.at fun o e => Heap.get?_push_of_some _ e, fun b o e => Heap.get?_push_of_some _ (keep1 _ _ (F.keep b o e)), Nat.le_trans F.above (Nat.le_of_lt hLlt)⟩ (fun h'' e => ⟨_, _, _, e, rfl, rfl, rfl⟩)
  intro p hp
  rcases List.mem_cons.mp hp with rfl | hp
  · exact ⟨Heap.get?_push_size _ rfl, Nat.ne_of_gt (Nat.lt_trans hLlt hlt), hg0 _ (Nat.le_of_lt hlt)⟩
  rcases List.mem_cons.mp hp with rfl | hp
  · exact ⟨Heap.get?_push_of_some _ hC, Nat.ne_of_gt hLlt, hg0 _ (Nat.le_refl _)⟩
  · exact ⟨Heap.get?_push_of_some _ (keep1 _ _ (N p hp).1), (N p hp).2⟩

set_option maxHeartbeats 4000000 in
theorem gen_call {l : Addr} {vs : List Value} {rs : List Int} {nn n₀ : Nat} {spec : Nat → Option Int} (B : Below A₀ base outer h₀) (F : Fr h₀ L s.heap m) (X : (hd.heap_1 w.params).In h₀) (N : News h₀ L s.heap news) (T : Top vw (looseW vw []) mean mg mb h₀) (hk : cs.kind = .function) (hd : dp + 3 < recursionLimit) (hu : un + 40 < cLine)
    (hl : (l, listOf vs.toArray nn) ∈ news) (hv : IntsAre vs rs) (hn0 : 0 < n₀) (hsp : MatchFor spec n₀ rs none)
    (hret : ∀ C a' oC og gs h' tk', s.heap.objs.size ≤ C → Fr h₀ L h' m → News h₀ L h' ((a', og) :: (C, oC) :: news) → (∀ p ∈ news, p.1 < C) → C < a' → (∀ h'' : Heap, h''.get? a' = some og → h''.IsGen a' s.gens.size) → gs.bare = true →
      GenOk w (ktrTop dp un gd cn cs L a ccd cl outer).in1 h₀ C a' l og (listOf vs.toArray nn) spec n₀ gs [(C, oC)] → Q (.ref a') { s with heap := h', toks := tk', gens := s.gens.push gs }) :
    wpAny (model prog w) (ktrTop dp un gd cn cs L a ccd cl outer) (call (.ref 74) [.ref l]) Q E s := by
  refine wpAny_call ?_
  refine' code_gen ?zF ?zX ?zN ?zT ?zo ?zc ?zd ?zb ?zl ?zh ?zco ?zg ?zk ?zce
  case zF => exact F
  case zX => exact X
  case zN => exact N
  case zT => exact T
  case zo => k_is
  case zc => k_is
  case zd => ktr_room
  case zb => exact BindsTo.of_eq rfl
  case zl => exact locs rfl
  case zco => exact rfl
  case zg => exact rfl
  case zk => exact rfl
  case zce => decide
  case zh =>
    intro C a' oC og h' hC00 F' N' hlt hCa FC hgen
    refine hret C a' oC og _ h' _ hC00 F' N' hlt hCa hgen rfl ?_
    intro s1 hst hlo hog hown
    refine ⟨rfl, ?_⟩
    have hlm := N _ hl
    have hlC : l ≠ C := Nat.ne_of_lt (hlt _ hl)
    have hC1 : s1.heap.get? C = some oC := hown _ (.head _)
    have hC0 : h'.get? C = some oC := (N' _ (.tail _ (.head _))).1
    have F0 : Fr h₀ C s1.heap (fun y => if y = Str.ofString "grouping" then some (.ref l) else none) := by
      refine ⟨?_, hst, FC.above⟩
      have e : (fun y => ([(Str.ofString "grouping", Value.ref l)] : List (Str × Value)).reverse.lookup y) = fun y => if y = Str.ofString "grouping" then some (.ref l) else none := by
        funext y
        by_cases q : y = Str.ofString "grouping"
        · simp [List.lookup, q]
        · have : (y == Str.ofString "grouping") = false := by simpa using q
          simp [List.lookup, q, this]
      have e' := FC.ns
      exact (e ▸ e').at fun o q => by rw [hC0] at q; rw [hC1]; exact q
    obtain ⟨led, N0, hcov⟩ := cover (g := h₀) (h := s1.heap) hCa
    have hlg : h₀.get? l = none := hlm.2.2
    have hlC' : l < C := hlt _ hl
    have hll : (l, listOf vs.toArray nn) ∈ led := hcov.2 _ _ hlo (.inl hlC') hlg
    have hag : h₀.get? a' = none := (N' _ (.head _)).2.2
    have haa : (a', og) ∈ led := hcov.2 _ _ hog (.inr rfl) hag
    clear hown hret F' N' F N FC hC0
    refine seg_func (seg_execs_cons (seg_plain ?_))
    k_steps
    refine seg_execs_cons (seg_For ?_)
    k_steps
    have hls : ∀ s9 : Shared, s9.heap.get? l = some (listOf vs.toArray nn) → s9.heap.IsList l vs.toArray := fun s9 e => ⟨_, e, rfl, nn, rfl⟩
    rename_i h9 F1 N1
    have hI9 : l ≠ h9.objs.size := Nat.ne_of_lt (Heap.lt_size (N1 _ hll).1)
    have hIC : h9.objs.size ≠ C := Nat.ne_of_gt F1.ns.lt
    have hIg : h₀.get? h9.objs.size = none := by
      cases q : h₀.get? h9.objs.size with
      | none => rfl
      | some o => exact absurd (Heap.lt_size (F1.keep _ _ q)) (Nat.lt_irrefl _)
    have hCg : h₀.get? C = none := by
      cases q : h₀.get? C with
      | none => rfl
      | some o => exact absurd (Nat.lt_of_lt_of_le (Heap.lt_size q) F1.above) (Nat.lt_irrefl _)
    have hIa : a' < h9.objs.size := Heap.lt_size (N1 _ haa).1
    have hvl := IntsAre.length hv
    refine wpAny_pyIter_list (hls ⟨h9, s1.gens, s1.drawn, s1.toks + 1, s1.os⟩ (N1 _ hll).1) fun pz => ?_
    refine' (?key : ∀ (k n i : Nat) (last : Option Int) (lv : Value) (m' : Str → Option Value) (led : List (Addr × Obj)) (s0 : Shared) (hh : Heap) (tk : Nat), rs.length - i = k → i ≤ rs.length → 0 < n → MatchFor spec n (rs.drop i) last → (last = none ∧ lv = .none ∨ ∃ v t, last = some v ∧ lv = .int v t) →
      h₀.StaysIn s0.heap → Cov h₀ C a' s0.heap led → (l, listOf vs.toArray nn) ∈ led → Fr h₀ C hh (see m' [(Str.ofString "grouping", .ref l), (Str.ofString "last_interval", lv)]) → News h₀ C hh led → hh.IsListIter h9.objs.size l i → Seg _ _ _ _ n s0 _ _ _ { s0 with heap := hh, toks := tk }) rs.length n₀ 0 none .none _ led s1 _ _ ?a1 ?a2 hn0 ?a4 ?a5 hst hcov hll (fr_see (F1.push _) ?a7) (fun p hp => ⟨Heap.get?_push_of_some _ (N1 p hp).1, (N1 p hp).2⟩) ?a9
    case a1 => omega
    case a2 => omega
    case a4 => simpa using hsp
    case a5 => exact .inl ⟨rfl, rfl⟩
    case a7 => kst_all
    case a9 => exact ⟨_, Heap.get?_push_size _ rfl, rfl, rfl⟩
    clear F1 N1 hcov hll haa hst hlo hog
    case key =>
      intro k
      induction k with
      | zero =>
        intro n i last lv m' led s0 hh tk hk hi hn hM hlv hst hcov hll F9 N9 hit
        have hin : i = rs.length := by omega
        subst hin
        have hIne : ∀ p ∈ led, p.1 ≠ h9.objs.size := fun p hp q => by
          rcases hcov.1 p hp with h | h
          · exact absurd (Nat.lt_trans h (Nat.lt_trans hCa hIa)) (by rw [q]; exact Nat.lt_irrefl _)
          · exact absurd hIa (by rw [← h, q]; exact Nat.lt_irrefl _)
        refine seg_forLoop (wpAny_pyNext_list_end rfl hit (hls ⟨hh, s0.gens, s0.drawn, tk, s0.os⟩ (N9 _ hll).1) (by simp [hvl]) fun h' he => ?_)
        refine seg_leaf (.ok .next) ?_
        refine seg_end (.ok (.ret .none)) ⟨rfl, ?_, moved_of (fr_but F9 hIC hIg he) (news_but N9 hIne he) (fun _ h => h) hst hcov⟩
        cases n with
        | zero => omega
        | succ n => simpa [MatchFor] using hM
      | succ k ih =>
        intro n i last lv m' led s0 hh tk hk hi hn hM hlv hst hcov hll F9 N9 hit
        have hIne : ∀ p ∈ led, p.1 ≠ h9.objs.size := fun p hp q => by
          rcases hcov.1 p hp with h | h
          · exact absurd (Nat.lt_trans h (Nat.lt_trans hCa hIa)) (by rw [q]; exact Nat.lt_irrefl _)
          · exact absurd hIa (by rw [← h, q]; exact Nat.lt_irrefl _)
        have hil : i < rs.length := by omega
        obtain ⟨r, hr⟩ : ∃ r, rs[i]? = some r := ⟨rs[i]'hil, by simp⟩
        obtain ⟨tr, htr⟩ := hv.get i r hr
        have hdrop : rs.drop i = r :: rs.drop (i + 1) := by
          rw [List.drop_eq_getElem_cons hil]; congr 1; rw [List.getElem?_eq_getElem hil] at hr; exact Option.some.inj hr
        rw [hdrop] at hM
        obtain ⟨n, rfl⟩ : ∃ n', n = n' + 1 := ⟨n - 1, by omega⟩
        refine seg_forLoop (wpAny_pyNext_list_item hit (hls ⟨hh, s0.gens, s0.drawn, tk, s0.os⟩ (N9 _ hll).1) (x := .int r tr) (by simpa using htr) fun h' hit' hsb => ?_)
        have F8 := fr_but F9 hIC hIg hsb.extBut
        have N8 := news_but N9 hIne hsb.extBut
        obtain ⟨oI, hoI, hoc, hod⟩ := hit'
        have N7 : News h₀ C h' ((h9.objs.size, oI) :: led) := fun p hp => by
          rcases List.mem_cons.mp hp with rfl | hp
          · exact ⟨hoI, hIC, hIg⟩
          · exact N8 p hp
        clear F9 N9 N8 hit
        refine wpAny_pure (wpAny_assign_Name ?_)
        dsimp only [see] at F8
        k_steps
        refine seg_execs_cons (seg_plain ?_)
        k_steps
        · refine seg_leaf (.ok (.ret .none)) ?_
          refine seg_end (.ok (.ret .none)) ⟨rfl, ?_, moved_of (by assumption) (by assumption) (fun _ h => .tail _ h) hst hcov⟩
          simp only [MatchFor] at hM
          rw [if_pos (by omega)] at hM
          exact hM
        · refine seg_execs_cons (seg_If ?_)
          k_steps
          · simp only [MatchFor] at hM
            rw [if_neg (by omega), if_pos (by omega)] at hM
            obtain ⟨v, rfl, hall⟩ := hM
            obtain ⟨t9, rfl⟩ : ∃ t9, lv = .int v t9 := by
              rcases hlv with ⟨h1, _⟩ | ⟨v', t', h1, h2⟩
              · cases h1
              · cases h1; exact ⟨t', h2⟩
            refine seg_execs_cons (seg_plain ?_)
            k_steps
            refine seg_execs_cons (seg_While fun p2 => ?_)
            (rename Fr _ _ _ _ => F4); (rename News _ _ _ _ => N4)
            refine' (?key2 : ∀ (n : Nat) (m' : Str → Option Value) (led : List (Addr × Obj)) (s0 : Shared) (hh : Heap) (tk : Nat), (∀ j, 1 ≤ j → j ≤ n + 1 → spec j = some v) → h₀.StaysIn s0.heap → Cov h₀ C a' s0.heap led →
              Fr h₀ C hh (see m' [(Str.ofString "last_interval", .int v t9)]) → News h₀ C hh led → Seg _ _ _ _ (n + 1) s0 _ _ _ { s0 with heap := hh, toks := tk }) n _ led s0 _ _ hall hst hcov (fr_see F4 ?b1) (fun p hp => N4 p (.tail _ hp))
            case b1 => kst_all
            clear F4 N4 hcov hst hll hall ih hr htr hoI
            case key2 =>
              intro n
              induction n with
              | zero =>
                intro m' led s0 hh tk hall hst hcov F5 N5
                dsimp only [see] at F5
                refine seg_whileLoop ?_
                k_steps
                refine seg_execs_cons (seg_Expr_Yield rfl rfl rfl ?_)
                k_steps
                rename_i kap hkap
                exact ⟨v, _, hall 1 (by omega) (by omega), rfl, moved_of (by assumption) (by assumption) (fun _ h => h) hst hcov, fun h => absurd h (by omega)⟩
              | succ n ih2 =>
                intro m' led s0 hh tk hall hst hcov F5 N5
                dsimp only [see] at F5
                refine seg_whileLoop ?_
                k_steps
                refine seg_execs_cons (seg_Expr_Yield rfl rfl rfl ?_)
                k_steps
                rename_i kap hkap
                refine ⟨v, _, hall (n + 1 + 1) (by omega) (by omega), rfl, moved_of (by assumption) (by assumption) (fun _ h => h) hst hcov, fun _ => ?_⟩
                obtain ⟨oC5, hC5⟩ : ∃ oC5, hh.get? C = some oC5 := let ⟨o, _, _, ho, _⟩ := F5.ns; ⟨o, ho⟩
                refine ⟨[(C, oC5)], fun p hp => by rw [List.mem_singleton.mp hp]; exact ⟨hC5, hCg, Nat.le_refl _, Nat.ne_of_lt hCa⟩, fun s5 e1 e2 e4 e3 => hkap .none s5 ?_⟩
                obtain ⟨led5, N5', hcov5⟩ := cover (g := h₀) (h := s5.heap) hCa
                refine seg_again rfl ?_
                exact ih2 _ led5 s5 s5.heap s5.toks (fun j h1 h2 => hall j h1 (by omega)) e1 hcov5 (fr_see (fr_back F5 hC5 e1 (e3 _ (.head _))) (by kst_all)) N5'
          · simp only [MatchFor] at hM
            rw [if_neg (by omega), if_neg (by omega)] at hM
            refine seg_execs_nil ?_
            refine seg_execs_cons (seg_Expr_Yield rfl rfl rfl ?_)
            k_steps
            rename_i kap hkap
            refine ⟨r, _, hM.1, rfl, moved_of (by assumption) (by assumption) (fun _ h => .tail _ h) hst hcov, fun hpos => ?_⟩
            (rename Fr _ _ _ _ => F6); (rename News _ _ _ _ => N6)
            obtain ⟨oC5, hC5⟩ : ∃ oC5, _ = some oC5 := let ⟨o, _, _, ho, _⟩ := F6.ns; ⟨o, ho⟩
            refine ⟨[(C, oC5), (h9.objs.size, oI)], fun p hp => ?_, fun s5 e1 e2 e4 e3 => hkap .none s5 ?_⟩
            · rcases List.mem_cons.mp hp with rfl | hp
              · exact ⟨hC5, hCg, Nat.le_refl _, Nat.ne_of_lt hCa⟩
              · rw [List.mem_singleton.mp hp]
                exact ⟨(N6 _ (.head _)).1, hIg, Nat.le_of_lt (Nat.lt_trans hCa hIa), Nat.ne_of_gt hIa⟩
            · obtain ⟨led5, N5', hcov5⟩ := cover (g := h₀) (h := s5.heap) hCa
              have hI5 := e3 _ (.tail _ (.head _))
              have F5' := fr_back F6 hC5 e1 (e3 _ (.head _))
              have N5'' : News h₀ C s5.heap ((h9.objs.size, oI) :: led5) := fun p hp => by
                rcases List.mem_cons.mp hp with rfl | hp
                · exact ⟨hI5, hIC, hIg⟩
                · exact N5' p hp
              have hll5 : (l, listOf vs.toArray nn) ∈ led5 := hcov5.2 _ _ e2 (.inl hlC') hlg
              clear F6 N6 N5' hkap
              refine seg_execs_cons (seg_plain ?_)
              k_steps
              refine seg_again rfl ?_
              (rename Fr _ _ _ _ => F7); (rename News _ _ _ _ => N7)
              refine' ih _ (i + 1) (some r) (.int r tr) _ led5 s5 _ _ (by omega) (by omega) hpos hM.2 (.inr ⟨r, tr, rfl, rfl⟩) e1 hcov5 hll5 (fr_see F7 ?b2) (fun p hp => N7 p (.tail _ hp)) ⟨oI, (N7 _ (.head _)).1, hoc, hod⟩
              case b2 => kst_all

end
end
-- part WGenC
section
open Sem (wp)
noncomputable def NextG {σ : Type} (g : Heap) (L : Addr) (s' : Shared) (ps : σ → List (Str × Value)) (Led : σ → List (Addr × Obj)) (P : Nat → σ → Prop) (n : Nat) (own : List (Addr × Obj)) (s₃ : Shared) : Prop :=
  ∃ c', 0 < n ∧ P n c' ∧ At g L s' (ps c') (Led c' ++ own) s₃
theorem NextG.intro {σ : Type} {g h : Heap} {L : Addr} {s' : Shared} {ps : σ → List (Str × Value)} {Led : σ → List (Addr × Obj)} {P : Nat → σ → Prop} {n : Nat} {own led' : List (Addr × Obj)} {m : Str → Option Value} {tk : Nat} (c' : σ)
    (F : Fr g L h m) (N : News g L h led') (hp : P n c') (hn0 : 0 < n) (hn : ∀ p ∈ Led c' ++ own, p ∈ led') (hk : ∀ p ∈ ps c', m p.1 = some p.2) : NextG g L s' ps Led P n own { s' with heap := h, toks := tk } :=
  ⟨c', hn0, hp, At.intro F N hn hk⟩
theorem bare_set {G : Array GenState} {i : Nat} {x : GenState} (h : AllBare G) (hx : x.bare = true) : AllBare (G.setIfInBounds i x) := fun y hy => by
  obtain ⟨j, hj, rfl⟩ := Array.mem_iff_getElem.mp hy
  have hj' : j < G.size := by simpa using hj
  rw [Array.getElem_setIfInBounds hj']
  split
  · exact hx
  · exact h _ (Array.getElem_mem hj')
theorem setIf_get {G : Array GenState} {i : Nat} {x y : GenState} (h : G[i]? = some y) : (G.setIfInBounds i x)[i]? = some x := by
  have hi := (Array.getElem?_eq_some_iff.mp h).1
  simp [hi]
/-- what holds ahead of each turn of a for over a generator -/
noncomputable def GInv {σ : Type} (w : World) (A : Around) (L : Addr) (g : Heap) (s : Shared) (C a l : Addr) (og lo : Obj) (gi n₀ : Nat) (spec : Nat → Option Int) (ps : σ → List (Str × Value)) (Led : σ → List (Addr × Obj)) (P : Nat → σ → Prop) (k : Nat) (s' : Shared) : Prop :=
  ∃ c h tk m G gs own, s' = { s with heap := h, toks := tk, gens := G } ∧ 0 < k ∧ k ≤ n₀ ∧ G[gi]? = some gs ∧ AllBare G ∧ GenOk w A.in1 g C a l og lo spec k gs own ∧
    (∀ p ∈ own, C ≤ p.1 ∧ p.1 ≠ a ∧ g.get? p.1 = none ∧ h.get? p.1 = some p.2) ∧ Fr g L h m ∧ News g L h (Led c) ∧ h.get? a = some og ∧ (∀ p ∈ ps c, m p.1 = some p.2) ∧ P k c
theorem GInv.of {σ : Type} {w : World} {A : Around} {L : Addr} {g : Heap} {s : Shared} {C a l : Addr} {og lo : Obj} {gi n₀ : Nat} {spec : Nat → Option Int} {ps : σ → List (Str × Value)} {Led : σ → List (Addr × Obj)} {P : Nat → σ → Prop} {k : Nat}
    (c : σ) (h : Heap) (tk : Nat) (m : Str → Option Value) (G : Array GenState) (gs : GenState) (own : List (Addr × Obj)) (h1 : 0 < k) (h2 : k ≤ n₀) (h3 : G[gi]? = some gs) (h4 : AllBare G) (h5 : GenOk w A.in1 g C a l og lo spec k gs own)
    (h6 : ∀ p ∈ own, C ≤ p.1 ∧ p.1 ≠ a ∧ g.get? p.1 = none ∧ h.get? p.1 = some p.2) (h7 : Fr g L h m) (h8 : News g L h (Led c)) (h9 : h.get? a = some og) (ha : ∀ p ∈ ps c, m p.1 = some p.2) (hb : P k c) :
    GInv w A L g s C a l og lo gi n₀ spec ps Led P k { s with heap := h, toks := tk, gens := G } := ⟨c, h, tk, m, G, gs, own, rfl, h1, h2, h3, h4, h5, h6, h7, h8, h9, ha, hb⟩
section
variable {w : World} {A : Around} {E : Value → Shared → Prop} {s : Shared} {env : Env} {g : Heap} {Q : Flow → Shared → Prop} {led₀ : List (Addr × Obj)} {m₀ : Str → Option Value}
theorem kfor_gen {σ : Type} {target : PySem.Expr} {body : List Stmt} {C a l : Addr} {oC og lo : Obj} {gi n₀ : Nat} {gs : GenState} {spec : Nat → Option Int} (ps : σ → List (Str × Value)) (Led : σ → List (Addr × Obj)) (P : Nat → σ → Prop) (c₀ : σ)
    (hh : A.handled = none) (hroom : A.depth < recursionLimit) (hlim : g.NoLimit) (hn0 : 0 < n₀)
    (hgo : ∀ (I : Addr) v (s' : Shared) (Q' : Unit → Shared → Prop) (E' : Value → Shared → Prop), Q' () s' → wpAny (model prog w) A (letOwnedTupleGo target (.ref I) v) Q' E' s')
    (F : Fr g env.locals s.heap m₀) (N : News g env.locals s.heap ((a, og) :: (C, oC) :: led₀)) (hlt : ∀ p ∈ led₀, p.1 < C) (hLC : env.locals < C) (hCa : C < a)
    (hl : ∀ c, (l, lo) ∈ Led c) (hadr : ∀ c, ∀ p ∈ Led c, p.1 < C)
    (hgen : ∀ h'' : Heap, h''.get? a = some og → h''.IsGen a gi) (hgi : s.gens[gi]? = some gs) (hbare : AllBare s.gens) (hok : GenOk w A.in1 g C a l og lo spec n₀ gs [(C, oC)])
    (hn : ∀ p ∈ Led c₀, p ∈ led₀) (hk : ∀ p ∈ ps c₀, m₀ p.1 = some p.2) (hp : P n₀ c₀) (hE : PassesOwn (model prog w) A env E)
    (turn : ∀ n i t c m h tk G own, spec (n + 1) = some i → n + 1 ≤ n₀ → P (n + 1) c → AllBare G → (∀ p ∈ own, C ≤ p.1) → Fr g env.locals h (see m (ps c)) → News g env.locals h (Led c ++ own) →
      wpAny (model prog w) A (assign target env (.int i t)) (fun _ s₂ => wpAny (model prog w) A (execs body env) (Turn (NextG g env.locals { s with gens := G } ps Led P n own) Q) E s₂) E { s with heap := h, toks := tk, gens := G })
    (done : ∀ n c m h tk G, n ≤ n₀ → spec n = none → P n c → AllBare G → Fr g env.locals h (see m (ps c)) → News g env.locals h (Led c) → Q .next { s with heap := h, toks := tk, gens := G }) :
    KIter prog w A env target body Q E (.ref a) s := by
  have hga : g.get? a = none := (N _ (.head _)).2.2
  have hgC : g.get? C = none := (N _ (.tail _ (.head _))).2.2
  have haL : a ≠ env.locals := (N _ (.head _)).2.1
  have hCL : C ≠ env.locals := (N _ (.tail _ (.head _))).2.1
  refine wpAny_pyIter_gen (hgen _ (N _ (.head _)).1) ?_
  refine codeAny_forLoop_any (GInv w A env.locals g s C a l og lo gi n₀ spec ps Led P) ?_ n₀
    (GInv.of c₀ s.heap s.toks m₀ s.gens gs [(C, oC)] hn0 (Nat.le_refl _) hgi hbare hok (fun p hp => by rw [List.mem_singleton.mp hp]; exact ⟨Nat.le_refl _, Nat.ne_of_lt hCa, hgC, (N _ (.tail _ (.head _))).1⟩) F (fun p hq => N p (.tail _ (.tail _ (hn p hq)))) (N _ (.head _)).1 hk hp)
  rintro k s' ⟨c, h, tk, m, G, gs, own, rfl, hk0, hkn, hG, hB, hokk, hown, F₁, N₁, ha, hks, hpc⟩
  have hlh : h.get? l = some lo := (N₁ _ (hl c)).1
  have keep : ∀ h' : Heap, (∀ b o, (b < C ∨ b = a) → h.get? b = some o → h'.get? b = some o) → Fr g env.locals h' m ∧ News g env.locals h' (Led c) ∧ h'.get? a = some og := fun h' hmv =>
    ⟨⟨F₁.ns.at' fun o e => hmv _ o (.inl hLC) e, fun b o e => hmv b o (.inl (by
        have h1 := Heap.lt_size e
        exact Nat.lt_of_lt_of_le h1 (Nat.le_trans F₁.above (Nat.le_of_lt hLC)))) (F₁.keep b o e), F₁.above⟩, fun p hp => ⟨hmv _ _ (.inl (hadr c p hp)) (N₁ p hp).1, (N₁ p hp).2⟩, hmv _ _ (.inr rfl) ha⟩
  obtain ⟨n, rfl⟩ : ∃ n, k = n + 1 := ⟨k - 1, by omega⟩
  refine pyNext_gen (n := n + 1) hh (hlim.keeps F₁.keep) hroom (hgen _ ha) hG (hokk _ F₁.keep hlh ha fun p hp => (hown p hp).2.2.2) ?_ ?_
  · rintro v s₁ gs' hb ⟨i, t, hsp, rfl, ⟨h', tk', rfl, hmv⟩, hnext⟩
    obtain ⟨F₂, N₂, ha₂⟩ := keep h' hmv
    refine hgo a _ _ _ _ ?_
    have hB' : AllBare ((G.setIfInBounds gi .running).setIfInBounds gi gs') := bare_set (bare_set hB rfl) hb
    have hown' : ∃ own', (∀ p ∈ own', C ≤ p.1 ∧ p.1 ≠ a ∧ g.get? p.1 = none ∧ h'.get? p.1 = some p.2) ∧ (0 < n → GenOk w A.in1 g C a l og lo spec n gs' own') := by
      by_cases hn0 : 0 < n
      · obtain ⟨own', h1, h2⟩ := hnext hn0
        exact ⟨own', fun p hp => ⟨(h1 p hp).2.2.1, (h1 p hp).2.2.2, (h1 p hp).2.1, (h1 p hp).1⟩, fun _ s'' e1 e2 e3 e4 => h2 s'' e1 e2 e3 e4⟩
      · exact ⟨[], (fun p hp => absurd hp (List.not_mem_nil)), fun h => absurd h hn0⟩
    obtain ⟨own', ho1, ho2⟩ := hown'
    have hLown : ∀ p ∈ own', p.1 ≠ env.locals := fun p hp q => absurd hLC (by
      have := (ho1 p hp).1
      rw [q] at this
      exact Nat.not_lt.mpr this)
    have N₃ : News g env.locals h' (Led c ++ (a, og) :: own') := fun p hp => by
      rcases List.mem_append.mp hp with hp | hp
      · exact N₂ p hp
      · rcases List.mem_cons.mp hp with rfl | hp
        · exact ⟨ha₂, haL, hga⟩
        · exact ⟨(ho1 p hp).2.2.2, hLown p hp, (ho1 p hp).2.2.1⟩
    have hge : ∀ p ∈ (a, og) :: own', C ≤ p.1 := fun p hp => by
      rcases List.mem_cons.mp hp with rfl | hp
      · exact Nat.le_of_lt hCa
      · exact (ho1 p hp).1
    refine wpAny_passesOwn hE (wpAny_mono (turn n i t c m h' tk' _ _ hsp hkn hpc hB' hge (fr_see F₂ hks) N₃) (fun _ s₂ h₂ => wpAny_passesOwn hE (wpAny_mono h₂ (fun f s₃ h₃ => ?_) fun _ _ e => e)) fun _ _ e => e)
    have fin : NextG g env.locals { s with gens := (G.setIfInBounds gi .running).setIfInBounds gi gs' } ps Led P n ((a, og) :: own') s₃ → ∃ k, k < n + 1 ∧ GInv w A env.locals g s C a l og lo gi n₀ spec ps Led P k s₃ := by
      rintro ⟨c', hn', hpc', h₃', tk₃, m₃, rfl, F₃, N₃, hk₃⟩
      exact ⟨n, Nat.lt_succ_self n, GInv.of c' h₃' tk₃ m₃ _ gs' own' hn' (Nat.le_of_lt hkn) (setIf_get (setIf_get hG)) hB' (ho2 hn') (fun p hp => ⟨(ho1 p hp).1, (ho1 p hp).2.1, (ho1 p hp).2.2.1, (N₃ _ (List.mem_append.mpr (.inr (.tail _ hp)))).1⟩) F₃ (fun p hp => N₃ p (List.mem_append.mpr (.inl hp))) (N₃ _ (List.mem_append.mpr (.inr (.head _)))).1 hk₃ hpc'⟩
    cases f with
    | ret v => exact h₃
    | brk => exact h₃
    | cont => exact fin h₃
    | next => exact fin h₃
  · rintro s₁ ⟨hsp, ⟨h', tk', rfl, hmv⟩⟩ h'' hk''
    obtain ⟨F₂, N₂, ha₂⟩ := keep h'' fun b o hb e => hk'' _ _ (hmv b o hb e)
    refine wpAny_execs_nil ?_
    exact done (n + 1) c m h'' tk' _ hkn hsp hpc (bare_set (bare_set hB rfl) rfl) (fr_see F₂ hks) N₂
end
end
-- part WTold
theorem restWTold {M : Model} {A : Around} {env : Env} {Q : Flow → Shared → Prop} {E : Value → Shared → Prop} {s : Shared} (h : wpAny M A (execs [] env) Q E s) : wpAny M A (execs [] env) Q E s := by w_top off; first | (walk1; fail) | exact h
section
section
variable {w : World} {mean : ExcName → Option Value} {mg mb : Str → Option Value} {dp un : Nat} {gd : Option (List Code)} {cn : Str} {cs : Scope} {a : Addr} {ccd : Value} {cl : List (Str × Addr)} {outer : List Env} {A₀ : Around} {base h₀ : Heap} {L : Addr} {m : Str → Option Value} {s : Shared} {Q : Value → Shared → Prop} {E : Value → Shared → Prop} {news : List (Addr × Obj)}

/-- a list back; generators may have been made -/
noncomputable abbrev RetL (h₀ : Heap) (L : Addr) (m : Str → Option Value) (news : List (Addr × Obj)) (s : Shared) (Q : Value → Shared → Prop) (V : List Value → Prop) : Prop :=
  ∀ (l' : Addr) (vs : List Value) (nn : Nat) (h' : Heap) (tk' : Nat) (G : Array GenState), V vs → AllBare G → Fr h₀ L h' m → News h₀ L h' ((l', listOf vs.toArray nn) :: news) → Q (.ref l') { s with heap := h', toks := tk', gens := G }
/-- what was told, by the pulls -/
noncomputable def ToldI (spec : Nat → Option Int) (n : Nat) (us : List Value) : Prop := ∃ is : List Int, IntsAre us is ∧ is.length + n = 12 ∧ is.length ≤ 9 ∧ ∀ j, j < is.length → spec (12 - j) = is[j]?
noncomputable def ToldV (spec : Nat → Option Int) (us : List Value) : Prop := ∃ is : List Int, IntsAre us is ∧ is.length ≤ 9 ∧ (is.length = 9 ∨ spec (12 - is.length) = none) ∧ ∀ j, j < is.length → spec (12 - j) = is[j]?
theorem toldI_next {spec : Nat → Option Int} {n : Nat} {us : List Value} {is : List Int} {i : Int} {t : Tok} (hIs : IntsAre us is) (hlen : is.length + (n + 1) = 12) (hle : is.length ≤ 9) (hall : ∀ j, j < is.length → spec (12 - j) = is[j]?) (h1 : spec (n + 1) = some i) (h9 : is.length ≠ 9) : ToldI spec n (us ++ [.int i t]) := by
  refine ⟨is ++ [i], IntsAre.append hIs (.cons _ _ .nil), by simp; omega, by simp; omega, fun j hj => ?_⟩
  rw [List.length_append, List.length_cons, List.length_nil] at hj
  by_cases e : j < is.length
  · rw [hall j e, List.getElem?_append_left e]
  · have e2 : j = is.length := by omega
    subst e2
    rw [List.getElem?_append_right (Nat.le_refl _), Nat.sub_self]
    have : 12 - is.length = n + 1 := by omega
    rw [this, h1]; rfl
set_option maxHeartbeats 4000000 in
theorem told_call {l : Addr} {vs : List Value} {rs : List Int} {nn : Nat} {spec : Nat → Option Int} (B : Below A₀ base outer h₀) (F : Fr h₀ L s.heap m) (X : (hd.heap_1 w.params).In h₀) (N : News h₀ L s.heap news) (T : Top vw (looseW vw []) mean mg mb h₀) (hk : cs.kind = .function) (hd : dp + 5 < recursionLimit) (hu : un + 60 < cLine) (hbare : AllBare s.gens)
    (hl : (l, listOf vs.toArray nn) ∈ news) (hv : IntsAre vs rs) (hsp : MatchFor spec 12 rs none)
    (hret : RetL h₀ L m news s Q (ToldV spec)) :
    wpAny (model prog w) (ktrTop dp un gd cn cs L a ccd cl outer) (call (.ref 88) [.ref l]) Q E s := by
  refine wpAny_call ?_
  k_dflt cell_enter
  k_steps
  · rename_i lt lh1 lt1 lh2 lF lN
    refine' gen_call (n₀ := 12) (rs := rs) ?zB ?zF ?zX ?zN ?zT ?zK ?zd ?zu ?zl hv (by decide) hsp ?zr
    case zB => k_asm
    case zF => k_asm
    case zX => k_asm
    case zN => k_asm
    case zT => k_asm
    case zK => exact rfl
    case zd => ktr_room
    case zu => ktr_units
    case zl => exact .tail _ hl
    case zr =>
      intro gC ga goC gog ggs gh gtk gC0 gF gN glt gCa ggen gbare gok
      show KIter _ _ _ _ _ _ _ _ _ _
      refine' kfor_gen (n₀ := 12) (spec := spec) (gs := ggs) (gi := s.gens.size) (C := gC) (oC := goC) (og := gog) (lo := listOf vs.toArray nn) (l := l) (fun _ : List Value × Nat => [(Str.ofString "row", .ref l), (Str.ofString "told", .ref lt)]) (fun c => (lt, listOf c.1.toArray c.2) :: news) (fun n c => ToldI spec n c.1) ⟨[], 0⟩ ?zh ?zd2 (Top.nolimit (by assumption)) (by decide) go_name ?zF ?zN ?zlt ?zLC ?zCa ?zl ?zad ?zge ?zgi ?zba ?zok ?zn ?zk ?zp ?zE ?zt ?zd
      case zh => exact rfl
      case zd2 => ktr_room
      case zF => exact gF
      case zN => exact gN
      case zlt => exact glt
      case zLC => exact Nat.lt_of_lt_of_le lF.ns.lt gC0
      case zCa => exact gCa
      case zl => exact fun _ => .tail _ hl
      case zad =>
        intro c p hp
        rcases List.mem_cons.mp hp with rfl | hp
        · exact glt (lt, listOf #[] 0) (.head _)
        · exact glt _ (.tail _ hp)
      case zge => exact ggen
      case zgi => simp
      case zba => exact AllBare.push hbare gbare
      case zok => exact gok
      case zn => exact fun _ h => h
      case zk => kst_all
      case zp => exact ⟨[], .nil, rfl, by decide, fun j hj => absurd hj (Nat.not_lt_zero _)⟩
      case zE => with_unfolding_all passes_own
      case zt =>
        clear gF gN lF lN
        rintro n i t ⟨us, un'⟩ m h tk G own hsp1 hn12 hP hG hge F' N'
        dsimp only [see] at F' N' hP
        simp only [List.cons_append] at N'
        obtain ⟨is, hIs, hlen, hle, hall⟩ := hP
        have hU := IntsAre.length hIs
        have hoff : ∀ p ∈ news ++ own, p.1 ≠ lt := fun p hp => by
          rcases List.mem_append.mp hp with h1 | h1
          · exact Nat.ne_of_lt (lt1 p h1)
          · exact Nat.ne_of_gt (Nat.lt_of_lt_of_le (glt (lt, listOf #[] 0) (.head _)) (hge p h1))
        refine wpAny_assign_Name ?_
        k_steps
        · (rename News _ _ _ _ => nN)
          exact hret _ _ _ _ _ _ ⟨is, hIs, hle, .inl (by omega), hall⟩ hG (by assumption) fun p hp => nN p (by
            rcases List.mem_cons.mp hp with rfl | hp
            · exact .head _
            · exact .tail _ (List.mem_append.mpr (.inl hp)))
        · (rename News _ _ _ _ => nN)
          refine' NextG.intro ⟨us ++ [.int i t], un' + 1⟩ ?zF ?zN ?zp ?z0 ?zn ?zk
          case zF => assumption
          case zN => exact nN
          case zk => kst_all
          case z0 => omega
          case zn =>
            intro p hp
            simpa [PySem.W.listOf] using hp
          case zp => exact toldI_next hIs hlen hle hall hsp1 (by omega)
      case zd =>
        clear gF gN lF lN
        rintro n ⟨us, un'⟩ m h tk G hn12 hsp1 hP hG F' N'
        dsimp only [see] at F' N' hP
        k_steps
        · obtain ⟨is, hIs, hlen, hle, hall⟩ := hP
          have e : 12 - is.length = n := by omega
          exact hret _ _ _ _ _ _ ⟨is, hIs, hle, .inr (by rw [e]; exact hsp1), hall⟩ hG (by assumption) (by assumption)

end
end
-- part WCut
theorem restWCut {M : Model} {A : Around} {env : Env} {Q : Flow → Shared → Prop} {E : Value → Shared → Prop} {s : Shared} (h : wpAny M A (execs [] env) Q E s) : wpAny M A (execs [] env) Q E s := by w_top off; first | (walk1; fail) | exact h
section
section
variable {w : World} {mean : ExcName → Option Value} {mg mb : Str → Option Value} {dp un : Nat} {gd : Option (List Code)} {cn : Str} {cs : Scope} {a : Addr} {ccd : Value} {cl : List (Str × Addr)} {outer : List Env} {A₀ : Around} {base h₀ : Heap} {L : Addr} {m : Str → Option Value} {s : Shared} {Q : Value → Shared → Prop} {E : Value → Shared → Prop} {news : List (Addr × Obj)}

set_option maxHeartbeats 4000000 in
theorem cut_call {l : Addr} {vs : List Value} {rs : List Int} {nn : Nat} {spec : Nat → Option Int} {x : List Nat} {tx : Tok} (B : Below A₀ base outer h₀) (F : Fr h₀ L s.heap m) (X : (hd.heap_1 w.params).In h₀) (N : News h₀ L s.heap news) (T : Top vw (looseW vw []) mean mg mb h₀) (hk : cs.kind = .function) (hd : dp + 5 < recursionLimit) (hu : un + 60 < cLine) (hbare : AllBare s.gens)
    (hl : (l, listOf vs.toArray nn) ∈ news) (hv : IntsAre vs rs) (hsp : MatchFor spec 12 rs none) (hx : x.length ≤ 6) (hpos : ∀ n i, spec n = some i → 1 ≤ i ∧ i ≤ 1000)
    (hret : RetL h₀ L m news s Q (CutV spec x)) :
    wpAny (model prog w) (ktrTop dp un gd cn cs L a ccd cl outer) (call (.ref 95) [.str (mk x) tx, .ref l]) Q E s := by
  refine wpAny_call ?_
  k_dflt cell_enter
  k_steps
  · rename_i lt lh1 lt1 _ lh2 lF lN
    refine' gen_call (n₀ := 12) (rs := rs) ?zB ?zF ?zX ?zN ?zT ?zK ?zd ?zu ?zl hv (by decide) hsp ?zr
    case zB => k_asm
    case zF => k_asm
    case zX => k_asm
    case zN => k_asm
    case zT => k_asm
    case zK => exact rfl
    case zd => ktr_room
    case zu => ktr_units
    case zl => exact .tail _ hl
    case zr =>
      intro gC ga goC gog ggs gh gtk gC0 gF gN glt gCa ggen gbare gok
      show KIter _ _ _ _ _ _ _ _ _ _
      refine' kfor_gen (n₀ := 12) (spec := spec) (gs := ggs) (gi := s.gens.size) (C := gC) (oC := goC) (og := gog) (lo := listOf vs.toArray nn) (l := l) (fun c : (List Value × Nat) × Str × Tok => [(Str.ofString "row", .ref l), (Str.ofString "pieces", .ref lt), (Str.ofString "left", .str c.2.1 c.2.2)]) (fun c => (lt, listOf c.1.1.toArray c.1.2) :: news) (fun n c => CutI spec x n c.1.1 c.2.1) ⟨⟨[], 0⟩, _, _⟩ ?zh ?zd2 (Top.nolimit (by assumption)) (by decide) go_name ?zF ?zN ?zlt ?zLC ?zCa ?zl ?zad ?zge ?zgi ?zba ?zok ?zn ?zk ?zp ?zE ?zt ?zd
      case zh => exact rfl
      case zd2 => ktr_room
      case zF => exact gF
      case zN => exact gN
      case zlt => exact glt
      case zLC => exact Nat.lt_of_lt_of_le lF.ns.lt gC0
      case zCa => exact gCa
      case zl => exact fun _ => .tail _ hl
      case zad =>
        intro c p hp
        rcases List.mem_cons.mp hp with rfl | hp
        · exact glt (lt, listOf #[] 0) (.head _)
        · exact glt _ (.tail _ hp)
      case zge => exact ggen
      case zgi => simp
      case zba => exact AllBare.push hbare gbare
      case zok => exact gok
      case zn => exact fun _ h => h
      case zk => kst_all
      case zp => exact cutI_0 hx
      case zE => with_unfolding_all passes_own
      case zt =>
        clear gF gN lF lN
        rintro n i t ⟨⟨us, un'⟩, left, tl⟩ m h tk G own hsp1 hn12 hP hG hge F' N'
        dsimp only [see] at F' N' hP
        simp only [List.cons_append] at N'
        have hf := cutI_facts hP
        have hi := hpos _ _ hsp1
        have hoff : ∀ p ∈ news ++ own, p.1 ≠ lt := fun p hp => by
          rcases List.mem_append.mp hp with h1 | h1
          · exact Nat.ne_of_lt (lt1 p h1)
          · exact Nat.ne_of_gt (Nat.lt_of_lt_of_le (glt (lt, listOf #[] 0) (.head _)) (hge p h1))
        refine wpAny_assign_Name ?_
        k_steps
        · exfalso
          have h1 : (left == Str.ofString "") = true := by assumption
          have h2 : (left != Str.ofString "") = true := by assumption
          simp [bne, h1] at h2
        · (rename News _ _ _ _ => nN)
          exact hret _ _ _ _ _ _ (cutI_break hP (by assumption)) hG (by assumption) fun p hp => nN p (by
            rcases List.mem_cons.mp hp with rfl | hp
            · exact .head _
            · exact .tail _ (List.mem_append.mpr (.inl hp)))
        · (rename News _ _ _ _ => nN)
          rw [push_list] at nN
          generalize hu9 : us ++ [Value.str (Txt.slice left none (some i)) _] = us9 at nN
          refine' NextG.intro ⟨⟨us9, un' + 1⟩, _, _⟩ ?zF ?zN ?zp ?z0 ?zn ?zk
          case zF => assumption
          case zN => exact nN
          case zk => kst_all
          case zn => (dsimp only [List.cons_append]; exact fun _ h => h)
          case z0 => omega
          case zp => rw [← hu9]; exact cutI_next hP hsp1 hi.1 (by assumption)
      case zd =>
        clear gF gN lF lN
        rintro n ⟨⟨us, un'⟩, left, tl⟩ m h tk G hn12 hsp1 hP hG F' N'
        dsimp only [see] at F' N' hP
        have hf := cutI_facts hP
        have hoff : ∀ p ∈ news, p.1 ≠ lt := fun p hp => Nat.ne_of_lt (lt1 p hp)
        k_steps
        · (rename News _ _ _ _ => nN)
          refine hret _ (us ++ [.str left tl]) (un' + 1) _ _ _ (cutI_end1 hP hsp1 (by assumption)) hG (by assumption) fun p hp => nN p ?_
          simpa [PySem.W.listOf] using hp
        · exact hret _ _ _ _ _ _ (cutI_end2 hP (by assumption)) hG (by assumption) (by assumption)

end
end
-- part WPcs
theorem restWPcs {M : Model} {A : Around} {env : Env} {Q : Flow → Shared → Prop} {E : Value → Shared → Prop} {s : Shared} (h : wpAny M A (execs [] env) Q E s) : wpAny M A (execs [] env) Q E s := by w_top off; first | (walk1; fail) | exact h
section
section
variable {w : World} {mean : ExcName → Option Value} {mg mb : Str → Option Value} {dp un : Nat} {gd : Option (List Code)} {cn : Str} {cs : Scope} {a : Addr} {ccd : Value} {cl : List (Str × Addr)} {outer : List Env} {A₀ : Around} {base h₀ : Heap} {L : Addr} {m : Str → Option Value} {s : Shared} {Q : Value → Shared → Prop} {E : Value → Shared → Prop} {news : List (Addr × Obj)}

set_option maxHeartbeats 8000000 in
theorem pcs_call {x : List Nat} {e l kd : Int} {tx te tl tk' : Tok} (B : Below A₀ base outer h₀) (F : Fr h₀ L s.heap m) (X : (hd.heap_1 w.params).In h₀) (N : News h₀ L s.heap news) (T : Top vw (looseW vw []) mean mg mb h₀) (hk : cs.kind = .function) (hd : dp + 5 < recursionLimit) (hu : un + 60 < cLine) (hbare : AllBare s.gens)
    (hx : x.length = 6) (he : 1 ≤ e ∧ e ≤ 3) (hl : 1 ≤ l ∧ l ≤ 3) (hkd : 0 ≤ kd ∧ kd ≤ 3)
    (hret : RetL h₀ L m news s Q (PcV x e l kd)) :
    wpAny (model prog w) (ktrTop dp un gd cn cs L a ccd cl outer) (call (.ref 102) [.str (mk x) tx, .int e te, .int l tl, .int kd tk']) Q E s := by
  have hxl : (mk x).length = 6 := by rw [mk_len, hx]
  have he0 : (Str.ofString "").length = 0 := by decide +kernel
  refine wpAny_call ?_
  k_dflt cell_enter
  k_steps
  · rename_i lt _ lt1 _ _ _ _ _ _ _ _ _ rR lF lN _
    refine' kfor_range (n := 6) (fun c : (List Value × Nat) × Str × Tok => [(Str.ofString "signs", .str (mk x) tx), (Str.ofString "early", .int e te), (Str.ofString "later", .int l tl), (Str.ofString "kind", .int kd tk'), (Str.ofString "pieces", .ref lt), (Str.ofString "piece", .str c.2.1 c.2.2)]) (fun c => (lt, listOf c.1.1.toArray c.1.2) :: news) (fun i c => PcI x e l kd i c.1.1 c.2.1) ⟨⟨[], 0⟩, _, _⟩ rfl rR ?zs ?zr go_name lF lN (fun _ h => h) ?zk ?zp ?zE ?zt ?zd
    case zs => rw [hxl]; decide
    case zr => rw [hxl]; decide
    case zk => kst_all
    case zp => exact pcI_0 x e l kd
    case zE => with_unfolding_all passes_own
    case zt =>
      clear lF lN rR
      rintro I i t ⟨⟨us, un'⟩, piece, tp⟩ m h tk o hlt hi hP hne F' N'
      dsimp only [see] at F' N' hP hne
      have hPl := hP.2.2.2
      have hii := pc_item hx hi
      have hoff : ∀ p ∈ news, p.1 ≠ lt := fun p hp => Nat.ne_of_lt (lt1 p hp)
      have hIl : I ≠ lt := fun q => absurd (hlt (lt, listOf #[] 0) (.head _)) (by rw [q]; exact Nat.lt_irrefl _)
      refine wpAny_assign_Name ?_
      k_steps
      all_goals first
        | ((rename News _ _ _ _ => nN); (first | rw [push_list] at nN | rw [push_list'] at nN); refine' NextF.intro ⟨⟨us ++ [.str piece tp], un' + 1⟩, _, _⟩ ?zF ?zN ?zp ?zne ?zn ?zk; (case zF => assumption); (case zN => exact nN); (case zk => kst_all); (case zn => exact fun _ h => h); (case zne => (intro p hp; rcases List.mem_cons.mp hp with rfl | hp; exact Ne.symm hIl; exact hne p (.tail _ hp))); (case zp => exact pcI_cut hx hi hP (by first | exact cut_t1 (by assumption) (by assumption) | exact cut_t2 (by assumption) (by assumption) (by assumption) | exact cut_t3 (by assumption) | exact cut_t4 (by assumption) (by assumption) | exact cut_t (by omega))))
        | ((rename News _ _ _ _ => nN); refine' NextF.intro ⟨⟨us, un'⟩, _, _⟩ ?zF ?zN ?zp ?zne ?zn ?zk; (case zF => assumption); (case zN => exact nN); (case zk => kst_all); (case zn => exact fun _ h => h); (case zne => exact hne); (case zp => exact pcI_no hx hi hP (by first | contradiction | exact cut_f1 (by assumption) (by assumption) (by assumption) | exact cut_f2 (by assumption) (by assumption) (by assumption) (by assumption) | exact cut_f3 (by assumption) (by assumption) (by assumption) (by assumption) | exact cut_f4 (by assumption) (by assumption) (by assumption) (by assumption) | exact cut_f (by omega))))
    case zd =>
      clear lF lN rR
      rintro ⟨⟨us, un'⟩, piece, tp⟩ m h tk hP F' N'
      dsimp only [see] at F' N' hP
      have hPl := hP.2.2.2
      k_steps
      · (rename News _ _ _ _ => nN)
        refine hret _ (us ++ [.str piece tp]) 0 _ _ _ (pcI_end hP) hbare (by assumption) fun p hp => ?_
        rcases List.mem_cons.mp hp with rfl | hp
        · exact nN _ (.head _)
        · exact nN _ (.tail _ (.tail _ (.tail _ hp)))

end
end
-- part WOrd
theorem restWOrd {M : Model} {A : Around} {env : Env} {Q : Flow → Shared → Prop} {E : Value → Shared → Prop} {s : Shared} (h : wpAny M A (execs [] env) Q E s) : wpAny M A (execs [] env) Q E s := by w_top off; first | (walk1; fail) | exact h
section
section
variable {w : World} {mean : ExcName → Option Value} {mg mb : Str → Option Value} {dp un : Nat} {gd : Option (List Code)} {cn : Str} {cs : Scope} {a : Addr} {ccd : Value} {cl : List (Str × Addr)} {outer : List Env} {A₀ : Around} {base h₀ : Heap} {L : Addr} {m : Str → Option Value} {s : Shared} {Q : Value → Shared → Prop} {E : Value → Shared → Prop} {news : List (Addr × Obj)}

local macro_rules | `(tactic| walk_at "subscriptTail Name Slice ref ref") => `(tactic| (k_here; (with_reducible show wpAny _ _ (subscriptTail _ (PySem.Expr.Slice _ _ none _) (Value.ref _) (Value.ref _)) _ _ _); k_dflt (refine' own_slice ?F ?N ?l ?p ?q ?e ?_ ?s ?t ?z; (case F => k_asm); (case N => k_asm); (case l => k_mem); (case p => kmk_part); (case q => kmk_part); (case e => first | exact pick_to (by omega) | exact pick_from (by omega)); (case s => with_unfolding_all rfl); (case t => kmk_pure); (case z => omega)); intro D' h' F' N' l1; (try k_lt l1); (try k_sweep)))
local macro_rules | `(tactic| walk_at "binaryOp Add ref ref") => `(tactic| (k_here; (with_reducible show wpAny _ _ (binaryOp _ (Value.ref _) (Value.ref _)) _ _ _); k_dflt (refine' own_add ?F ?N ?a ?b ?_ ?z; (case F => k_asm); (case N => k_asm); (case a => k_mem); (case b => k_mem); (case z => (simp only [List.length_append, List.length_cons, List.length_nil, List.length_take, List.length_drop]; omega))); intro D' h' F' N' l1; (try k_lt l1); (try k_sweep)))
local macro_rules | `(tactic| walk_at "subscriptTail") => `(tactic| ((with_reducible show wpAny _ _ (subscriptTail _ _ (Value.ref _) (Value.int _ _)) _ _ _); (with_reducible rename News _ _ _ _ => N'); (with_unfolding_all refine' own_item N' ?rl ?r0 ?r1 ?rx ?_ ?rs; (case rl => (first | exact .head _ | exact .tail _ (.head _) | exact .tail _ (.tail _ (.head _)))); (case r0 => omega); (case r1 => omega); (case rx => assumption); (case rs => with_unfolding_all rfl))))

local macro_rules | `(tactic| walk_at "call builtin:len") => `(tactic| (k_here; (with_reducible show wpAny _ _ (call (Value.builtin "len") [Value.ref _]) _ _ _); k_dflt (refine' own_len ?N ?m ?z ?_; (case N => k_asm); (case m => k_mem); (case z => omega)); intro _ _))

local macro_rules | `(tactic| walk_at "call ref") => `(tactic| (k_here; (with_reducible show wpAny _ _ (call (Value.ref 67) _) _ _ _); k_dflt (refine' col_call ?zB ?zF ?zX ?zN ?zT ?zK ?zd ?zu ?zr; (case zB => k_asm); (case zF => k_asm); (case zX => k_asm); (case zN => k_asm); (case zT => k_asm); (case zK => exact rfl); (case zd => ktr_room); (case zu => ktr_units); (intro t9 h9 tk9 F9 N9; (try dsimp only); (try k_fold)))))

local macro_rules | `(tactic| walk_at "call builtin:str.join") => `(tactic| (k_here; (with_reducible show wpAny _ _ (call (Value.builtin _) [Value.str _ _, Value.ref _]) _ _ _); k_dflt (refine' join_listW (News.isList (by k_asm) (by k_mem)) ?ji ?js ?jw ?_; (case ji => assumption); (case js => decide +kernel); (case jw => assumption)); intro _ _))

set_option maxHeartbeats 8000000 in
theorem ord_call {l : Addr} {vs : List Value} {nn : Nat} {ps : List (List Nat)} (B : Below A₀ base outer h₀) (F : Fr h₀ L s.heap m) (X : (hd.heap_1 w.params).In h₀) (N : News h₀ L s.heap news) (T : Top vw (looseW vw []) mean mg mb h₀) (hk : cs.kind = .function) (hd : dp + 5 < recursionLimit) (hu : un + 60 < cLine)
    (hl : (l, listOf vs.toArray nn) ∈ news) (hv : StrsAre vs (ps.map mk)) (hn : ps.length ≤ 8) (hsum : (ps.map List.length).sum ≤ 1000)
    (hret : Ret h₀ L m news s Q (fun t => .str (mk (ordF ps).flatten) t)) :
    wpAny (model prog w) (ktrTop dp un gd cn cs L a ccd cl outer) (call (.ref 109) [.ref l]) Q E s := by
  have hvl : vs.length = ps.length := by rw [StrsAre.len_eq hv, List.length_map]
  refine wpAny_call ?_
  k_dflt cell_enter
  k_steps
  · rename_i lt lh1 lt1 lh2 lF lN
    refine' kfor_list (fun c : Addr × List Value × Nat => [(Str.ofString "ordered", .ref c.1)]) (fun c => (c.1, listOf c.2.1.toArray c.2.2) :: news) (fun i c => OrdI ps i c.2.1) ⟨lt, [], 0⟩ rfl (fun _ => .tail _ hl) go_nameL lF lN (fun _ h => h) ?zk ?zp ?zE ?zt ?zd
    case zk => kst_all
    case zp => exact ordI_0 ps
    case zE => with_unfolding_all passes_own
    case zt =>
      clear lF lN
      rintro I i v ⟨lo, us, un'⟩ m h tk o hlt hvi hP hne F' N'
      dsimp only [see] at F' N' hP hne
      have hIo : I ≠ lo := Ne.symm (hne (lo, listOf us.toArray un') (.head _))
      obtain ⟨y, ty, rfl, hy⟩ := StrsAre.item hv i v hvi
      obtain ⟨p, hp, rfl⟩ : ∃ p, ps[i]? = some p ∧ mk p = y := by
        rw [List.getElem?_map] at hy
        cases hq : ps[i]? with
        | none => rw [hq] at hy; cases hy
        | some p => rw [hq] at hy; exact ⟨p, rfl, Option.some.inj hy⟩
      have hul := hP.len
      have hil := (List.getElem?_eq_some_iff.mp hp).1
      refine wpAny_assign_Name ?_
      k_steps
      (rename Fr _ _ _ _ => lF'); (rename News _ _ _ _ => lN')
      refine' kwhileD (fun c : Int × Tok => [(Str.ofString "ordered", .ref lo), (Str.ofString "piece", .str (mk p) ty), (Str.ofString "k", .int c.1 c.2)]) (fun _ => (I, o) :: (lo, listOf us.toArray un') :: news) (fun c => KI ps i p c.1) (fun c => KE ps i p c.1) (fun c => (1000 - c.1).toNat) ⟨_, _⟩ lF' lN' (fun _ h => h) ?wk ?wp ?wE ?wt ?wd
      case wk => kst_all
      case wp => exact ⟨Int.le_refl _, Nat.zero_le _⟩
      case wE => with_unfolding_all passes_own
      case wt =>
        clear lF' lN'
        rintro ⟨k, tk0⟩ m h tk hK F' N'
        dsimp only [see] at F' N' hK
        have hk0 := hK.1
        by_cases hkl : k < us.length
        · obtain ⟨q, tq, hq, hq2⟩ := hK.at hP hkl
          k_steps
          · refine' NextW.intro ⟨_, _⟩ ?zF ?zN ?zm (KI.next hK hq2 (by rename colV _ _ < 0 => hc9; first | exact hc9 | simpa [colV] using hc9)) (fun _ h => h) ?zk
            case zF => assumption
            case zN => assumption
            case zk => kst_all
            case zm => (dsimp only; omega)
          · refine' ExitW.intro ⟨_, _⟩ ?zF ?zN (KI.stop hK hq2 (by rename ¬ colV _ _ < 0 => hc9; first | exact hc9 | simpa [colV] using hc9)) (fun _ h => h) ?zk
            case zF => assumption
            case zN => assumption
            case zk => kst_all
        · k_steps
          refine' ExitW.intro ⟨_, _⟩ ?zF ?zN (KI.end hP hK hkl) (fun _ h => h) ?zk
          case zF => assumption
          case zN => assumption
          case zk => kst_all
      case wd =>
        clear lF' lN'
        rintro ⟨k, tk0⟩ m h tk hK F' N'
        dsimp only [see] at F' N' hK
        have hk0 := hK.1
        have hkl := hK.le
        k_steps
        (rename News _ _ _ _ => nN); (rename _ ∧ _ => l1')
        generalize hu9 : us.take k.toNat ++ [Value.str (mk p) ty] ++ us.drop k.toNat = us9 at nN
        refine' NextF.intro ⟨_, us9, 0⟩ ?xF ?xN ?xp ?xne ?xn ?xk
        case xF => assumption
        case xN => exact nN
        case xk => kst_all
        case xn => (intro p9 hp9; rcases List.mem_cons.mp hp9 with rfl | hp9; exact .tail _ (.tail _ (.tail _ (.tail _ (.tail _ (.head _))))); rcases List.mem_cons.mp hp9 with rfl | hp9; exact .head _; exact .tail _ (.tail _ (.tail _ (.tail _ (.tail _ (.tail _ (.tail _ hp9)))))))
        case xne =>
          intro p9 hp9
          rcases List.mem_cons.mp hp9 with rfl | hp9
          · exact neN (by omega)
          · exact hne p9 (.tail _ hp9)
        case xp => rw [← hu9]; exact ordI_next hP hp hK
    case zd =>
      clear lF lN
      rintro ⟨lo, us, un'⟩ m h tk hP F' N'
      dsimp only [see] at F' N' hP
      rw [hvl] at hP
      have hS : StrsAre us ((ordF ps).map mk) := by have := hP.2; rwa [List.take_length] at this
      have hW := ord_weight hn hsum
      k_steps
      · (rename News h₀ _ _ _ => nN)
        exact retS hret (join_mk _) (by assumption) (fun p hp => nN p (.tail _ hp))

end
end
-- part WLev
theorem restWLev {M : Model} {A : Around} {env : Env} {Q : Flow → Shared → Prop} {E : Value → Shared → Prop} {s : Shared} (h : wpAny M A (execs [] env) Q E s) : wpAny M A (execs [] env) Q E s := by w_top off; first | (walk1; fail) | exact h
section
section
variable {w : World} {mean : ExcName → Option Value} {mg mb : Str → Option Value} {dp un : Nat} {gd : Option (List Code)} {cn : Str} {cs : Scope} {a : Addr} {ccd : Value} {cl : List (Str × Addr)} {outer : List Env} {A₀ : Around} {base h₀ : Heap} {L : Addr} {m : Str → Option Value} {s : Shared} {Q : Value → Shared → Prop} {E : Value → Shared → Prop} {news : List (Addr × Obj)}

local macro_rules | `(tactic| walk_at "subscriptTail") => `(tactic| ((with_reducible show wpAny _ _ (subscriptTail _ _ (Value.ref _) (Value.int _ _)) _ _ _); (with_reducible rename News _ _ _ _ => N'); (with_unfolding_all refine' own_item N' ?rl ?r0 ?r1 ?rx ?_ ?rs; (case rl => (first | exact .head _ | exact .tail _ (.head _) | exact .tail _ (.tail _ (.head _)))); (case r0 => omega); (case r1 => omega); (case rx => assumption); (case rs => with_unfolding_all rfl))))
local macro_rules | `(tactic| walk_at "setItem ref int") => `(tactic| (k_dflt (refine' own_set ?wF ?wN ?wa ?wb ?wc ?wU ?_; (case wF => k_asm); (case wN => k_asm); (case wU => k_upd); (case wa => omega); (case wb => omega); (case wc => omega)); intro _ _ _))

local macro_rules | `(tactic| walk_at "subscriptTail Name Slice str ref") => `(tactic| ((with_reducible show wpAny _ _ (subscriptTail _ (Expr.Slice none (some _) none _) _ _) _ _ _); (with_reducible rename Fr _ _ _ _ => F'); (with_reducible rename News _ _ _ _ => N'); refine slice_strN_nn_len (s := ⟨_, _, _, _, _⟩) F' N' ?_; intro _ _ _ _ _ _))
local macro_rules | `(tactic| walk_at "call ref") => `(tactic| (k_here; (with_reducible show wpAny _ _ (call (Value.ref 21) _) _ _ _); k_dflt (refine' sub_call ?zB ?zF ?zX ?zN ?zT ?zK ?zd ?zu ?zx ?zy ?zr; (case zB => k_asm); (case zF => k_asm); (case zX => k_asm); (case zN => k_asm); (case zT => k_asm); (case zK => exact rfl); (case zd => ktr_room); (case zu => ktr_units); (case zx => omega); (case zy => omega); (intro t9 h9 tk9 F9 N9; (try dsimp only); (try k_fold)))))

set_option maxHeartbeats 4000000 in
theorem cutev_a {heap : Heap} {gens : Array GenState} {drawn : Drawn} {toks : Nat} {os : OsState} {A : Around} {l : List Nat} {post : Int} {t tp : Tok} {pa pp pn pb ps px : Pos} (F : Fr h₀ L heap m) (N : News h₀ L heap news) (hl : l.length ≤ 40) (h0 : post ≤ 0) (h1 : 0 ≤ (l.length : Int) + post)
    (hk : ∀ p ∈ [(Str.ofString "a", Value.str (mk l) t), (Str.ofString "post", Value.int post tp)], m p.1 = some p.2)
    (hq : ∀ t' h' k, Fr h₀ L h' m → News h₀ L h' news → Q (.str (mk (l.take ((l.length : Int) + post).toNat)) t') ⟨h', gens, drawn, k, os⟩) :
    wpAny (model prog w) A (eval (Expr.Subscript (Expr.Name (Str.ofString "a") pa) (Expr.Slice none (some (Expr.BoolOp BoolOp.Or [Expr.Name (Str.ofString "post") pp, Expr.Constant Const.none 0 pn] pb)) none ps) px) (envOf (Str.ofString "_levenshtein_distance") { kind := ScopeKind.function, names := [(Str.ofString "a", NameKind.local), (Str.ofString "b", NameKind.local), (Str.ofString "max_cost", NameKind.local), (Str.ofString "pre", NameKind.local), (Str.ofString "post", NameKind.local), (Str.ofString "row", NameKind.local), (Str.ofString "result", NameKind.local), (Str.ofString "bindex", NameKind.local), (Str.ofString "bchar", NameKind.local), (Str.ofString "distance", NameKind.local), (Str.ofString "minimum", NameKind.local), (Str.ofString "index", NameKind.local), (Str.ofString "substitute", NameKind.local), (Str.ofString "insert_delete", NameKind.local), (Str.ofString "_MOVE_COST", NameKind.globalImplicit), (Str.ofString "len", NameKind.globalImplicit), (Str.ofString "_MAX_STRING_SIZE", NameKind.globalImplicit), (Str.ofString "list", NameKind.globalImplicit), (Str.ofString "range", NameKind.globalImplicit), (Str.ofString "_substitution_cost", NameKind.globalImplicit), (Str.ofString "min", NameKind.globalImplicit)], isGenerator := false, isCoroutine := false } L 28 (Value.ref 27))) Q E ⟨heap, gens, drawn, toks, os⟩ := by
  have hll : (mk l).length = l.length := mk_len l
  have e0 : post = 0 → Txt.slice (mk l) none none = mk (l.take ((l.length : Int) + post).toNat) := fun h => by rw [sl_all, List.take_of_length_le (by omega)]
  have e1 : post ≠ 0 → Txt.slice (mk l) none (some post) = mk (l.take ((l.length : Int) + post).toNat) := fun h => by rw [sl_neg_mk (by omega) h1]
  have F' := fr_see F hk
  have hq' : ∀ t' h' k, Fr h₀ L h' (see m [(Str.ofString "a", Value.str (mk l) t), (Str.ofString "post", Value.int post tp)]) → News h₀ L h' news → Q (.str (mk (l.take ((l.length : Int) + post).toNat)) t') ⟨h', gens, drawn, k, os⟩ := fun t' h' k f => hq t' h' k (by rw [see_eq hk] at f; exact f)
  dsimp only [see] at F' hq'
  clear hq
  clear F hk
  k_steps
  · rw [← e1 (by assumption)] at hq'; exact hq' _ _ _ (by assumption) (by assumption)
  · rw [← e0 (by assumption)] at hq'; exact hq' _ _ _ (by assumption) (by assumption)

set_option maxHeartbeats 4000000 in
theorem cutev_b {heap : Heap} {gens : Array GenState} {drawn : Drawn} {toks : Nat} {os : OsState} {A : Around} {l : List Nat} {post : Int} {t tp : Tok} {pa pp pn pb ps px : Pos} (F : Fr h₀ L heap m) (N : News h₀ L heap news) (hl : l.length ≤ 40) (h0 : post ≤ 0) (h1 : 0 ≤ (l.length : Int) + post)
    (hk : ∀ p ∈ [(Str.ofString "b", Value.str (mk l) t), (Str.ofString "post", Value.int post tp)], m p.1 = some p.2)
    (hq : ∀ t' h' k, Fr h₀ L h' m → News h₀ L h' news → Q (.str (mk (l.take ((l.length : Int) + post).toNat)) t') ⟨h', gens, drawn, k, os⟩) :
    wpAny (model prog w) A (eval (Expr.Subscript (Expr.Name (Str.ofString "b") pa) (Expr.Slice none (some (Expr.BoolOp BoolOp.Or [Expr.Name (Str.ofString "post") pp, Expr.Constant Const.none 0 pn] pb)) none ps) px) (envOf (Str.ofString "_levenshtein_distance") { kind := ScopeKind.function, names := [(Str.ofString "a", NameKind.local), (Str.ofString "b", NameKind.local), (Str.ofString "max_cost", NameKind.local), (Str.ofString "pre", NameKind.local), (Str.ofString "post", NameKind.local), (Str.ofString "row", NameKind.local), (Str.ofString "result", NameKind.local), (Str.ofString "bindex", NameKind.local), (Str.ofString "bchar", NameKind.local), (Str.ofString "distance", NameKind.local), (Str.ofString "minimum", NameKind.local), (Str.ofString "index", NameKind.local), (Str.ofString "substitute", NameKind.local), (Str.ofString "insert_delete", NameKind.local), (Str.ofString "_MOVE_COST", NameKind.globalImplicit), (Str.ofString "len", NameKind.globalImplicit), (Str.ofString "_MAX_STRING_SIZE", NameKind.globalImplicit), (Str.ofString "list", NameKind.globalImplicit), (Str.ofString "range", NameKind.globalImplicit), (Str.ofString "_substitution_cost", NameKind.globalImplicit), (Str.ofString "min", NameKind.globalImplicit)], isGenerator := false, isCoroutine := false } L 28 (Value.ref 27))) Q E ⟨heap, gens, drawn, toks, os⟩ := by
  have hll : (mk l).length = l.length := mk_len l
  have e0 : post = 0 → Txt.slice (mk l) none none = mk (l.take ((l.length : Int) + post).toNat) := fun h => by rw [sl_all, List.take_of_length_le (by omega)]
  have e1 : post ≠ 0 → Txt.slice (mk l) none (some post) = mk (l.take ((l.length : Int) + post).toNat) := fun h => by rw [sl_neg_mk (by omega) h1]
  have F' := fr_see F hk
  have hq' : ∀ t' h' k, Fr h₀ L h' (see m [(Str.ofString "b", Value.str (mk l) t), (Str.ofString "post", Value.int post tp)]) → News h₀ L h' news → Q (.str (mk (l.take ((l.length : Int) + post).toNat)) t') ⟨h', gens, drawn, k, os⟩ := fun t' h' k f => hq t' h' k (by rw [see_eq hk] at f; exact f)
  dsimp only [see] at F' hq'
  clear hq
  clear F hk
  k_steps
  · rw [← e1 (by assumption)] at hq'; exact hq' _ _ _ (by assumption) (by assumption)
  · rw [← e0 (by assumption)] at hq'; exact hq' _ _ _ (by assumption) (by assumption)

noncomputable def KCut (w : World) (A : Around) (e : PySem.Expr) (env : Env) (Q : Value → Shared → Prop) (E : Value → Shared → Prop) (s : Shared) : Prop := wpAny (model prog w) A (eval e env) Q E s
theorem kcut_start {w : World} {A : Around} {e : PySem.Expr} {env : Env} {Q : Value → Shared → Prop} {E : Value → Shared → Prop} {s : Shared} (h : KCut w A e env Q E s) : wpAny (model prog w) A (eval e env) Q E s := h
local macro_rules | `(tactic| walk_at "eval Subscript") => `(tactic| ((with_reducible show wpAny _ _ (eval (Expr.Subscript (Expr.Name _ _) (Expr.Slice none (some (Expr.BoolOp _ _ _)) _ _) _) _) _ _ _); refine kcut_start ?_))

theorem tk_len {l : List Nat} {p : Int} (h1 : p ≤ 0) (h2 : 0 ≤ (l.length : Int) + p) : (l.take ((l.length : Int) + p).toNat).length = ((l.length : Int) + p).toNat := by
  rw [List.length_take]; omega
set_option maxHeartbeats 100000000 in
theorem lev_call {x y : List Nat} {tx ty tm : Tok} {mx : Int} (B : Below A₀ base outer h₀) (F : Fr h₀ L s.heap m) (X : (hd.heap_1 w.params).In h₀) (N : News h₀ L s.heap news) (T : Top vw (looseW vw []) mean mg mb h₀) (hk : cs.kind = .function) (hd : dp + 3 < recursionLimit) (hu : un + 40 < cLine) (hx : x.length ≤ 40) (hxy : x.length = y.length) (hm : 0 ≤ mx) (hm2 : mx ≤ 1000)
    (hret : ∀ r, LevRes x y mx r → Ret h₀ L m news s Q (fun t => .int r t)) :
    wpAny (model prog w) (ktrTop dp un gd cn cs L a ccd cl outer) (call (.ref 28) [.str (mk x) tx, .str (mk y) ty, .int mx tm]) Q E s := by
  have hxl : (mk x).length = x.length := mk_len x
  have hyl : (mk y).length = x.length := by rw [mk_len, hxy]
  refine wpAny_call ?_
  k_dflt cell_enter
  k_steps
  · have hq : (mk x == mk y) = true := by assumption
    have hxy' : x = y := mk_inj (beq_iff_eq.mp hq)
    exact hret 0 (levRes_eq (by rw [hxy', D_self]; rfl)) _ _ _ (by assumption) (by assumption)
  · (rename Fr _ _ _ _ => lF'); (rename News _ _ _ _ => lN')
    refine' kwhileD (fun c : Int × Tok => [(Str.ofString "a", .str (mk x) tx), (Str.ofString "b", .str (mk y) ty), (Str.ofString "max_cost", .int mx tm), (Str.ofString "pre", .int c.1 c.2)]) (fun _ => news) (fun c => PreI x y c.1) (fun c => PreI x y c.1) (fun c => (1000 - c.1).toNat) ⟨_, _⟩ lF' lN' (fun _ h => h) ?zk ?zp ?zE ?zt ?zd
    case zk => kst_all
    case zp => exact ⟨Int.le_refl _, Int.natCast_nonneg _, rfl⟩
    case zE => with_unfolding_all passes_own
    case zt =>
      clear lF' lN'
      rintro ⟨pre, tp⟩ m h tk hP F' N'
      dsimp only [see] at F' N' hP
      have hb1 := hP.1
      have hb2 := hP.2.1
      have hs1 : (Txt.slice (mk x) (some pre) none).length = x.length - pre.toNat := by rw [sl_from hb1, mk_len, List.length_drop]
      have hs2 : (Txt.slice (mk y) (some pre) none).length = x.length - pre.toNat := by rw [sl_from hb1, mk_len, List.length_drop, hxy]
      k_steps
      · refine' NextW.intro ⟨_, _⟩ ?zF ?zN ?zm ?zp (fun _ h => h) ?zk
        case zF => assumption
        case zN => assumption
        case zk => kst_all
        case zp => exact preI_next hxy hP (by omega) (by assumption)
        case zm => dsimp only; omega
      all_goals (refine' ExitW.intro ⟨_, _⟩ ?zF ?zN hP (fun _ h => h) ?zk; (case zF => assumption); (case zN => assumption); (case zk => kst_all))
    case zd =>
      clear lF' lN'
      rintro ⟨pre, tp⟩ m h tk hP F' N'
      dsimp only [see] at F' N' hP
      have hb1 := hP.1
      have hb2 := hP.2.1
      k_steps
      (rename Fr _ _ _ _ => lF'); (rename News _ _ _ _ => lN')
      rw [sl_from_mk hb1, sl_from_mk hb1] at lF'
      obtain ⟨a1, ha1⟩ : ∃ a1, x.drop pre.toNat = a1 := ⟨_, rfl⟩
      obtain ⟨b1, hb1'⟩ : ∃ b1, y.drop pre.toNat = b1 := ⟨_, rfl⟩
      rw [ha1, hb1'] at lF'
      have hD1 : D a1 b1 = D x y := by rw [← ha1, ← hb1']; exact preI_D hP
      have hl1 : a1.length ≤ 40 := by rw [← ha1, List.length_drop]; omega
      have hl2 : a1.length = b1.length := by rw [← ha1, ← hb1', List.length_drop, List.length_drop, hxy]
      have hal : (mk a1).length = a1.length := mk_len a1
      have hbl : (mk b1).length = a1.length := by rw [mk_len, hl2]
      refine' kwhileD (fun c : (Int × Tok) × Tok × Tok => [(Str.ofString "a", .str (mk a1) c.2.1), (Str.ofString "b", .str (mk b1) c.2.2), (Str.ofString "max_cost", .int mx tm), (Str.ofString "post", .int c.1.1 c.1.2)]) (fun _ => news) (fun c => PostI a1 b1 c.1.1) (fun c => PostI a1 b1 c.1.1) (fun c => (1000 + c.1.1).toNat) ⟨⟨_, _⟩, _, _⟩ lF' lN' (fun _ h => h) ?zk ?zp ?zE ?zt ?zd
      case zk => kst_all
      case zp => exact ⟨Int.le_refl _, by simp, by simp [hl2]⟩
      case zE => with_unfolding_all passes_own
      case zt =>
        clear lF' lN'
        rintro ⟨⟨post, tp⟩, ta, tb⟩ m h tk hP F' N'
        dsimp only [see] at F' N' hP ⊢
        have hc1 := hP.1
        have hc2 := hP.2.1
        have hs1 : (mk (a1.take ((a1.length : Int) + post).toNat)).length = ((a1.length : Int) + post).toNat := by rw [mk_len, tk_len hc1 hc2]
        have hs2 : (mk (b1.take ((b1.length : Int) + post).toNat)).length = ((a1.length : Int) + post).toNat := by rw [mk_len, hl2, tk_len hc1 (by rw [← hl2]; exact hc2)]
        k_steps
        (show wpAny _ _ (eval _ _) _ _ _); (rename Fr _ _ _ _ => lF'); (rename News _ _ _ _ => lN'); refine' cutev_a lF' lN' ?u1zl ?u1z0 ?u1z1 ?u1zk ?u1zq; (case u1zk => kst_all); (case u1zl => omega); (case u1z0 => omega); (case u1z1 => omega); clear lF' lN'; intro _ _ _ _ _
        k_steps
        (show wpAny _ _ (eval _ _) _ _ _); (rename Fr _ _ _ _ => lF'); (rename News _ _ _ _ => lN'); refine' cutev_b lF' lN' ?u2zl ?u2z0 ?u2z1 ?u2zk ?u2zq; (case u2zk => kst_all); (case u2zl => omega); (case u2z0 => omega); (case u2z1 => omega); clear lF' lN'; intro _ _ _ _ _
        k_steps
        all_goals first
          | omega
          | (refine' ExitW.intro ⟨⟨_, _⟩, _, _⟩ ?zF ?zN hP (fun _ h => h) ?zk; (case zF => assumption); (case zN => assumption); (case zk => kst_all))
          | (refine' NextW.intro ⟨⟨_, _⟩, _, _⟩ ?zF ?zN ?zm (postI_next hl2 hP (by omega) (by assumption)) (fun _ h => h) ?zk; (case zF => assumption); (case zN => assumption); (case zk => kst_all); (case zm => (dsimp only; omega)))
      case zd =>
        clear lF' lN'
        rintro ⟨⟨post, tp⟩, ta, tb⟩ m h tk hP F' N'
        dsimp only [see] at F' N' hP ⊢
        have hc1 := hP.1
        have hc2 := hP.2.1
        have hD2 := postI_D hP
        obtain ⟨a2, ha2⟩ : ∃ a2, a1.take ((a1.length : Int) + post).toNat = a2 := ⟨_, rfl⟩
        obtain ⟨b2, hb2⟩ : ∃ b2, b1.take ((b1.length : Int) + post).toNat = b2 := ⟨_, rfl⟩
        rw [ha2, show (a1.length : Int) = b1.length by rw [hl2], hb2] at hD2
        have hlz : a2.length = ((a1.length : Int) + post).toNat := by rw [← ha2, tk_len hP.1 hc2]
        have hl3 : a2.length = b2.length := by rw [hlz, ← hb2, hl2, tk_len hP.1 (by rw [← hl2]; exact hc2)]
        have hal2 : (mk (a1.take ((a1.length : Int) + post).toNat)).length = a2.length := by rw [ha2, mk_len]
        have hbl2 : (mk (b1.take ((b1.length : Int) + post).toNat)).length = a2.length := by rw [hb2, mk_len, hl3]
        k_steps
        (show wpAny _ _ (eval _ _) _ _ _); (rename Fr _ _ _ _ => lF'); (rename News _ _ _ _ => lN'); refine' cutev_a lF' lN' ?u3zl ?u3z0 ?u3z1 ?u3zk ?u3zq; (case u3zk => kst_all); (case u3zl => omega); (case u3z0 => omega); (case u3z1 => omega); clear lF' lN'; intro _ _ _ _ _
        k_steps
        (show wpAny _ _ (eval _ _) _ _ _); (rename Fr _ _ _ _ => lF'); (rename News _ _ _ _ => lN'); refine' cutev_b lF' lN' ?u4zl ?u4z0 ?u4z1 ?u4zk ?u4zq; (case u4zk => kst_all); (case u4zl => omega); (case u4z0 => omega); (case u4z1 => omega); clear lF' lN'; intro _ _ _ _ _
        k_steps
        · (rename IsRange _ _ _ _ _ _ _ _ => rR); (rename Fr _ _ _ _ => lF'); (rename News _ _ _ _ => lN')
          have hne : a2.length ≠ 0 := by omega
          rw [hal2] at rR
          rw [ha2, hb2] at lF'
          have hA0 : 0 < a2.length := by omega
          have hA1 : a2.length ≤ 40 := by omega
          have hal3 : (mk a2).length = a2.length := mk_len a2
          have hbl3 : (mk b2).length = a2.length := by rw [mk_len, hl3]
          (try clear hlz); (try clear hal2); (try clear hbl2); (try clear hal); (try clear hbl); (try clear hl1); (try clear hl2); (try clear hc1); (try clear hc2)
          refine' own_range (n := a2.length) rfl lF' lN' rR ?zs ?zn ?zz ?zh
          case zs => exact two_small (by omega) (by omega)
          case zn => exact two_size _
          case zz => omega
          clear rR lF' lN'
          intro lt us0 nn0 h tk F' N' hlt hlen hval
          k_steps
          (rename IsRange _ _ _ _ _ _ _ _ => rR); (rename Fr _ _ _ _ => lF'); (rename News _ _ _ _ => lN')
          have hoff : ∀ p ∈ news, p.1 ≠ lt := fun p hp => Nat.ne_of_lt (hlt p hp)
          refine' kfor_range (n := a2.length) (fun c : (List Value × Nat) × (Int × Tok) × Tok × Tok => [(Str.ofString "a", .str (mk a2) c.2.2.1), (Str.ofString "b", .str (mk b2) c.2.2.2), (Str.ofString "max_cost", .int mx tm), (Str.ofString "row", .ref lt), (Str.ofString "result", .int c.2.1.1 c.2.1.2)]) (fun c => (lt, listOf c.1.1.toArray c.1.2) :: news) (fun i c => OutI a2 b2 i c.1.1 c.2.1.1) ⟨⟨us0, nn0⟩, ⟨_, _⟩, _, _⟩ rfl rR ?ozs ?ozr go_name lF' lN' (fun _ h => h) ?ozk ?ozp ?ozE ?ozt ?ozd
          case ozs => exact small_one (by omega) (by omega) (by omega) (by omega)
          case ozr => rw [hbl3, rangeSize_nat]; omega
          case ozk => kst_all
          case ozp => exact ⟨rowV_0 hlen hval, fun h => absurd rfl h⟩
          case ozE => with_unfolding_all passes_own
          case ozt =>
            clear rR lF' lN'
            rintro I i t ⟨⟨us, un'⟩, ⟨r, tr⟩, ta, tb'⟩ m h tk o hlt' hi hP hne F' N'
            dsimp only [see] at F' N' hP hne ⊢
            have hIl : I ≠ lt := Ne.symm (hne (lt, listOf us.toArray un') (.head _))
            refine wpAny_assign_Name ?_
            k_steps
            (rename IsRange _ _ _ _ _ _ _ _ => rR); (rename Fr _ _ _ _ => lF'); (rename News _ _ _ _ => lN')
            refine' kfor_range (n := a2.length) (fun c : (List Value × Nat) × (Int × Tok) × (Int × Tok) × (Int × Tok) × Tok × Tok × Tok => [(Str.ofString "a", .str (mk a2) c.2.2.2.2.1), (Str.ofString "b", .str (mk b2) c.2.2.2.2.2.1), (Str.ofString "max_cost", .int mx tm), (Str.ofString "row", .ref lt), (Str.ofString "bchar", .str (Txt.item (mk b2) (0 + (i : Int))) c.2.2.2.2.2.2), (Str.ofString "distance", .int c.2.1.1 c.2.1.2), (Str.ofString "result", .int c.2.2.1.1 c.2.2.1.2), (Str.ofString "minimum", .int c.2.2.2.1.1 c.2.2.2.1.2)]) (fun c => (I, o) :: (lt, listOf c.1.1.toArray c.1.2) :: news) (fun j c => InI a2 b2 i j c.1.1 c.2.1.1 c.2.2.1.1 c.2.2.2.1.1) ⟨⟨us, un'⟩, ⟨_, _⟩, ⟨_, _⟩, ⟨_, _⟩, _, _, _⟩ rfl rR ?izs ?izr go_name lF' lN' (fun _ h => h) ?izk ?izp ?izE ?izt ?izd
            case izs => exact small_one (by omega) (by omega) (by omega) (by omega)
            case izr => rw [hal3, rangeSize_nat]; omega
            case izk => kst_all
            case izp => exact inI_0 hP (by omega) (by dsimp only; omega)
            case izE => with_unfolding_all passes_own
            case izt =>
              clear rR lF' lN'
              rintro I2 j t2 ⟨⟨us2, un2⟩, ⟨d2, td2⟩, ⟨r2, tr2⟩, ⟨m2, tm2⟩, ta2, tb2, tc2⟩ m h tk o2 hlt2 hj hP2 hne2 F' N'
              dsimp only [see] at F' N' hP2 hne2 ⊢
              have hI2 : I2 ≠ I := Ne.symm (hne2 (I, o) (.head _))
              have hI2l : I2 ≠ lt := Ne.symm (hne2 (lt, listOf us2.toArray un2) (.tail _ (.head _)))
              obtain ⟨tq, hq0⟩ := hP2.1.get hj
              have ej : (0 + (j : Int)).toNat = j := by omega
              have hq : us2[(0 + (j : Int)).toNat]? = some (.int (Mine.tb a2 b2 i (j + 1)) tq) := by rw [ej]; exact hq0
              have hul : us2.length = a2.length := hP2.1.1
              have hsub := sub_items (A := a2) (B := b2) (i := i) (j := j) (by omega) hj
              refine wpAny_assign_Name ?_
              k_steps
              all_goals ((rename News _ _ _ _ => nN); rw [ej] at nN; generalize hu9 : us2.set j _ = us9 at nN; refine' NextF.intro ⟨⟨us9, un2⟩, ⟨_, _⟩, ⟨_, _⟩, ⟨_, _⟩, _, _, _⟩ ?zF ?zN ?zp ?zne ?zn ?zk; (case zF => assumption); (case zN => exact nN); (case zn => exact fun _ h => h); (case zk => kst_all); (case zne => (intro p hp; rcases List.mem_cons.mp hp with rfl | hp; exact Ne.symm hI2; rcases List.mem_cons.mp hp with rfl | hp; exact Ne.symm hI2l; exact hne2 p (.tail _ (.tail _ hp)))); (case zp => (dsimp only; rw [← hu9]; refine inI_next hP2 (by omega) hj hsub rfl (by simp only [ite_min]) (by first | exact Int.le_refl _ | exact Int.le_of_lt (by assumption)) (by first | exact Int.le_refl _ | exact Int.not_lt.mp (by assumption)))))
            case izd =>
              clear rR lF' lN'
              rintro ⟨⟨us2, un2⟩, ⟨d2, td2⟩, ⟨r2, tr2⟩, ⟨m2, tm2⟩, ta2, tb2, tc2⟩ m h tk hP2 F' N'
              dsimp only [see] at F' N' hP2 ⊢
              k_steps
              · (rename News h₀ _ _ _ => nN)
                exact hret _ (levRes_far (by rw [← hD1, ← hD2]; exact inI_far hA0 (by omega) hP2 (by assumption))) _ _ _ (by assumption) (fun p hp => nN p (.tail _ (.tail _ hp)))
              · refine' NextF.intro ⟨⟨us2, un2⟩, ⟨_, _⟩, _, _⟩ ?zF ?zN ?zp ?zne ?zn ?zk
                case zF => assumption
                case zN => assumption
                case zn => exact fun _ h => h
                case zk => kst_all
                case zne =>
                  intro p hp
                  rcases List.mem_cons.mp hp with rfl | hp
                  · exact Ne.symm hIl
                  · exact hne p (.tail _ hp)
                case zp => exact inI_end hA0 hP2
          case ozd =>
            clear rR lF' lN'
            rintro ⟨⟨us, un'⟩, ⟨r, tr⟩, ta, tb'⟩ m h tk hP F' N'
            dsimp only [see] at F' N' hP ⊢
            k_steps
            · (rename News h₀ _ _ _ => nN)
              exact hret _ (levRes_eq (by rw [← hD1, ← hD2]; exact outI_end hA0 hl3 (by rw [← hl3]; exact hP))) _ _ _ (by assumption) (fun p hp => nN p (.tail _ hp))
        all_goals (exact hret _ (levRes_eq (by rw [← hD1, ← hD2, lev_zero hl3 (by omega), hal2, hbl2]; omega)) _ _ _ (by assumption) (by assumption))

end
end
-- part PFinD
section
/-- all that the sizes tell -/
noncomputable def tl (e l kd : Int) : List Int := if kd = 1 then [e, l, l, l, l, l, l, l, l, l, l, l] else if kd = 3 then [e, l, 2] else [e, l]
noncomputable def spc (e l kd : Int) (n : Nat) : Option Int := (tl e l kd)[12 - n]?
noncomputable def endsF (kd : Int) : List Int := if kd = 0 then [] else if kd = 1 then [0, 1] else if kd = 2 then [127, 1] else [2]
noncomputable def toldF (e l kd : Int) : List Int := [e, l] ++ if kd = 0 then [] else if kd = 1 then [l, l, l, l, l, l, l] else if kd = 2 then [] else [2]
theorem three {e : Int} (h : 1 ≤ e ∧ e ≤ 3) : e = 1 ∨ e = 2 ∨ e = 3 := by omega
theorem four {e : Int} (h : 0 ≤ e ∧ e ≤ 3) : e = 0 ∨ e = 1 ∨ e = 2 ∨ e = 3 := by omega
theorem mf_step {spec : Nat → Option Int} {n : Nat} {r : Int} {rest : List Int} {last : Option Int} (h1 : r ≠ 127) (h2 : r ≠ 0) (h3 : spec (n + 1) = some r) (h4 : MatchFor spec n rest (some r)) : MatchFor spec (n + 1) (r :: rest) last := by
  unfold MatchFor; rw [if_neg h1, if_neg h2]; exact ⟨h3, h4⟩
theorem mf_stop {spec : Nat → Option Int} {n : Nat} {rest : List Int} {last : Option Int} (h : spec (n + 1) = none) : MatchFor spec (n + 1) (127 :: rest) last := by
  unfold MatchFor; exact h
theorem mf_more {spec : Nat → Option Int} {n : Nat} {v : Int} {rest : List Int} (h : ∀ j, 1 ≤ j → j ≤ n + 1 → spec j = some v) : MatchFor spec (n + 1) (0 :: rest) (some v) := by
  unfold MatchFor; exact ⟨v, rfl, h⟩
theorem one_tab (e l : Int) : (List.range 10).map (fun j => spc e l 1 (j + 1)) = (List.range 10).map fun _ => some l := by kernel_rfl
theorem told_a {n k : Nat} (h2 : n = min n k) (h3 : n = 9 ∨ k ≤ n) (hk : k < 9) : n = k := by omega
theorem told_b {n : Nat} (h2 : n = min n 12) (h3 : n = 9 ∨ 12 ≤ n) (h9 : n ≤ 9) : n = 9 := by omega
section
variable {e l kd : Int}
theorem spc_match (he : 1 ≤ e ∧ e ≤ 3) (hl : 1 ≤ l ∧ l ≤ 3) (hk : 0 ≤ kd ∧ kd ≤ 3) : MatchFor (spc e l kd) 12 ([e, l] ++ endsF kd) none := by
  have e1 : e ≠ 127 := Int.ne_of_lt (Int.lt_of_le_of_lt he.2 (by decide))
  have e2 : e ≠ 0 := (Int.ne_of_lt (Int.lt_of_lt_of_le (by decide : (0 : Int) < 1) he.1)).symm
  have l1 : l ≠ 127 := Int.ne_of_lt (Int.lt_of_le_of_lt hl.2 (by decide))
  have l2 : l ≠ 0 := (Int.ne_of_lt (Int.lt_of_lt_of_le (by decide : (0 : Int) < 1) hl.1)).symm
  rcases four hk with rfl | rfl | rfl | rfl
  · exact mf_step e1 e2 rfl (mf_step l1 l2 rfl rfl)
  · refine mf_step e1 e2 rfl (mf_step l1 l2 rfl (mf_more fun j h1 h2 => ?_))
    obtain ⟨i, rfl⟩ := Nat.exists_eq_add_of_le' h1
    exact List.map_inj_left.mp (one_tab e l) i (List.mem_range.mpr h2)
  · exact mf_step e1 e2 rfl (mf_step l1 l2 rfl (mf_stop rfl))
  · exact mf_step e1 e2 rfl (mf_step l1 l2 rfl (mf_step (by decide) (by decide) rfl rfl))
theorem spc_pos (he : 1 ≤ e ∧ e ≤ 3) (hl : 1 ≤ l ∧ l ≤ 3) : ∀ n i, spc e l kd n = some i → 1 ≤ i ∧ i ≤ 1000 := by
  intro n i h
  have hm := List.mem_of_getElem? h
  have key : ∀ i ∈ tl e l kd, 1 ≤ i ∧ i ≤ 3 := by
    intro i hi
    unfold tl at hi
    split at hi
    · simp at hi; omega
    · split at hi
      · simp at hi; omega
      · simp at hi; omega
  have := key i hm
  omega
theorem pulled_take {is : List Int} (h : ∀ j, j < is.length → spc e l kd (12 - j) = is[j]?) (h12 : is.length ≤ 12) : is = (tl e l kd).take is.length := by
  apply List.ext_getElem?
  intro j
  by_cases hj : j < is.length
  · rw [List.getElem?_take, if_pos hj, ← h j hj]
    unfold spc
    rw [show 12 - (12 - j) = j by omega]
  · rw [List.getElem?_take, if_neg hj, List.getElem?_eq_none (by omega)]
theorem tl_len : (tl e l kd).length ≤ 12 := by unfold tl; split <;> (try split) <;> simp
theorem told_is {is : List Int} (h : ∀ j, j < is.length → spc e l kd (12 - j) = is[j]?) (h9 : is.length ≤ 9) (hs : is.length = 9 ∨ spc e l kd (12 - is.length) = none) : is = toldF e l kd ∨ ¬ (0 ≤ kd ∧ kd ≤ 3) := by
  by_cases hk : 0 ≤ kd ∧ kd ≤ 3
  · refine .inl ?_
    have e1 := pulled_take h (by omega)
    have e2 : is.length = min is.length (tl e l kd).length := by
      have := congrArg List.length e1
      rwa [List.length_take] at this
    have e3 : is.length = 9 ∨ (tl e l kd).length ≤ is.length := by
      rcases hs with q | q
      · exact .inl q
      · refine .inr ?_
        unfold spc at q
        rw [show 12 - (12 - is.length) = is.length by omega] at q
        exact List.getElem?_eq_none_iff.mp q
    rcases four hk with rfl | rfl | rfl | rfl
    · rw [e1, told_a e2 e3 (Nat.le_of_ble_eq_true rfl)]; rfl
    · rw [e1, told_b e2 e3 h9]; rfl
    · rw [e1, told_a e2 e3 (Nat.le_of_ble_eq_true rfl)]; rfl
    · rw [e1, told_a e2 e3 (Nat.le_of_ble_eq_true rfl)]; rfl
  · exact .inr hk
end
/-- the groups -/
noncomputable def pcF (x : List Nat) (e l kd : Int) : List (List Nat) := (pcRun x e l kd 6).1 ++ [(pcRun x e l kd 6).2]
theorem six : ∀ {x : List Nat}, x.length = 6 → ∃ a b c d f g, x = [a, b, c, d, f, g]
  | a :: b :: c :: d :: f :: g :: r, h => ⟨a, b, c, d, f, g, by rw [List.length_eq_zero_iff.mp (Nat.add_right_cancel (m := 6) (k := 0) h : r.length = 0)]⟩
noncomputable def tab3 : List (Int × Int × Int) := [1, 2, 3].flatMap fun e => [1, 2, 3].flatMap fun l => [0, 1, 2, 3].map fun kd => (e, l, kd)
theorem mem_tab3 {e l kd : Int} (he : 1 ≤ e ∧ e ≤ 3) (hl : 1 ≤ l ∧ l ≤ 3) (hk : 0 ≤ kd ∧ kd ≤ 3) : (e, l, kd) ∈ tab3 := by
  have he' : e ∈ [1, 2, 3] := by simpa using three he
  have hl' : l ∈ [1, 2, 3] := by simpa using three hl
  have hk' : kd ∈ [0, 1, 2, 3] := by simpa using four hk
  exact List.mem_flatMap.mpr ⟨e, he', List.mem_flatMap.mpr ⟨l, hl', List.mem_map.mpr ⟨kd, hk', rfl⟩⟩⟩
theorem pcF_tab (a b c d f g : Nat) : tab3.map (fun t => ((pcF [a, b, c, d, f, g] t.1 t.2.1 t.2.2).flatten, (pcF [a, b, c, d, f, g] t.1 t.2.1 t.2.2).all fun p => !p.isEmpty)) = tab3.map (fun _ => ([a, b, c, d, f, g], true)) := by kernel_rfl
theorem pcF_flat {x : List Nat} {e l kd : Int} (hx : x.length = 6) (he : 1 ≤ e ∧ e ≤ 3) (hl : 1 ≤ l ∧ l ≤ 3) (hk : 0 ≤ kd ∧ kd ≤ 3) : (pcF x e l kd).flatten = x ∧ (∀ p ∈ pcF x e l kd, p ≠ []) := by
  obtain ⟨a, b, c, d, f, g, rfl⟩ := six hx
  have := Prod.mk.inj (List.map_inj_left.mp (pcF_tab a b c d f g) _ (mem_tab3 he hl hk))
  refine ⟨this.1, fun p hp h0 => ?_⟩
  have := List.all_eq_true.mp this.2 p hp
  rw [h0] at this
  exact Bool.noConfusion this
noncomputable def CutOk (x : List Nat) (e l kd : Int) (n : Nat) : Prop :=
  (restL ((tl e l kd).take n) x).length = 0 ∨ (tl e l kd).length ≤ n → (∀ m ∈ (cutL ((tl e l kd).take n) x).map List.length, m ≠ 0) →
    cutL ((tl e l kd).take n) x ++ (if restL ((tl e l kd).take n) x = [] then [] else [restL ((tl e l kd).take n) x]) = pcF x e l kd
noncomputable def cutLhs (x : List Nat) (e l kd : Int) (n : Nat) : List (List Nat) :=
  if (restL ((tl e l kd).take n) x).length = 0 ∨ (tl e l kd).length ≤ n then (if ∀ m ∈ (cutL ((tl e l kd).take n) x).map List.length, m ≠ 0 then
    cutL ((tl e l kd).take n) x ++ (if restL ((tl e l kd).take n) x = [] then [] else [restL ((tl e l kd).take n) x]) else pcF x e l kd) else pcF x e l kd
theorem cut_tab (a b c d f g : Nat) : tab3.map (fun t => (List.range 7).map (cutLhs [a, b, c, d, f, g] t.1 t.2.1 t.2.2)) = tab3.map (fun t => (List.range 7).map fun _ => pcF [a, b, c, d, f, g] t.1 t.2.1 t.2.2) := by kernel_rfl
theorem cut_ok (a b c d f g : Nat) {e l kd : Int} {n : Nat} (he : 1 ≤ e ∧ e ≤ 3) (hl : 1 ≤ l ∧ l ≤ 3) (hk : 0 ≤ kd ∧ kd ≤ 3) (hn : n ≤ 6) : CutOk [a, b, c, d, f, g] e l kd n := by
  intro h1 h2
  have := List.map_inj_left.mp (List.map_inj_left.mp (cut_tab a b c d f g) _ (mem_tab3 he hl hk)) n (List.mem_range.mpr (Nat.lt_succ_of_le hn))
  dsimp only [cutLhs] at this
  rwa [if_pos h1, if_pos h2] at this
theorem cut_is {x : List Nat} {e l kd : Int} {is : List Int} (hx : x.length = 6) (he : 1 ≤ e ∧ e ≤ 3) (hl : 1 ≤ l ∧ l ≤ 3) (hk : 0 ≤ kd ∧ kd ≤ 3)
    (h : Pulled (spc e l kd) is) (h6 : is.length ≤ 6) (hs : restL is x = [] ∨ spc e l kd (12 - is.length) = none) (hne : ∀ p ∈ cutL is x, p ≠ []) :
    cutL is x ++ (if restL is x = [] then [] else [restL is x]) = pcF x e l kd := by
  have e1 := pulled_take (fun j hj => h j hj) (by omega)
  have e2 : restL is x = [] ∨ (tl e l kd).length ≤ is.length := by
    rcases hs with q | q
    · exact .inl q
    · refine .inr ?_
      unfold spc at q
      rw [show 12 - (12 - is.length) = is.length by omega] at q
      exact List.getElem?_eq_none_iff.mp q
  have hne' : ∀ n ∈ (cutL is x).map List.length, n ≠ 0 := by
    intro n hn h0
    obtain ⟨p, hp, rfl⟩ := List.mem_map.mp hn
    exact hne p hp (List.length_eq_zero_iff.mp h0)
  have e2' : (restL is x).length = 0 ∨ (tl e l kd).length ≤ is.length := e2.imp (fun q => by rw [q]; rfl) id
  clear hs h hne e2
  generalize is.length = n at *
  subst e1
  obtain ⟨a, b, c, d, f, g, rfl⟩ := six hx
  exact cut_ok a b c d f g he hl hk h6 e2' hne'
/-- the signs -/
noncomputable def Ls7 : List Nat := [34, 112, 113, 114, 115, 116, 117]
theorem ls7 : ∀ c ∈ Ls7, c ∈ Ls ∧ upc c ∈ Ls ∧ lowc c = c ∧ lowc (upc c) = c := by decide
noncomputable def SgG (pc : List Nat × List Nat) : Prop := pc.1.Nodup ∧ (∀ c ∈ pc.1, c ∈ Ls7) ∧ (pc.2.map lowc).Nodup ∧ (∀ c ∈ pc.2, c ∈ Ls) ∧ ∀ c ∈ pc.1, c ∉ pc.2.map lowc
theorem sg_step {pc : List Nat × List Nat} {x : Int} (h : SgG pc) (h0 : 0 < pc.1.length) : SgG (sgStep pc x) ∧ (sgStep pc x).1.length + 1 = pc.1.length ∧ (sgStep pc x).2.length = pc.2.length + 1 := by
  obtain ⟨h1, h2, h3, h4, h5⟩ := h
  have hf := fmod_in x h0
  have hk : (x.fmod (pc.1.length : Int)).toNat < pc.1.length := by omega
  unfold sgStep
  generalize (x.fmod (pc.1.length : Int)).toNat = k at hk
  have hc := getD_of hk
  generalize hcd : pc.1.getD k 0 = c at hc
  have hcm := List.mem_of_getElem? hc
  have e : pc.1 = pc.1.take k ++ c :: pc.1.drop (k + 1) := by
    conv => lhs; rw [← List.take_append_drop k pc.1, List.drop_eq_getElem_cons hk]
    have : pc.1[k] = c := by rw [List.getElem?_eq_getElem hk] at hc; exact Option.some.inj hc
    rw [this]
  have hn : (c :: (pc.1.take k ++ pc.1.drop (k + 1))).Nodup := by
    have hp : (pc.1.take k ++ c :: pc.1.drop (k + 1)).Perm (c :: (pc.1.take k ++ pc.1.drop (k + 1))) := List.perm_middle
    exact hp.nodup_iff.mp (e ▸ h1)
  have hsub : ∀ d ∈ pc.1.take k ++ pc.1.drop (k + 1), d ∈ pc.1 := by
    intro d hd
    rcases List.mem_append.mp hd with q | q
    · exact List.mem_of_mem_take q
    · exact List.mem_of_mem_drop q
  have hl7 := ls7 c (h2 c hcm)
  have key : ∀ s : Nat, s ∈ Ls → lowc s = c → SgG (pc.1.take k ++ pc.1.drop (k + 1), pc.2 ++ [s]) := by
    intro s hs hls
    refine ⟨(List.nodup_cons.mp hn).2, fun d hd => h2 d (hsub d hd), ?_, ?_, ?_⟩
    · show ((pc.2 ++ [s]).map lowc).Nodup
      rw [List.map_append]
      refine List.nodup_append.mpr ⟨h3, by simp, fun a ha b hb => ?_⟩
      have : b = c := by rw [← hls]; simpa using hb
      rw [this]
      intro q
      exact h5 c hcm (q ▸ ha)
    · intro d hd
      rcases List.mem_append.mp hd with q | q
      · exact h4 d q
      · rw [List.mem_singleton.mp q]; exact hs
    · intro d hd hm
      have hm : d ∈ (pc.2 ++ [s]).map lowc := hm
      rw [List.map_append] at hm
      rcases List.mem_append.mp hm with q | q
      · exact h5 d (hsub d hd) q
      · have : d = c := by rw [← hls]; simpa using q
        exact (List.nodup_cons.mp hn).1 (this ▸ hd)
  refine ⟨?_, ?_, ?_⟩
  · by_cases q : (x.fdiv 7).fmod 2 = 1
    · rw [if_pos q]; exact key _ hl7.2.1 hl7.2.2.2
    · rw [if_neg q]; exact key _ hl7.1 hl7.2.2.1
  · simp only [List.length_append, List.length_take, List.length_drop]; omega
  · simp
theorem sg_good : ∀ (ns : List Int) (pc : List Nat × List Nat), SgG pc → ns.length < pc.1.length → SgG (ns.foldl sgStep pc) ∧ (ns.foldl sgStep pc).2.length = pc.2.length + ns.length
  | [], pc, h, _ => ⟨h, rfl⟩
  | x :: r, pc, h, hl => by
    rw [List.length_cons] at hl
    obtain ⟨h1, h2, h3⟩ := sg_step (x := x) h (by omega)
    obtain ⟨g1, g2⟩ := sg_good r (sgStep pc x) h1 (by omega)
    rw [List.foldl_cons]
    exact ⟨g1, by rw [g2, h3, List.length_cons]; omega⟩
theorem sig_good {ns : List Int} (h : ns.length = 6) : (sgRun ns).2.length = 6 ∧ (∀ c ∈ (sgRun ns).2, c ∈ Ls) ∧ ((sgRun ns).2.map lowc).Nodup := by
  have h0 : SgG ([34, 112, 113, 114, 115, 116, 117], []) := ⟨by decide, fun c hc => hc, .nil, fun c hc => absurd hc List.not_mem_nil, fun c hc h => absurd h List.not_mem_nil⟩
  obtain ⟨h1, h2⟩ := sg_good ns _ h0 (by rw [h]; decide)
  refine ⟨?_, h1.2.2.2.1, h1.2.2.1⟩
  have : (sgRun ns).2.length = 0 + ns.length := h2
  omega
theorem pcF_good {ns : List Int} {e l kd : Int} (h : ns.length = 6) (he : 1 ≤ e ∧ e ≤ 3) (hl : 1 ≤ l ∧ l ≤ 3) (hk : 0 ≤ kd ∧ kd ≤ 3) : Good (pcF (sgRun ns).2 e l kd) := by
  obtain ⟨h1, h2, h3⟩ := sig_good h
  obtain ⟨f1, f2⟩ := pcF_flat h1 he hl hk
  exact ⟨f2, by rw [f1]; exact h2, by rw [f1]; exact h3⟩
end
-- the list comprehensions
section
local macro_rules | `(tactic| walk_at "eval ListComp") => `(tactic| (k_here; k_dflt (refine LCg.ListComp_U (F₀ := by k_asm) (by with_unfolding_all rfl) (by decide) (by rfl) (by decide) (by rfl) ?_)))
local macro_rules | `(tactic| walk_at "eval ListComp") => `(tactic| (k_here; lct_look; k_dflt (refine LCt.ListComp_T (F₀ := by k_asm) (by with_unfolding_all rfl) (by decide) (by rfl) (by decide) (by rfl) ?_)))
local macro_rules | `(tactic| walk_at "CompSrc") => `(tactic| refine ksrc_start ?_)
local macro_rules | `(tactic| walk_at "CompSrcT") => `(tactic| refine ksrcT_start ?_)
-- part WRnk
theorem restWRnk {M : Model} {A : Around} {env : Env} {Q : Flow → Shared → Prop} {E : Value → Shared → Prop} {s : Shared} (h : wpAny M A (execs [] env) Q E s) : wpAny M A (execs [] env) Q E s := by w_top off; first | (walk1; fail) | exact h
section
section
variable {w : World} {mean : ExcName → Option Value} {mg mb : Str → Option Value} {dp un : Nat} {gd : Option (List Code)} {cn : Str} {cs : Scope} {a : Addr} {ccd : Value} {cl : List (Str × Addr)} {outer : List Env} {A₀ : Around} {base h₀ : Heap} {L : Addr} {m : Str → Option Value} {s : Shared} {Q : Value → Shared → Prop} {E : Value → Shared → Prop} {news : List (Addr × Obj)}

/-- a list back -/
noncomputable abbrev RetS (h₀ : Heap) (L : Addr) (m : Str → Option Value) (news : List (Addr × Obj)) (s : Shared) (Q : Value → Shared → Prop) (V : List Value → Prop) : Prop :=
  ∀ (l' : Addr) (vs : List Value) (nn : Nat) (h' : Heap) (tk' : Nat), V vs → LCg.Off1 l' news → Fr h₀ L h' m → News h₀ L h' ((l', listOf vs.toArray nn) :: news) → Q (.ref l') { s with heap := h', toks := tk' }
noncomputable def rkS (p : List Nat) : Int := Txt.find (Str.ofString "\"PQRSTUpqrstu") (Txt.item (mk p) 0)
set_option maxHeartbeats 8000000 in
theorem rnk_call {l : Addr} {vs : List Value} {nn : Nat} {ps : List (List Nat)} (B : Below A₀ base outer h₀) (F : Fr h₀ L s.heap m) (X : (hd.heap_1 w.params).In h₀) (N : News h₀ L s.heap news) (T : Top vw (looseW vw []) mean mg mb h₀) (hk : cs.kind = .function) (hd : dp + 5 < recursionLimit) (hu : un + 60 < cLine)
    (hl : (l, listOf vs.toArray nn) ∈ news) (hv : StrsAre vs (ps.map mk)) (hn : ps.length ≤ 8) (hne : ∀ p ∈ ps, p ≠ []) (hlen : ∀ p ∈ ps, p.length ≤ 100)
    (hret : RetS h₀ L m news s Q (fun us => IntsAre us (ps.map rkS))) :
    wpAny (model prog w) (ktrTop dp un gd cn cs L a ccd cl outer) (call (.ref 114) [.ref l]) Q E s := by
  have hvl : vs.length = ps.length := by rw [StrsAre.len_eq hv, List.length_map]
  refine wpAny_call ?_
  k_dflt cell_enter
  k_steps
  (rename Fr _ _ _ _ => lF); (rename News _ _ _ _ => lN)
  refine' own_comp (vs := vs) (nn := nn) (fun i y => ∃ p t, ps[i]? = some p ∧ y = .int (rkS p) t) ?zh lF lN hl ?zl ?zt ?zf
  case zh => exact rfl
  case zl => omega
  case zt =>
    clear lF lN
    intro g i v I oI C oC D m₂ ys h tk E' hvi hC hx F' N' off ne
    obtain ⟨y, ty, rfl, hy⟩ := StrsAre.item hv i v hvi
    obtain ⟨p, hp, rfl⟩ : ∃ p, ps[i]? = some p ∧ mk p = y := by
      rw [List.getElem?_map] at hy
      cases hq : ps[i]? with
      | none => rw [hq] at hy; cases hy
      | some p => rw [hq] at hy; exact ⟨p, rfl, Option.some.inj hy⟩
    have hpm := List.mem_of_getElem? hp
    have hl1 : 1 ≤ (mk p).length := by
      rw [mk_len]
      have := hne p hpm
      cases p with
      | nil => exact absurd rfl this
      | cons c r => simp
    have hl2 : (mk p).length ≤ 100 := by rw [mk_len]; exact hlen p hpm
    k_steps
    · exact LCg.CompEnd.intro (by assumption) (by assumption) news (fun _ h => h) off (.inr ⟨_, hl, rfl, _, rfl⟩) ⟨rfl, p, _, hp, rfl⟩
  case zf =>
    intro g ys hys hV
    intro D h tk F' N' off
    have hI : IntsAre ys (ps.map rkS) := ints_of_get (by rw [hys, hvl, List.length_map]) fun j y hj => by
      obtain ⟨p, t, h1, h2⟩ := hV j y hj
      exact ⟨_, t, by rw [List.getElem?_map, h1]; rfl, h2⟩
    k_steps
    · (rename News h₀ _ _ _ => nN)
      exact hret _ ys ys.length _ _ hI off (by assumption) nN

end
end
-- part WWay
theorem restWWay {M : Model} {A : Around} {env : Env} {Q : Flow → Shared → Prop} {E : Value → Shared → Prop} {s : Shared} (h : wpAny M A (execs [] env) Q E s) : wpAny M A (execs [] env) Q E s := by w_top off; first | (walk1; fail) | exact h
section
section
variable {w : World} {mean : ExcName → Option Value} {mg mb : Str → Option Value} {dp un : Nat} {gd : Option (List Code)} {cn : Str} {cs : Scope} {a : Addr} {ccd : Value} {cl : List (Str × Addr)} {outer : List Env} {A₀ : Around} {base h₀ : Heap} {L : Addr} {m : Str → Option Value} {s : Shared} {Q : Value → Shared → Prop} {E : Value → Shared → Prop} {news : List (Addr × Obj)}

local macro_rules | `(tactic| k_all) => `(tactic| assumption)
local macro_rules | `(tactic| k_mem) => `(tactic| assumption)

local macro_rules | `(tactic| walk_at "subscriptTail") => `(tactic| ((with_reducible show wpAny _ _ (subscriptTail _ _ (Value.ref _) (Value.int _ _)) _ _ _); (with_reducible rename News _ _ _ _ => N'); (with_unfolding_all refine' own_item N' ?rl ?r0 ?r1 ?rx ?_ ?rs; (case rl => k_mem); (case r0 => omega); (case r1 => omega); (case rx => assumption); (case rs => with_unfolding_all rfl))))

local macro_rules | `(tactic| walk_at "call builtin:len") => `(tactic| (k_here; (with_reducible show wpAny _ _ (call (Value.builtin "len") [Value.ref _]) _ _ _); k_dflt (refine' own_len ?N ?m ?z ?_; (case N => k_asm); (case m => k_mem); (case z => omega)); intro _ _))

local macro_rules | `(tactic| walk_at "call ref") => `(tactic| (k_here; (with_reducible show wpAny _ _ (call (Value.ref 114) _) _ _ _); k_dflt (refine' rnk_call ?zB ?zF ?zX ?zN ?zT ?zK ?zd ?zu ?zl hv hn hne hlen ?zr; (case zB => k_asm); (case zF => k_asm); (case zX => k_asm); (case zN => k_asm); (case zT => k_asm); (case zK => exact rfl); (case zd => ktr_room); (case zu => ktr_units); (case zl => exact .tail _ (.tail _ (.tail _ hl))); (intro l9 us9 nn9 h9 tk9 hI9 hO9 F9 N9; (simp only [LCg.Off1] at hO9); (try dsimp only); (try k_fold)))))

noncomputable def wayF (ps : List (List Nat)) (more : Int) : Int := (wayRun ps (ps.map (szF more)) (ps.map rkS) ps.length).2.1
set_option maxHeartbeats 8000000 in
theorem way_call {l : Addr} {vs : List Value} {nn : Nat} {ps : List (List Nat)} {more : Int} {tm : Tok} (B : Below A₀ base outer h₀) (F : Fr h₀ L s.heap m) (X : (hd.heap_1 w.params).In h₀) (N : News h₀ L s.heap news) (T : Top vw (looseW vw []) mean mg mb h₀) (hk : cs.kind = .function) (hd : dp + 7 < recursionLimit) (hu : un + 90 < cLine)
    (hl : (l, listOf vs.toArray nn) ∈ news) (hv : StrsAre vs (ps.map mk)) (hn : ps.length ≤ 8) (hne : ∀ p ∈ ps, p ≠ []) (hlen : ∀ p ∈ ps, p.length ≤ 100) (hm0 : 0 ≤ more) (hm1 : more ≤ 1)
    (hret : Ret h₀ L m news s Q (fun t => .int (wayF ps more) t)) :
    wpAny (model prog w) (ktrTop dp un gd cn cs L a ccd cl outer) (call (.ref 119) [.ref l, .int more tm]) Q E s := by
  have hvl : vs.length = ps.length := by rw [StrsAre.len_eq hv, List.length_map]
  refine wpAny_call ?_
  k_dflt (refine' code_defC ?k1 ?k2 ?k3 ?k4 ?k5 ?kA ?kF ?kK ?k6 ?k7 ?k8 ?k9 ?kB ?kD ?_ ?c2 ?c3 ?c4; (case kA => exact rfl); (case kF => exact rfl); (case kK => assumption); (case k1 => k_asm); (case k2 => k_asm); (case k3 => k_asm); (case k4 => k_asm); (case k5 => k_asm); (case k6 => k_is); (case k7 => k_is); (case k8 => ktr_room); (case k9 => exact BindsTo.of_eq rfl); (case kB => exact rfl); (case kD => decide +kernel); (case c2 => exact rfl); (case c3 => exact rfl); (case c4 => exact rfl); k_whole; intro g' L' h' tk' cells' FG' F' N' Y' B' X' T' l1; (try k_lt l1); k_cells Y'; (try simp only [List.cons_append, List.nil_append] at N'); (try dsimp only); (try k_lift B'); (try k_fold))
  k_steps
  rename_i oK oS oR dK dS dR
  have hc1 : ∀ p ∈ news, p.1 ≠ L' + 1 := fun p hp => Nat.ne_of_lt (Nat.lt_succ_of_lt (l1 p hp))
  have hc2 : ∀ p ∈ news, p.1 ≠ L' + 1 + 1 := fun p hp => Nat.ne_of_lt (Nat.lt_succ_of_lt (Nat.lt_succ_of_lt (l1 p hp)))
  have hc3 : ∀ p ∈ news, p.1 ≠ L' + 1 + 1 + 1 := fun p hp => Nat.ne_of_lt (Nat.lt_succ_of_lt (Nat.lt_succ_of_lt (Nat.lt_succ_of_lt (l1 p hp))))
  refine' rnk_call ?zB ?zF ?zX ?zN ?zT ?zK ?zd ?zu ?zl hv hn hne hlen ?zr
  case zB => k_asm
  case zF => k_asm
  case zX => k_asm
  case zN => k_asm
  case zT => k_asm
  case zK => exact rfl
  case zd => ktr_room
  case zu => ktr_units
  case zl => exact .tail _ (.tail _ (.tail _ hl))
  case zr =>
    (intro l9 us9 nn9 h9 tk9 hI9 hO9 F9 N9; (simp only [LCg.Off1] at hO9); (try dsimp only); (try k_fold))
    k_steps
    rename_i hh1 co1 dd1 ls hh2 ls1 hh3 co2 lF lN dd2
    have hls := allLt_ne ls1.2.2.2.2
    refine' kfor_list (fun c : (List Value × Nat) => [(Str.ofString "pieces", .ref l), (Str.ofString "more", .int more tm)]) (fun c => (ls, listOf c.1.toArray c.2) :: (l9, listOf us9.toArray nn9) :: (L' + 1 + 1 + 1, oK) :: (L' + 1 + 1, co2) :: (L' + 1, co1) :: news) (fun i c => IntsAre c.1 ((ps.take i).map (szF more))) ⟨[], 0⟩ rfl (fun _ => .tail _ (.tail _ (.tail _ (.tail _ (.tail _ hl))))) go_nameL lF lN (fun _ h => h) ?ak ?ap ?aE ?aT ?ad
    case ak => kst_all
    case ap => exact .nil
    case aE => with_unfolding_all passes_own
    case aT =>
      clear lF lN
      rintro I i v ⟨us, un'⟩ m h tk o hlt hvi hP hni F' N'
      dsimp only [see] at F' N' hP hni
      obtain ⟨y, ty, rfl, hy⟩ := StrsAre.item hv i v hvi
      obtain ⟨p, hp, rfl⟩ : ∃ p, ps[i]? = some p ∧ mk p = y := by
        rw [List.getElem?_map] at hy
        cases hq : ps[i]? with
        | none => rw [hq] at hy; cases hy
        | some p => rw [hq] at hy; exact ⟨p, rfl, Option.some.inj hy⟩
      have hl2 : (mk p).length ≤ 100 := by rw [mk_len]; exact hlen p (List.mem_of_getElem? hp)
      have hul : us.length ≤ 8 := by rw [IntsAre.length hP, List.length_map, List.length_take]; omega
      have hIs : I ≠ ls := Ne.symm (hni (ls, listOf us.toArray un') (.head _))
      refine wpAny_assign_Name ?_
      k_steps
      any_goals exact Str.ofString ""
      any_goals exact (0 : Nat)
      any_goals exact Value.none
      · rename_i r5 t4 _ _ _ hr5 _ F5 N5
        refine' NextF.intro ⟨us ++ [.int r5 t4], un' + 1⟩ ?bF ?bN ?bp ?bne ?bn ?bk
        case bF => exact F5
        case bN => exact N5
        case bk => kst_all
        case bp => exact sizes_next hP hp (sz_of hr5)
        case bn =>
          intro p9 hp9
          simpa [PySem.W.listOf] using hp9
        case bne =>
          intro p9 hp9
          rcases List.mem_cons.mp hp9 with rfl | hp9
          · exact Ne.symm hIs
          · exact hni p9 (.tail _ hp9)
    case ad =>
      clear lF lN
      rintro ⟨us, un'⟩ m h tk hP F' N'
      dsimp only [see] at F' N' hP
      rw [hvl, List.take_length] at hP
      have hul : us.length = ps.length := by rw [IntsAre.length hP, List.length_map]
      obtain ⟨szs, hszs⟩ : ∃ szs, ps.map (szF more) = szs := ⟨_, rfl⟩
      obtain ⟨rks, hrks⟩ : ∃ rks, ps.map rkS = rks := ⟨_, rfl⟩
      have hzl : szs.length = ps.length := by rw [← hszs, List.length_map]
      have hrl : rks.length = ps.length := by rw [← hrks, List.length_map]
      rw [hszs] at hP
      rw [hrks] at hI9
      k_steps
      rename_i lst hA lst1 hB hC F1 N1 tz kz hD tkz t1 u1 v1 rR lF lN hS
      have hc4 := allLt_ne lst1.2.2.2.2.2
      refine' kfor_range (n := ps.length) (fun c : (Int × Tok) × (Int × Tok) × List Tent × Nat × Obj => [(Str.ofString "pieces", .ref l), (Str.ofString "whole", .int szs.sum _), (Str.ofString "stops", .ref lst), (Str.ofString "ahead", .int c.1.1 c.1.2), (Str.ofString "least", .int c.2.1.1 c.2.1.2)]) (fun c => (lst, listOf (trefs c.2.2.1).toArray c.2.2.2.1) :: (ls, listOf us.toArray un') :: (l9, listOf us9.toArray nn9) :: (L' + 1 + 1 + 1, c.2.2.2.2) :: (L' + 1 + 1, co2) :: (L' + 1, co1) :: (news ++ tents c.2.2.1)) (fun i c => WayI ps szs rks lst i c.1.1 c.2.1.1 c.2.2.1 c.2.2.2.2) ⟨⟨_, _⟩, ⟨_, _⟩, [], 0, oK⟩ rfl rR ?os ?orr go_name lF lN ?onn ?ok ?op ?oE ?oT ?od
      case os => exact small_one (by omega) (by omega) (by omega) (by omega)
      case orr => rw [hvl, rangeSize_nat]; omega
      case onn => (simp only [tents, List.map_nil, List.append_nil]; exact fun _ h => h)
      case ok => kst_all
      case op => exact ⟨rfl, ⟨_, dK⟩, fun e he => absurd he List.not_mem_nil, rfl⟩
      case oE => with_unfolding_all passes_own
      case oT =>
        clear rR lF lN hS F1 N1 F' N'
        rintro I i t ⟨⟨ahead, ta⟩, ⟨least, tl⟩, T, un2, ok⟩ m h tk o hlt hi hW hni F' N'
        dsimp only [see] at F' N' hW hni
        obtain ⟨hW1, ⟨ov, hov⟩, hW3, hW4⟩ := hW
        have hIst : I ≠ lst := Ne.symm (hni (lst, _) (.head _))
        have hIk : I ≠ L' + 1 + 1 + 1 := Ne.symm (hni (L' + 1 + 1 + 1, ok) (.tail _ (.tail _ (.tail _ (.head _)))))
        have hT1 : ∀ p ∈ tents T, lst < p.1 := fun p hp => by
          obtain ⟨e, he, rfl⟩ := List.mem_map.mp hp
          exact hW3 e he
        have hu1 : ∀ p ∈ news ++ tents T, p.1 ≠ lst := fun p hp => by
          rcases List.mem_append.mp hp with hp | hp
          · exact hc4 p hp
          · exact Nat.ne_of_gt (hT1 p hp)
        have hu2 : ∀ p ∈ news ++ tents T, p.1 ≠ L' + 1 + 1 + 1 := fun p hp => by
          rcases List.mem_append.mp hp with hp | hp
          · exact hc3 p hp
          · exact Nat.ne_of_gt (Nat.lt_trans lst1.2.2.1 (hT1 p hp))
        have hlT : (l, listOf vs.toArray nn) ∈ news ++ tents T := List.mem_append.mpr (.inl hl)
        refine wpAny_assign_Name ?_
        k_steps
        rename_i okc Fk Nk dk tz2 kz2 hD2 tkz2 t12 u12 v12 rR lF lN hS
        have hgk : rks[i]? = some (rks.getD i 0) := by rw [List.getElem?_eq_getElem (by omega), List.getD_eq_getElem?_getD, List.getElem?_eq_getElem (by omega)]; rfl
        obtain ⟨tik, htik⟩ := IntsAre.get hI9 i _ hgk
        refine' own_compR (n := ps.length) (fun j => decide (rks.getD j 0 < rks.getD i 0)) (fun j => szs.getD j 0) rfl lF lN rR ?cs ?cr (by omega) ?cT ?cf
        case cs => exact small_one (by omega) (by omega) (by omega) (by omega)
        case cr => rw [hvl, rangeSize_nat]; omega
        case cT =>
          clear rR lF lN hS
          intro g9 j tj I2 oI2 C2 oC2 D2 m₂ ys h tk E' hj hC hx F' N' off ne
          have hgj : rks[j]? = some (rks.getD j 0) := by rw [List.getElem?_eq_getElem (by omega), List.getD_eq_getElem?_getD, List.getElem?_eq_getElem (by omega)]; rfl
          obtain ⟨tjk, htjk⟩ := IntsAre.get hI9 j _ hgj
          have hgz : szs[j]? = some (szs.getD j 0) := by rw [List.getElem?_eq_getElem (by omega), List.getD_eq_getElem?_getD, List.getElem?_eq_getElem (by omega)]; rfl
          obtain ⟨tjz, htjz⟩ := IntsAre.get hP j _ hgz
          have ej : (0 + (j : Int)).toNat = j := by omega
          have ei : (0 + (i : Int)).toNat = i := by omega
          rw [← ej] at htjk htjz
          rw [← ei] at htik
          k_steps
          · have hb : rks.getD (0 + (j : Int)).toNat 0 < rks.getD (0 + (i : Int)).toNat 0 := by assumption
            rw [ej, ei] at hb
            exact LCg.CompEnd.intro (by assumption) (by assumption) _ (fun _ h => h) off trivial ⟨rfl, decide_eq_true hb, _, by rw [ej]⟩
          · have hb : ¬ rks.getD (0 + (j : Int)).toNat 0 < rks.getD (0 + (i : Int)).toNat 0 := by assumption
            rw [ej, ei] at hb
            exact LCg.CompEnd.intro (by assumption) (by assumption) _ (fun _ h => h) off trivial ⟨rfl, decide_eq_false hb⟩
        case cf =>
          clear rR lF lN hS
          intro g9 ys hys D h tk F' N' off
          obtain ⟨zs, hzs⟩ : ∃ zs, ((List.range ps.length).filter (fun j => decide (rks.getD j 0 < rks.getD i 0))).map (fun j => szs.getD j 0) = zs := ⟨_, rfl⟩
          have hpl : zs.sum = plF szs rks i := by rw [← hzs]; unfold plF; rw [hzl]
          rw [hzs] at hys
          k_steps
          (rename Fr _ _ _ _ => lF); (rename News _ _ _ _ => lN)
          refine' kfor_list (fun c : Int × Tok => [(Str.ofString "pieces", .ref l), (Str.ofString "whole", .int szs.sum _), (Str.ofString "stops", .ref lst), (Str.ofString "ahead", .int ahead ta), (Str.ofString "least", .int least tl), (Str.ofString "place", .int zs.sum _), (Str.ofString "cost", .int c.1 c.2)]) (fun _ => (I, o) :: (lst, listOf (trefs T).toArray un2) :: (ls, listOf us.toArray un') :: (l9, listOf us9.toArray nn9) :: (L' + 1 + 1 + 1, okc) :: (L' + 1 + 1, co2) :: (L' + 1, co1) :: (news ++ tents T)) (fun j c => c.1 = (T.take j).foldl (fun c e => stopF ahead zs.sum c e.2.1) (2 * max ahead zs.sum)) ⟨_, _⟩ rfl (fun _ => .tail _ (.head _)) go_tupL lF lN (fun _ h => .tail _ h) ?qk ?qp ?qE ?qT ?qd
          case qk => kst_all
          case qp => (simp only [List.take_zero, List.foldl_nil]; exact max_q)
          case qE => with_unfolding_all passes_own
          case qT =>
            clear lF lN
            rintro I3 j v ⟨cost, tc⟩ m h tk o3 hlt3 hvj hP3 hni3 F' N'
            dsimp only [see] at F' N' hP3 hni3
            obtain ⟨⟨ae, ⟨e1, e2, e3⟩, ⟨te1, te2, te3⟩⟩, hej, rfl, heT⟩ := trefs_at hvj
            have hT : (ae, ({ cls := .type "tuple", data := .seq #[.int e1 te1, .int e2 te2, .int e3 te3] } : Obj)) ∈ news ++ tents T := List.mem_append.mpr (.inr heT)
            k_steps
            · refine' NextF.intro ⟨_, _⟩ ?bF ?bN ?bp hni3 (fun _ h => h) ?bk
              case bF => assumption
              case bN => assumption
              case bk => kst_all
              case bp => exact (stop_t (by assumption)).trans (stop_next hP3 hej).symm
            · refine' NextF.intro ⟨_, _⟩ ?bF ?bN ?bp hni3 (fun _ h => h) ?bk
              case bF => assumption
              case bN => assumption
              case bk => kst_all
              case bp => exact (stop_f (by assumption)).trans (stop_next hP3 hej).symm
          case qd =>
            clear lF lN
            rintro ⟨cost, tc⟩ m h tk hP3 F' N'
            dsimp only [see] at F' N' hP3
            obtain ⟨p, hp⟩ : ∃ p, ps[i]? = some p := ⟨ps[i]'hi, by simp [hi]⟩
            have ei : (0 + (i : Int)).toNat = i := by omega
            obtain ⟨tpp, hvp⟩ := StrsAre.at hv (by rw [List.getElem?_map, hp]; rfl : (ps.map mk)[i]? = some (mk p))
            have hgz : szs[i]? = some (szs.getD i 0) := by rw [List.getElem?_eq_getElem (by omega), List.getD_eq_getElem?_getD, List.getElem?_eq_getElem (by omega)]; rfl
            obtain ⟨tiz, htiz⟩ := IntsAre.get hP i _ hgz
            rw [← ei] at hvp htiz
            have hlt1 : (trefs T).length = T.length := by unfold trefs; rw [List.length_map]
            rw [hlt1, List.take_length] at hP3
            k_steps
            (rename Fr _ _ _ _ => lF); (rename News _ _ _ _ => lN)
            refine' kfor_str (fun c : Int × Tok => [(Str.ofString "pieces", .ref l), (Str.ofString "whole", .int szs.sum _), (Str.ofString "stops", .ref lst), (Str.ofString "ahead", .int ahead ta), (Str.ofString "least", .int least tl), (Str.ofString "place", .int zs.sum _), (Str.ofString "cost", .int c.1 c.2)]) (fun _ => (I, o) :: (lst, listOf (trefs T).toArray un2) :: (ls, listOf us.toArray un') :: (l9, listOf us9.toArray nn9) :: (L' + 1 + 1 + 1, okc) :: (L' + 1 + 1, co2) :: (L' + 1, co1) :: (news ++ tents T)) (fun j c => c.1 = cost + upC (p.take j)) ⟨_, _⟩ rfl go_name lF lN (fun _ h => h) ?vk ?vp ?vE ?vT ?vd
            case vk => kst_all
            case vp => simp [upC]
            case vE => with_unfolding_all passes_own
            case vT =>
              clear lF lN
              rintro I4 j ch tch ⟨cost4, tc4⟩ m h tk o4 hlt4 hvj hP4 hni4 F' N'
              dsimp only [see] at F' N' hP4 hni4
              have hch : p[j]? = some ch := by simpa using hvj
              refine wpAny_assign_Name ?_
              k_steps
              · refine' NextF.intro ⟨_, _⟩ ?bF ?bN ?bp hni4 (fun _ h => h) ?bk
                case bF => assumption
                case bN => assumption
                case bk => kst_all
                case bp => (dsimp only; rw [upC_next hch, up_f (by assumption), hP4, if_neg Bool.false_ne_true]; omega)
              · refine' NextF.intro ⟨_, _⟩ ?bF ?bN ?bp hni4 (fun _ h => h) ?bk
                case bF => assumption
                case bN => assumption
                case bk => kst_all
                case bp => (dsimp only; rw [upC_next hch, up_t (by assumption), hP4, if_pos rfl]; omega)
            case vd =>
              clear lF lN
              rintro ⟨cost4, tc4⟩ m h tk hP4 F' N'
              dsimp only [see] at F' N' hP4
              k_steps
              rename_i D9 q1 lD q2 q3 q4 q5 q6 q7 q8 F9 N9
              have hp4 : p.take (mk p).cps.size = p := List.take_of_length_le (by simp)
              rw [hp4] at hP4
              refine' NextF.intro ⟨⟨_, _⟩, ⟨_, _⟩, T ++ [(D9, (_, _, _), (_, _, _))], un2 + 1, okc⟩ F9 N9 ?bp ?bne way_hn ?bk
              case bk => kst_all
              case bne => exact way_ne hni (neN (by dsimp only; omega))
              case bp => exact way_next hW1 hW3 hW4 hp hP3 hpl hP4 (by rw [ei]) (ltN (by omega)) ⟨_, dk⟩
      case od =>
        clear rR lF lN hS F1 N1 F' N'
        rintro ⟨⟨ahead, ta⟩, ⟨least, tl⟩, T, un2, ok⟩ m h tk hW F' N'
        dsimp only [see] at F' N' hW
        k_steps
        · (rename News h₀ _ _ _ => nN)
          refine retI hret ?_ (by assumption) (fun p hp => nN p (.tail _ (.tail _ (.tail _ (.tail _ (.tail _ (.tail _ (List.mem_append.mpr (.inl hp)))))))))
          unfold wayF
          rw [hszs, hrks, hW.1]

end
end
-- part WLaw
theorem restWLaw {M : Model} {A : Around} {env : Env} {Q : Flow → Shared → Prop} {E : Value → Shared → Prop} {s : Shared} (h : wpAny M A (execs [] env) Q E s) : wpAny M A (execs [] env) Q E s := by w_top off; first | (walk1; fail) | exact h
section
section
variable {w : World} {mean : ExcName → Option Value} {mg mb : Str → Option Value} {dp un : Nat} {gd : Option (List Code)} {cn : Str} {cs : Scope} {a : Addr} {ccd : Value} {cl : List (Str × Addr)} {outer : List Env} {A₀ : Around} {base h₀ : Heap} {L : Addr} {m : Str → Option Value} {s : Shared} {Q : Value → Shared → Prop} {E : Value → Shared → Prop} {news : List (Addr × Obj)}

end

local macro_rules | `(tactic| k_all) => `(tactic| assumption)
local macro_rules | `(tactic| k_mem) => `(tactic| assumption)

noncomputable def menF (l kd : Int) : List Int := if kd = 0 then [] else if kd = 1 then [l, l, l, l, l, l, l] else if kd = 2 then [] else [2]
theorem news_nil {g h : Heap} {L : Addr} {l : List (Addr × Obj)} (_ : News g L h l) : News g L h [] := fun _ hp => absurd hp List.not_mem_nil
theorem news_sub {g h : Heap} {L : Addr} {l l' : List (Addr × Obj)} (N : News g L h l) (hs : ∀ p ∈ l', p ∈ l) : News g L h l' := fun p hp => N p (hs p hp)
theorem fmod_b (x : Int) {n : Int} (h : 0 < n) : 0 ≤ x.fmod n ∧ x.fmod n < n := ⟨Int.fmod_nonneg_of_pos x h, Int.fmod_lt_of_pos x h⟩
local macro_rules | `(tactic| walk_at "execs cons") => `(tactic| ((rename PyProof.Rows.Fr _ _ _ _ => kF9); dsimp only at kF9))
theorem own_end {c : ClaimW} {cl : Str → Option Addr} {mean : ExcName → Option Value} {args : List WData} {s₁ : Shared} {L : Addr} {m : Str → Option Value} {h : Heap} {g d t} {b : Bool} (F : Fr s₁.heap L h m) (hr : ∀ cls, c.raises args cls = false) (hp : c.post args (.bool true) args = true) (hb : AllBare g) (hbt : b = true) : GoodWG c cl mean args s₁ (.ok (.ret (.bool b))) ⟨h, g, d, t, s₁.os⟩ := by
  subst hbt
  exact ⟨.inl ⟨_, _, [], rfl, hr, ReadsW.bool true, hp, fun _ => ⟨List.nodup_nil, fun _ hm => nomatch hm⟩⟩, OldK.of_keep F.keep, rfl, hb⟩

theorem strOk_mk {p : List Nat} (h : ∀ c ∈ p, c < 128) : PyData.strOk (mk p) = true := by
  show (mk p).cps.all (· < 0x110000) = true
  rw [Array.all_eq_true']
  intro c hc
  have : c ∈ p := by simpa using hc
  have := h c this
  simp; omega
local macro_rules | `(tactic| walk_at "compareOp NotEq ref ref") => `(tactic| (k_here; (with_reducible show wpAny _ _ (compareOp CmpOp.NotEq (Value.ref _) (Value.ref _)) _ _ _); k_dflt (refine' own_ne_strs ?wqN ?wqa ?wqb ?wqi ?wqj ?wqu ?wqo ?wqp ?_; (case wqN => k_asm); (case wqa => k_mem); (case wqb => k_mem); (case wqi => assumption); (case wqj => first | assumption | exact .cons _ _ (.cons _ _ .nil)); (case wqu => ke_room); (case wqo => assumption); (case wqp => assumption))))

local macro_rules | `(tactic| walk_at "subscriptTail List Slice ref ref") => `(tactic| (k_here; (fail_if_success (with_reducible show wpAny _ _ (subscriptTail (PySem.Expr.Name _ _) _ _ _) _ _ _)); k_dflt (refine kba_turn (value' := PySem.Expr.Name (PySem.Str.ofString "_") ⟨0, 0, 0, 0⟩) (fun _ => rfl) ?_)))
local macro_rules | `(tactic| walk_at "subscriptTail") => `(tactic| (k_here; (fail_if_success (with_reducible show wpAny _ _ (subscriptTail (PySem.Expr.Name _ _) _ _ _) _ _ _)); k_dflt (refine kba_turn (value' := PySem.Expr.Name (PySem.Str.ofString "_") ⟨0, 0, 0, 0⟩) (fun _ => rfl) ?_)))
local macro_rules | `(tactic| walk_at "subscriptTail Name Slice ref ref") => `(tactic| (k_here; (with_reducible show wpAny _ _ (subscriptTail _ (PySem.Expr.Slice _ _ none _) (Value.ref _) (Value.ref _)) _ _ _); k_dflt (refine' kmk_slice_ints ?wqF ?wqN ?wql ?wqp ?wqq ?wqi ?wqm ?wqc ?_ ?wqs ?wqt ?wqz; (case wqF => k_asm); (case wqN => k_asm); (case wql => exact Fr.lst (by k_asm) (by k_asm)); (case wqp => exact IsPart.none); (case wqq => exact IsPart.int _ _); (case wqi => assumption); (case wqm => exact kmk_upto (by assumption) (by decide)); (case wqc => exact List.length_take ..); (case wqs => with_unfolding_all rfl); (case wqt => kmk_pure); (case wqz => exact kmk_sz (by assumption) (by rw [sizeLine_eq]; omega))); intro D' ws' h' F' N' l1 hI' hC' hL'; (try k_lt l1); (try k_sweep)))
local macro_rules | `(tactic| walk_at "subscriptTail Name Slice ref ref") => `(tactic| (k_here; (with_reducible show wpAny _ _ (subscriptTail _ (PySem.Expr.Slice _ _ none _) (Value.ref _) (Value.ref _)) _ _ _); k_dflt (refine' own_slice ?wqF ?wqN ?wql ?wqp ?wqq ?wqe ?_ ?wqs ?wqt ?wqz; (case wqF => k_asm); (case wqN => k_asm); (case wql => k_mem); (case wqp => kmk_part); (case wqq => kmk_part); (case wqe => first | exact pick_to (by omega) | exact pick_from (by omega)); (case wqs => with_unfolding_all rfl); (case wqt => kmk_pure); (case wqz => first | omega | exact Nat.le_of_ble_eq_true rfl)); intro D' h' F' N' l1; (try k_lt l1); (try k_sweep)))
local macro_rules | `(tactic| walk_at "binaryOp Add ref ref") => `(tactic| (k_here; (with_reducible show wpAny _ _ (binaryOp _ (Value.ref _) (Value.ref _)) _ _ _); k_dflt (refine' own_add ?wqF ?wqN ?wqa ?wqb ?_ ?wqz; (case wqF => k_asm); (case wqN => k_asm); (case wqa => k_mem); (case wqb => k_mem); (case wqz => first | (simp only [List.length_append, List.length_cons, List.length_nil, List.length_take, List.length_drop]; omega) | (rename IntsAre _ (List.take 6 _) => hq; have hq1 := IntsAre.length hq; simp only [List.length_append, List.length_cons, List.length_nil, List.length_take, List.length_drop] at hq1 ⊢; omega))); intro D' h' F' N' l1; (try k_lt l1); (try k_sweep)))

noncomputable def KCall (prog : Program) (w : World) (A : Around) (f : Value) (args : List Value) (Q : Value → Shared → Prop) (E : Value → Shared → Prop) (s : Shared) : Prop := wpAny (model prog w) A (call f args) Q E s
theorem kcall_start {prog : Program} {w : World} {A : Around} {f : Value} {args : List Value} {Q : Value → Shared → Prop} {E : Value → Shared → Prop} {s : Shared} (h : KCall prog w A f args Q E s) : wpAny (model prog w) A (call f args) Q E s := h
theorem kcall_end {prog : Program} {w : World} {A : Around} {f : Value} {args : List Value} {Q : Value → Shared → Prop} {E : Value → Shared → Prop} {s : Shared} (h : wpAny (model prog w) A (call f args) Q E s) : KCall prog w A f args Q E s := h
local macro_rules | `(tactic| walk_at "call ref") => `(tactic| (k_here; (with_reducible show wpAny _ _ (call (Value.ref _) _) _ _ _); refine kcall_start ?_))

set_option maxHeartbeats 100000000 in
theorem law_holds : PySem.Challenge.rw_wn0052_01.Holds := Mine.hd (by w_strict (
  k_fill;
  intro w s₀ s₁ mg mb Gr Y fa o pm cd doc dV kV ho hdd hcdd hD hmg hg args vals as hpre hlay hrd hwl hlo;
  have KX := kIn_of Y;
  have X := (Ground.X Gr).1;
  have V := (Ground.X Gr).2;
  (try w_nolog (first | (have GL := glob_more (Ground.glob Gr (by decide +kernel) (by decide +kernel)) V) | (have GL := glob_more (Ground.glob Gr (by decide +kernel)) V)));
  refine Ground.open Gr ?_;
  intro T B D TE TW;
  (try (refine guard_noD D (by decide +kernel) ?_; clear D));
  obtain ⟨_, _, M⟩ := bmod_of_top T;
  have TA := at_of_top T;
  (try (obtain ⟨_, _, he, B0⟩ := based_of_top T rfl hmg ho hdd; have he' : cd = _ := he; subst he'; clear he));
  clear hmg;
  wrow_args hpre hlay hrd hwl hlo;
  all_goals (
    (first | refine callC_kw (enter_call ?_) | refine enter_call ?_ | refine callC_kw (enter_callW ?_) | refine enter_callW ?_ | w_how);
    w_top on;
    (have K0 := below_caller (Top.heap T));
    w_call any ho hdd hcdd hD T F;
    clear hdd TA;
    k_drop);
  (all_goals try k_fold); (
  rename Heap.IsList _ _ _ => hL;
  rename IntsAre _ _ => hI;
  rename ¬ _ => hcd;
  rename (_ = (#[] : Array GenState)) => hgz;
  have hns := IntsAre.length hI;
  (rename List Int => ns);
  repeat' ((fail_if_success (with_reducible show LCg.CompEnd _ _ _ _ _ _ _ _ _ _ _ _ _ _)); (fail_if_success (with_reducible show KCall _ _ _ _ _ _ _ _)); (fail_if_success (with_reducible show KIter _ _ _ _ _ _ _ _ _ _)); (fail_if_success (with_reducible show KSrc _ _ _ _ _ _ _ _ _ _ _ _ _ _)); (first | (k_unfold; (try dsimp only)) | walk1 | (dsimp only; walk1) | (leave1; try dsimp only)));
  (rename Fr _ _ _ _ => lF); (rename News _ _ _ _ => lN); (rename IntsAre _ (List.take 6 _) => hI6);
  have hl6 := IntsAre.length hI6;
  have e6 : ((ns.length : Int)).toNat = ns.length := Int.toNat_natCast _;
  obtain ⟨n6, hn6⟩ : ∃ n6, List.take 6 ns ++ List.drop ns.length [5, 9, 0, 11, 2, 8] = n6 := ⟨_, rfl⟩;
  have hlen6 : n6.length = 6 := (by rw [← hn6]; simp only [List.length_append, List.length_take, List.length_drop, List.length_cons, List.length_nil]; omega);
  rw [e6] at lN;
  obtain ⟨e, he⟩ : ∃ e, 1 + (ns.sum + 442).fmod 3 = e := ⟨_, rfl⟩;
  obtain ⟨l, hl⟩ : ∃ l, 1 + ((ns.sum + 442).fdiv 3).fmod 3 = l := ⟨_, rfl⟩;
  obtain ⟨kd, hkd⟩ : ∃ kd, ((ns.sum + 442).fdiv 9).fmod 4 = kd := ⟨_, rfl⟩;
  obtain ⟨bd, hbd⟩ : ∃ bd, ((ns.sum + 442).fdiv 36).fmod 13 = bd := ⟨_, rfl⟩;
  obtain ⟨dr, hdr⟩ : ∃ dr, ns.sum + 442 = dr := ⟨_, rfl⟩;
  have be : 1 ≤ e ∧ e ≤ 3 := (by have := fmod_b (ns.sum + 442) (n := 3) (by decide); omega);
  have bl : 1 ≤ l ∧ l ≤ 3 := (by have := fmod_b ((ns.sum + 442).fdiv 3) (n := 3) (by decide); omega);
  have bk : 0 ≤ kd ∧ kd ≤ 3 := (by have := fmod_b ((ns.sum + 442).fdiv 9) (n := 4) (by decide); omega);
  have bb : 0 ≤ bd ∧ bd ≤ 12 := (by have := fmod_b ((ns.sum + 442).fdiv 36) (n := 13) (by decide); omega);
  rw [he, hl, hkd, hbd, hdr] at lF;
  obtain ⟨t1, t2, t3, t4, t5, m1, F1⟩ : ∃ t1 t2 t3 t4 t5 m1, Fr _ _ _ (see m1 [(Str.ofString "draw", .int dr t1), (Str.ofString "early", .int e t2), (Str.ofString "later", .int l t3), (Str.ofString "kind", .int kd t4), (Str.ofString "bound", .int bd t5)]) := (by refine' ⟨_, _, _, _, _, _, fr_see lF ?qz⟩; (case qz => kst_all));
  dsimp only [see] at F1;
  clear lF;
  refine kcall_end ?_;
  refine' sig_call (ns := n6) ?zB F1 ?zX lN ?zT ?zK ?zd ?zu (.head _) ?zv hlen6 ?zr;
  case zB => k_asm;
  case zX => k_asm;
  case zT => k_asm;
  case zK => exact rfl;
  case zd => ktr_room;
  case zu => ktr_units;
  case zv => (rw [← hn6]; exact IntsAre.append hI6 (IntsAre.drop (.cons _ _ (.cons _ _ (.cons _ _ (.cons _ _ (.cons _ _ (.cons _ _ .nil)))))) _));
  case zr =>
    intro ts h tk F N;
    replace N := news_nil N;
    clear F1 lN hI6 hl6;
    obtain ⟨x, hx⟩ : ∃ x, (sgRun n6).2 = x := ⟨_, rfl⟩;
    have hxl : x.length = 6 := hx ▸ (sig_good hlen6).1;
    rw [hx];
    repeat' ((fail_if_success (with_reducible show LCg.CompEnd _ _ _ _ _ _ _ _ _ _ _ _ _ _)); (fail_if_success (with_reducible show KCall _ _ _ _ _ _ _ _)); (fail_if_success (with_reducible show KIter _ _ _ _ _ _ _ _ _ _)); (fail_if_success (with_reducible show KSrc _ _ _ _ _ _ _ _ _ _ _ _ _ _)); (fail_if_success (with_reducible show wpAny _ _ (subscriptTail _ _ (Value.ref _) (Value.int _ _)) _ _ _)); (first | (k_unfold; (try dsimp only)) | walk1 | (dsimp only; walk1) | (leave1; try dsimp only)));
    (rename News _ _ _ _ => lN);
    refine' own_menu4 endsF lN (.tail _ (.head _)) ?wm0 ?wm1 ?wm2 ?wm3 ?wi0 ?wi1 ?wi2 ?wi3 bk.1 bk.2 ?wh ?ws;
    case wm0 => k_mem;
    case wm1 => k_mem;
    case wm2 => k_mem;
    case wm3 => k_mem;
    case wi0 => exact .nil;
    case wi1 => exact .cons _ _ (.cons _ _ .nil);
    case wi2 => exact .cons _ _ (.cons _ _ .nil);
    case wi3 => exact .cons _ _ .nil;
    case ws => with_unfolding_all rfl;
    case wh =>
      intro b9 v9 n9 hm9 hi9;
      have hv9 : v9.length ≤ 2 := (by rw [IntsAre.length hi9]; unfold endsF; split <;> (try split) <;> (try split) <;> decide);
      repeat' ((fail_if_success (with_reducible show LCg.CompEnd _ _ _ _ _ _ _ _ _ _ _ _ _ _)); (fail_if_success (with_reducible show KCall _ _ _ _ _ _ _ _)); (fail_if_success (with_reducible show KIter _ _ _ _ _ _ _ _ _ _)); (fail_if_success (with_reducible show KSrc _ _ _ _ _ _ _ _ _ _ _ _ _ _)); (first | (k_unfold; (try dsimp only)) | walk1 | (dsimp only; walk1) | (leave1; try dsimp only)));
      (rename Fr _ _ _ _ => lF); (rename News _ _ _ _ => lN);
      obtain ⟨vr, hvr0⟩ : ∃ vr, [Value.int e t2, Value.int l t3] ++ v9 = vr := ⟨_, rfl⟩;
      have hvr : IntsAre vr ([e, l] ++ endsF kd) := hvr0 ▸ IntsAre.append (.cons _ _ (.cons _ _ .nil)) hi9;
      rw [hvr0] at lN;
      obtain ⟨m2, F2, N2⟩ : ∃ m2, Fr _ _ _ (see m2 [(Str.ofString "draw", .int dr t1), (Str.ofString "early", .int e t2), (Str.ofString "later", .int l t3), (Str.ofString "kind", .int kd t4), (Str.ofString "bound", .int bd t5), (Str.ofString "signs", .str (mk x) ts), (Str.ofString "row", .ref _)]) ∧ News _ _ _ [(_, listOf vr.toArray 0)] := (by refine' ⟨_, fr_see lF ?qz, news_sub lN ?qy⟩; (case qz => kst_all); (case qy => exact fun p hp => by rw [List.mem_singleton.mp hp]; exact .head _));
      dsimp only [see] at F2;
      clear lF lN hm9 hi9 hv9 hvr0;
      refine kcall_end ?_;
      refine' told_call (rs := [e, l] ++ endsF kd) (spec := spc e l kd) ?yB F2 ?yX N2 ?yT ?yK ?yd ?yu ?yb (.head _) hvr (spc_match be bl bk) ?yr;
      case yB => k_asm;
      case yX => k_asm;
      case yT => k_asm;
      case yK => exact rfl;
      case yd => ktr_room;
      case yu => ktr_units;
      case yb => (show AllBare _; rw [hgz]; intro z hz; simp at hz);
      case yr =>
        intro tl' tv tn h tk G hV hG F N;
        obtain ⟨is, his, h9, hs9, hall⟩ := hV;
        obtain rfl : is = toldF e l kd := (told_is hall h9 hs9).resolve_right (fun q => q bk);
        clear F2 N2 hall h9 hs9;
        repeat' ((fail_if_success (with_reducible show LCg.CompEnd _ _ _ _ _ _ _ _ _ _ _ _ _ _)); (fail_if_success (with_reducible show KCall _ _ _ _ _ _ _ _)); (fail_if_success (with_reducible show KIter _ _ _ _ _ _ _ _ _ _)); (fail_if_success (with_reducible show KSrc _ _ _ _ _ _ _ _ _ _ _ _ _ _)); (fail_if_success (with_reducible show wpAny _ _ (subscriptTail _ _ (Value.ref _) (Value.int _ _)) _ _ _)); (first | (k_unfold; (try dsimp only)) | walk1 | (dsimp only; walk1) | (leave1; try dsimp only)));
        (rename News _ _ _ _ => lN);
        refine' own_menu4 (menF l) lN (.head _) ?wm0 ?wm1 ?wm2 ?wm3 ?wi0 ?wi1 ?wi2 ?wi3 bk.1 bk.2 ?wh ?ws;
        case wm0 => k_mem;
        case wm1 => k_mem;
        case wm2 => k_mem;
        case wm3 => k_mem;
        case wi0 => exact .nil;
        case wi1 => assumption;
        case wi2 => exact .nil;
        case wi3 => exact .cons _ _ .nil;
        case ws => with_unfolding_all rfl;
        case wh =>
          intro b9 v9 n9 hm9 hi9;
          have hv9 : v9.length ≤ 7 := (by rw [IntsAre.length hi9]; unfold menF; split <;> (try split) <;> (try split) <;> simp);
          repeat' ((fail_if_success (with_reducible show LCg.CompEnd _ _ _ _ _ _ _ _ _ _ _ _ _ _)); (fail_if_success (with_reducible show KCall _ _ _ _ _ _ _ _)); (fail_if_success (with_reducible show KIter _ _ _ _ _ _ _ _ _ _)); (fail_if_success (with_reducible show KSrc _ _ _ _ _ _ _ _ _ _ _ _ _ _)); (first | (k_unfold; (try dsimp only)) | walk1 | (dsimp only; walk1) | (leave1; try dsimp only)));
          rotate_left;
          exact absurd rfl (by assumption : ¬ toldF e l kd = [e, l] ++ menF l kd);
          (rename Fr _ _ _ _ => lF); (rename News _ _ _ _ => lN);
          obtain ⟨m3, F3, N3⟩ : ∃ m3, Fr _ _ _ (see m3 [(Str.ofString "draw", .int dr t1), (Str.ofString "early", .int e t2), (Str.ofString "later", .int l t3), (Str.ofString "kind", .int kd t4), (Str.ofString "bound", .int bd t5), (Str.ofString "signs", .str (mk x) ts), (Str.ofString "row", .ref _)]) ∧ News _ _ _ [(_, listOf vr.toArray 0)] := (by refine' ⟨_, fr_see lF ?qz, news_sub lN ?qy⟩; (case qz => kst_all); (case qy => exact fun p hp => by rw [List.mem_singleton.mp hp]; k_mem));
          dsimp only [see] at F3;
          clear lF lN hm9 hi9 hv9 his;
          refine kcall_end ?_;
          refine' cut_call (rs := [e, l] ++ endsF kd) (spec := spc e l kd) (x := x) ?yB F3 ?yX N3 ?yT ?yK ?yd ?yu hG (.head _) hvr (spc_match be bl bk) (Nat.le_of_eq hxl) (spc_pos be bl) ?yr;
          case yB => k_asm;
          case yX => k_asm;
          case yT => k_asm;
          case yK => exact rfl;
          case yd => ktr_room;
          case yu => ktr_units;
          case yr =>
            intro pl pv pn h tk G hV hG F N;
            obtain ⟨is, hpu, h6, hst, hpv, hpne⟩ := hV;
            rw [cut_is hxl be bl bk hpu h6 hst hpne] at hpv;
            clear F3 N3 hpu h6 hst hpne;
            obtain ⟨P, hP⟩ : ∃ P, pcF x e l kd = P := ⟨_, rfl⟩;
            rw [hP] at hpv;
            repeat' ((fail_if_success (with_reducible show LCg.CompEnd _ _ _ _ _ _ _ _ _ _ _ _ _ _)); (fail_if_success (with_reducible show KCall _ _ _ _ _ _ _ _)); (fail_if_success (with_reducible show KIter _ _ _ _ _ _ _ _ _ _)); (fail_if_success (with_reducible show KSrc _ _ _ _ _ _ _ _ _ _ _ _ _ _)); (first | (k_unfold; (try dsimp only)) | walk1 | (dsimp only; walk1) | (leave1; try dsimp only)));
            (rename Fr _ _ _ _ => lF); (rename News _ _ _ _ => lN);
            obtain ⟨m4, F4, N4⟩ : ∃ m4, Fr _ _ _ (see m4 [(Str.ofString "draw", .int dr t1), (Str.ofString "early", .int e t2), (Str.ofString "later", .int l t3), (Str.ofString "kind", .int kd t4), (Str.ofString "bound", .int bd t5), (Str.ofString "signs", .str (mk x) ts), (Str.ofString "pieces", .ref pl)]) ∧ News _ _ _ [(pl, listOf pv.toArray pn)] := (by refine' ⟨_, fr_see lF ?qz, news_sub lN ?qy⟩; (case qz => kst_all); (case qy => exact fun p hp => by rw [List.mem_singleton.mp hp]; k_mem));
            dsimp only [see] at F4;
            clear lF lN hvr;
            refine kcall_end ?_;
            refine' pcs_call (x := x) ?xB F4 ?xX N4 ?xT ?xK ?xd ?xu hG hxl be bl bk ?xr;
            case xB => k_asm;
            case xX => k_asm;
            case xT => k_asm;
            case xK => exact rfl;
            case xd => ktr_room;
            case xu => ktr_units;
            case xr =>
              intro ql qv qn h tk G hV hG F N;
              have hqv : StrsAre qv (P.map mk) := hP ▸ hV;
              clear F4 N4 hV;
              have hGood : Good P := (by rw [← hP, ← hx]; exact pcF_good hlen6 be bl bk);
              have hok : ∀ y ∈ P.map mk, PyData.strOk y = true := (by intro y hy; obtain ⟨p, hp, rfl⟩ := List.mem_map.mp hy; exact strOk_mk fun c hc => (ls_low c (hGood.ls_p hp c hc)).2.2.2.1);
              repeat' ((fail_if_success (with_reducible show LCg.CompEnd _ _ _ _ _ _ _ _ _ _ _ _ _ _)); (fail_if_success (with_reducible show KCall _ _ _ _ _ _ _ _)); (fail_if_success (with_reducible show KIter _ _ _ _ _ _ _ _ _ _)); (fail_if_success (with_reducible show KSrc _ _ _ _ _ _ _ _ _ _ _ _ _ _)); (first | (k_unfold; (try dsimp only)) | walk1 | (dsimp only; walk1) | (leave1; try dsimp only)));
              rotate_left;
              exact absurd rfl (by assumption : ¬ P.map mk = P.map mk);
              have hPflat : P.flatten = x := (by rw [← hP]; exact (pcF_flat hxl be bl bk).1);
              have hPsum : (P.map List.length).sum = 6 := (by rw [← List.length_flatten, hPflat, hxl]);
              have hPlen : P.length ≤ 6 := hPsum ▸ len_le_sum hGood.ne;
              (rename Fr _ _ _ _ => lF); (rename News _ _ _ _ => lN);
              obtain ⟨m5, F5, N5⟩ : ∃ m5, Fr _ _ _ (see m5 [(Str.ofString "draw", .int dr t1), (Str.ofString "bound", .int bd t5), (Str.ofString "signs", .str (mk x) ts), (Str.ofString "pieces", .ref pl)]) ∧ News _ _ _ [(pl, listOf pv.toArray pn)] := (by refine' ⟨_, fr_see lF ?qz, news_sub lN ?qy⟩; (case qz => kst_all); (case qy => exact fun p hp => by rw [List.mem_singleton.mp hp]; k_mem));
              dsimp only [see] at F5;
              clear lF lN hqv;
              refine kcall_end ?_;
              refine' ord_call (ps := P) ?xB F5 ?xX N5 ?xT ?xK ?xd ?xu (.head _) hpv (by omega) (by omega) ?xr;
              case xB => k_asm;
              case xX => k_asm;
              case xT => k_asm;
              case xK => exact rfl;
              case xd => ktr_room;
              case xu => ktr_units;
              case xr =>
                intro to h tk F N;
                clear F5 N5;
                repeat' ((fail_if_success (with_reducible show LCg.CompEnd _ _ _ _ _ _ _ _ _ _ _ _ _ _)); (fail_if_success (with_reducible show KCall _ _ _ _ _ _ _ _)); (fail_if_success (with_reducible show KIter _ _ _ _ _ _ _ _ _ _)); (fail_if_success (with_reducible show KSrc _ _ _ _ _ _ _ _ _ _ _ _ _ _)); (first | (k_unfold; (try dsimp only)) | walk1 | (dsimp only; walk1) | (leave1; try dsimp only)));
                (rename Fr _ _ _ _ => lF); (rename News _ _ _ _ => lN);
                refine' kfor_str (fun c : Str × Tok => [(Str.ofString "draw", .int dr t1), (Str.ofString "bound", .int bd t5), (Str.ofString "signs", .str (mk x) ts), (Str.ofString "pieces", .ref pl), (Str.ofString "ordered", .str (mk (ordF P).flatten) to), (Str.ofString "plain", .str c.1 c.2)]) (fun _ => [(pl, listOf pv.toArray pn)]) (fun j c => OutP P j c.1) ⟨_, _⟩ rfl go_name lF lN (fun _ h => h) ?ak ?ap ?aE ?aT ?ad;
                case ak => kst_all;
                case ap => exact outP_0 P;
                case aE => with_unfolding_all passes_own;
                case aT =>
                  clear lF lN;
                  rintro I j ch tch ⟨pln, tpl⟩ m h tk o hlt hvj hO hni F' N';
                  dsimp only [see] at F' N' hO hni;
                  have hch : Ls[j]? = some ch := (by rw [← ls_str]; simpa using hvj);
                  refine wpAny_assign_Name ?_;
                  repeat' ((fail_if_success (with_reducible show LCg.CompEnd _ _ _ _ _ _ _ _ _ _ _ _ _ _)); (fail_if_success (with_reducible show KCall _ _ _ _ _ _ _ _)); (fail_if_success (with_reducible show KIter _ _ _ _ _ _ _ _ _ _)); (fail_if_success (with_reducible show KSrc _ _ _ _ _ _ _ _ _ _ _ _ _ _)); (first | (k_unfold; (try dsimp only)) | walk1 | (dsimp only; walk1) | (leave1; try dsimp only)));
                  (rename Fr _ _ _ _ => lF); (rename News _ _ _ _ => lN);
                  refine' kfor_list (fun c : Str × Tok => [(Str.ofString "draw", .int dr t1), (Str.ofString "bound", .int bd t5), (Str.ofString "signs", .str (mk x) ts), (Str.ofString "pieces", .ref pl), (Str.ofString "ordered", .str (mk (ordF P).flatten) to), (Str.ofString "first", .str ⟨#[ch]⟩ tch), (Str.ofString "plain", .str c.1 c.2)]) (fun _ => [(I, o), (pl, listOf pv.toArray pn)]) (fun i c => InP P j ch i c.1) ⟨_, _⟩ rfl (fun _ => .tail _ (.head _)) go_nameL lF lN (fun _ h => h) ?ck ?cp ?cE ?cT ?cd;
                  case ck => kst_all;
                  case cp => exact in_0 hO;
                  case cE => with_unfolding_all passes_own;
                  case cT =>
                    clear lF lN;
                    rintro I2 i v ⟨pln2, tpl2⟩ m h tk o2 hlt2 hvi hIn hni2 F' N';
                    dsimp only [see] at F' N' hIn hni2;
                    obtain ⟨y, ty, rfl, hy⟩ := StrsAre.item hpv i v hvi;
                    obtain ⟨p, hp, rfl⟩ : ∃ p, P[i]? = some p ∧ mk p = y := (by rw [List.getElem?_map] at hy; cases hq : P[i]? with | none => (rw [hq] at hy; cases hy) | some p => (rw [hq] at hy; exact ⟨p, rfl, Option.some.inj hy⟩));
                    have hpm := List.mem_of_getElem? hp;
                    have hl1 : 1 ≤ (mk p).length := (by rw [mk_len]; exact List.length_pos_iff.mpr (hGood.ne p hpm));
                    have hl2 : (mk p).length ≤ 6 := (by rw [mk_len, ← hPsum]; exact len_p hpm);
                    have hl3 := in_bound hIn hO.1 (Nat.le_of_eq hPsum);
                    have hiff := item_f hGood hp (ch := ch);
                    refine wpAny_assign_Name ?_;
                    repeat' ((fail_if_success (with_reducible show LCg.CompEnd _ _ _ _ _ _ _ _ _ _ _ _ _ _)); (fail_if_success (with_reducible show KCall _ _ _ _ _ _ _ _)); (fail_if_success (with_reducible show KIter _ _ _ _ _ _ _ _ _ _)); (fail_if_success (with_reducible show KSrc _ _ _ _ _ _ _ _ _ _ _ _ _ _)); (first | (k_unfold; (try dsimp only)) | walk1 | (dsimp only; walk1) | (leave1; try dsimp only)));
                    refine' NextF.intro ⟨_, _⟩ ?bF ?bN (in_t hIn hp (hiff.mp (by assumption))) hni2 (fun _ h => h) ?bk;
                    case bF => assumption;
                    case bN => assumption;
                    case bk => kst_all;
                    refine' NextF.intro ⟨_, _⟩ ?bF ?bN (in_f hIn hp (fun q => by have := hiff.mpr q; simp_all)) hni2 (fun _ h => h) ?bk;
                    case bF => assumption;
                    case bN => assumption;
                    case bk => kst_all;
                  case cd =>
                    clear lF lN;
                    rintro ⟨pln2, tpl2⟩ m h tk hIn F' N';
                    dsimp only [see] at F' N' hIn;
                    rw [StrsAre.len_eq hpv, List.length_map] at hIn;
                    repeat' ((fail_if_success (with_reducible show LCg.CompEnd _ _ _ _ _ _ _ _ _ _ _ _ _ _)); (fail_if_success (with_reducible show KCall _ _ _ _ _ _ _ _)); (fail_if_success (with_reducible show KIter _ _ _ _ _ _ _ _ _ _)); (fail_if_success (with_reducible show KSrc _ _ _ _ _ _ _ _ _ _ _ _ _ _)); (first | (k_unfold; (try dsimp only)) | walk1 | (dsimp only; walk1) | (leave1; try dsimp only)));
                    refine' NextF.intro ⟨_, _⟩ ?bF ?bN (in_end hIn hch (Nat.le_of_eq hPsum)) hni (fun _ h => h) ?bk;
                    case bF => assumption;
                    case bN => assumption;
                    case bk => kst_all;
                case ad =>
                  clear lF lN;
                  rintro ⟨pln, tpl⟩ m h tk hO F' N';
                  dsimp only [see] at F' N' hO;
                  have h13 : (Str.ofString "\"PQRSTUpqrstu").cps.size = 13 := (by decide +kernel);
                  rw [h13] at hO;
                  obtain rfl : pln = mk (ordF P).flatten := out_end hGood hO;
                  have hol : (mk (ordF P).flatten).length = 6 := (by rw [mk_len, List.length_flatten, ordF_sum, hPsum]);
                  have hsl : Txt.lower (mk (ordF P).flatten) = mk ((ordF P).flatten.map lowc) := lower_mk (fun c hc => (ls_low c (hGood.ls c ((ord_perm P).flatten.mem_iff.mp hc))).2.2.2.1);
                  have hsl2 : (Txt.lower (mk (ordF P).flatten)).length = 6 := (by rw [hsl, mk_len, List.length_map, ← mk_len, hol]);
                  repeat' ((fail_if_success (with_reducible show LCg.CompEnd _ _ _ _ _ _ _ _ _ _ _ _ _ _)); (fail_if_success (with_reducible show KCall _ _ _ _ _ _ _ _)); (fail_if_success (with_reducible show KIter _ _ _ _ _ _ _ _ _ _)); (fail_if_success (with_reducible show KSrc _ _ _ _ _ _ _ _ _ _ _ _ _ _)); (fail_if_success (with_reducible show wpAny _ _ (subscriptTail _ _ (Value.ref _) (Value.int _ _)) _ _ _)); (first | (k_unfold; (try dsimp only)) | walk1 | (dsimp only; walk1) | (leave1; try dsimp only)));
                  exact absurd (by assumption : (mk (ordF P).flatten != mk (ordF P).flatten) = true) (by simp);
                  (rename Fr _ _ _ _ => lF); (rename News _ _ _ _ => lN);
                  rw [hsl] at lF;
                  obtain ⟨sm, hsm⟩ : ∃ sm, (ordF P).flatten.map lowc = sm := ⟨_, rfl⟩;
                  have hsml : sm.length = 6 := (by rw [← hsm, List.length_map, ← mk_len, hol]);
                  rw [hsm] at lF;
                  obtain ⟨ts2, m6, F6⟩ : ∃ ts2 m6, Fr _ _ _ (see m6 [(Str.ofString "bound", .int bd t5), (Str.ofString "signs", .str (mk x) ts), (Str.ofString "pieces", .ref pl), (Str.ofString "small", .str (mk sm) ts2)]) := (by refine' ⟨_, _, fr_see lF ?qz⟩; (case qz => kst_all));
                  dsimp only [see] at F6;
                  clear lF F' N';
                  have b2 := fmod_b dr (n := 2) (by decide);
                  refine' own_menu2s lN (.head _) b2.1 (by omega) ?wh ?ws;
                  case ws => with_unfolding_all rfl;
                  case wh =>
                    intro y ty hy;
                    obtain ⟨en, rfl, hen⟩ := end_is hy;
                    have henl : (mk en).length ≤ 5 := (by rw [mk_len]; exact end_len hen);
                    have hxl2 : (mk x).length = 6 := (by rw [mk_len, hxl]);
                    have hsl3 : (mk sm).length = 6 := (by rw [mk_len, hsml]);
                    replace lN := news_sub (l' := [(pl, listOf pv.toArray pn)]) lN (fun p hp => by rw [List.mem_singleton.mp hp]; k_mem);
                    repeat' ((fail_if_success (with_reducible show LCg.CompEnd _ _ _ _ _ _ _ _ _ _ _ _ _ _)); (fail_if_success (with_reducible show KCall _ _ _ _ _ _ _ _)); (fail_if_success (with_reducible show KIter _ _ _ _ _ _ _ _ _ _)); (fail_if_success (with_reducible show KSrc _ _ _ _ _ _ _ _ _ _ _ _ _ _)); (first | (k_unfold; (try dsimp only)) | walk1 | (dsimp only; walk1) | (leave1; try dsimp only)));
                    refine kcall_end ?_;
                    refine' rep_call2 ?vB ?vF ?vX ?vN ?vT ?vK ?vd ?vu (by omega) (by omega) ?vr;
                    case vB => k_asm;
                    case vF => k_asm;
                    case vX => k_asm;
                    case vN => k_asm;
                    case vT => k_asm;
                    case vK => exact rfl;
                    case vd => ktr_room;
                    case vu => ktr_units;
                    case vr =>
                      intro tr1 h tk F N;
                      (try dsimp only at F);
                      repeat' ((fail_if_success (with_reducible show LCg.CompEnd _ _ _ _ _ _ _ _ _ _ _ _ _ _)); (fail_if_success (with_reducible show KCall _ _ _ _ _ _ _ _)); (fail_if_success (with_reducible show KIter _ _ _ _ _ _ _ _ _ _)); (fail_if_success (with_reducible show KSrc _ _ _ _ _ _ _ _ _ _ _ _ _ _)); (first | (k_unfold; (try dsimp only)) | walk1 | (dsimp only; walk1) | (leave1; try dsimp only)));
                      refine kcall_end ?_;
                      refine' rep_call2 ?vB ?vF ?vX ?vN ?vT ?vK ?vd ?vu (by omega) (by omega) ?vr;
                      case vB => k_asm;
                      case vF => k_asm;
                      case vX => k_asm;
                      case vN => k_asm;
                      case vT => k_asm;
                      case vK => exact rfl;
                      case vd => ktr_room;
                      case vu => ktr_units;
                      case vr =>
                        intro tr2 h tk F N;
                        (try dsimp only at F);
                        repeat' ((fail_if_success (with_reducible show LCg.CompEnd _ _ _ _ _ _ _ _ _ _ _ _ _ _)); (fail_if_success (with_reducible show KCall _ _ _ _ _ _ _ _)); (fail_if_success (with_reducible show KIter _ _ _ _ _ _ _ _ _ _)); (fail_if_success (with_reducible show KSrc _ _ _ _ _ _ _ _ _ _ _ _ _ _)); (first | (k_unfold; (try dsimp only)) | walk1 | (dsimp only; walk1) | (leave1; try dsimp only)));
                        (rename Fr _ _ _ _ => lF); (rename News _ _ _ _ => lN);
                        refine' own_comp (vs := [.str (mk (50 :: 53 :: 55 :: 32 :: 34 :: (dbl x ++ 34 :: en))) tr1, .str (mk (50 :: 53 :: 55 :: 32 :: 34 :: (dbl sm ++ 34 :: en))) tr2]) (nn := 0) (fun i y => ∃ n t, [x, sm][i]? = some n ∧ y = .str (mk n) t) ?wh lF lN (.head _) (Nat.le_of_ble_eq_true rfl) ?wt ?wf;
                        case wh => exact rfl;
                        case wt =>
                          intro g i v I oI C oC D m₂ ys h tk E' hvi hC hx2 F' N' off ne;
                          obtain ⟨n, tn, hn, hn6, rfl⟩ : ∃ n t, [x, sm][i]? = some n ∧ n.length = 6 ∧ v = Value.str (mk (50 :: 53 :: 55 :: 32 :: 34 :: (dbl n ++ 34 :: en))) t := (by
                            rcases i with _ | _ | i
                            · exact ⟨x, tr1, rfl, hxl, (Option.some.inj hvi).symm⟩
                            · exact ⟨sm, tr2, rfl, hsml, (Option.some.inj hvi).symm⟩
                            · simp at hvi);
                          have hrl : (mk (50 :: 53 :: 55 :: 32 :: 34 :: (dbl n ++ 34 :: en))).length ≤ 1000 := (by rw [mk_len]; simp only [List.length_cons, List.length_append]; have := dbl_len2 n; have := end_len hen; omega);
                          repeat' ((fail_if_success (with_reducible show LCg.CompEnd _ _ _ _ _ _ _ _ _ _ _ _ _ _)); (fail_if_success (with_reducible show KCall _ _ _ _ _ _ _ _)); (fail_if_success (with_reducible show KIter _ _ _ _ _ _ _ _ _ _)); (fail_if_success (with_reducible show KSrc _ _ _ _ _ _ _ _ _ _ _ _ _ _)); (first | (k_unfold; (try dsimp only)) | walk1 | (dsimp only; walk1) | (leave1; try dsimp only)));
                          refine kcall_end ?_;
                          refine' par_call (name := n) (e := en) ?vB ?vF ?vX ?vN ?vT ?vK ?vd ?vu hrl (reply_257 (n := n) (e := en)) (reply_sq (n := n) (e := en)) rfl (end_34 hen) ?vr;
                          case vB => k_asm;
                          case vF => k_asm;
                          case vX => k_asm;
                          case vN => k_asm;
                          case vT => k_asm;
                          case vK => exact rfl;
                          case vd => ktr_room;
                          case vu => ktr_units;
                          case vr =>
                            intro tp h tk F N;
                            exact LCg.CompEnd.intro F N _ (fun _ h => h) off (.inr ⟨_, .head _, rfl, _, rfl⟩) ⟨rfl, n, _, hn, rfl⟩;
                        case wf =>
                          intro g ys hys hV D h tk F N off;
                          clear lF lN;
                          have hnm : StrsAre ys ([x, sm].map mk) := strs_of_get (by rw [hys]; rfl) (fun j y hj => by obtain ⟨n, t, h1, h2⟩ := hV j y hj; exact ⟨_, t, by rw [List.getElem?_map, h1]; rfl, h2⟩);
                          have hok2 : ∀ y ∈ [x, sm].map mk, PyData.strOk y = true := (by
                            have h1 : ∀ c ∈ x, c < 128 := fun c hc => (ls_low c (hGood.ls c (hPflat.symm ▸ hc))).2.2.2.1
                            have h2 : ∀ c ∈ sm, c < 128 := fun c hc => by
                              rw [← hsm] at hc
                              obtain ⟨d, hd, rfl⟩ := List.mem_map.mp hc
                              exact (ls_low d (hGood.ls d ((ord_perm P).flatten.mem_iff.mp hd))).2.2.2.2.1
                            intro y hy
                            rcases List.mem_cons.mp hy with rfl | hy
                            · exact strOk_mk h1
                            · rcases List.mem_cons.mp hy with rfl | hy
                              · exact strOk_mk h2
                              · cases hy);
                          repeat' ((fail_if_success (with_reducible show LCg.CompEnd _ _ _ _ _ _ _ _ _ _ _ _ _ _)); (fail_if_success (with_reducible show KCall _ _ _ _ _ _ _ _)); (fail_if_success (with_reducible show KIter _ _ _ _ _ _ _ _ _ _)); (fail_if_success (with_reducible show KSrc _ _ _ _ _ _ _ _ _ _ _ _ _ _)); (first | (k_unfold; (try dsimp only)) | walk1 | (dsimp only; walk1) | (leave1; try dsimp only)));
                          rotate_left;
                          exact absurd rfl (by assumption : ¬ List.map mk [x, sm] = [mk x, mk sm]);
                          obtain ⟨ta, tb, rfl⟩ : ∃ ta tb, ys = [.str (mk x) ta, .str (mk sm) tb] := (by
                            cases hnm with
                            | cons _ ta h => cases h with
                              | cons _ tb h => cases h with
                                | nil => exact ⟨ta, tb, rfl⟩);
                          have hfar : wayF P 1 = (Mine.D (dbl x) (dbl sm) : Nat) := (by rw [← hPflat, ← hsm]; exact way_dbl hGood (fun _ => rfl));
                          have hdue : wayF P 0 = (Mine.D x sm : Nat) := (by rw [← hPflat, ← hsm]; exact way_plain hGood (fun _ => rfl));
                          have hdl : (dbl x).length = (dbl sm).length := (by rw [← hPflat, ← hsm]; exact dbl_len_eq hGood);
                          have hdle := D_le_sum (dbl x) (dbl sm);
                          have hdx := dbl_len2 x;
                          have hdsm := dbl_len2 sm;
                          have hple : ∀ p ∈ P, p.length ≤ 100 := (fun p hp => by have := len_p hp; omega);
                          refine kcall_end ?_;
                          refine' way_call (ps := P) (nn := pn) (vs := pv) ?vB ?vF ?vX ?vN ?vT ?vK ?vd ?vu ?vl hpv (by omega) hGood.ne hple (by decide) (by decide) ?vr;
                          case vB => k_asm;
                          case vF => k_asm;
                          case vX => k_asm;
                          case vN => k_asm;
                          case vT => k_asm;
                          case vK => exact rfl;
                          case vd => ktr_room;
                          case vu => ktr_units;
                          case vl => k_mem;
                          case vr =>
                            intro tw h tk F N;
                            (try dsimp only at F);
                            rw [hfar];
                            repeat' ((fail_if_success (with_reducible show LCg.CompEnd _ _ _ _ _ _ _ _ _ _ _ _ _ _)); (fail_if_success (with_reducible show KCall _ _ _ _ _ _ _ _)); (fail_if_success (with_reducible show KIter _ _ _ _ _ _ _ _ _ _)); (fail_if_success (with_reducible show KSrc _ _ _ _ _ _ _ _ _ _ _ _ _ _)); (first | (k_unfold; (try dsimp only)) | walk1 | (dsimp only; walk1) | (leave1; try dsimp only)));
                            refine kcall_end ?_;
                            refine' lev_call ?vB ?vF ?vX ?vN ?vT ?vK ?vd ?vu (reply_len hxl hen) ?ve (Int.natCast_nonneg _) ?vm ?vr;
                            case vB => k_asm;
                            case vF => k_asm;
                            case vX => k_asm;
                            case vN => k_asm;
                            case vT => k_asm;
                            case vK => exact rfl;
                            case vd => ktr_room;
                            case vu => ktr_units;
                            case ve => (simp only [List.length_cons, List.length_append]; omega);
                            case vm => omega;
                            case vr =>
                              intro r hr tr h tk F N;
                              (try dsimp only at F);
                              obtain rfl : r = (Mine.D (dbl x) (dbl sm) : Nat) := (by have := hr.1 (by rw [reply_D']; exact Int.le_refl _); rw [this, reply_D']);
                              clear hr;
                              repeat' ((fail_if_success (with_reducible show LCg.CompEnd _ _ _ _ _ _ _ _ _ _ _ _ _ _)); (fail_if_success (with_reducible show KCall _ _ _ _ _ _ _ _)); (fail_if_success (with_reducible show KIter _ _ _ _ _ _ _ _ _ _)); (fail_if_success (with_reducible show KSrc _ _ _ _ _ _ _ _ _ _ _ _ _ _)); (first | (k_unfold; (try dsimp only)) | walk1 | (dsimp only; walk1) | (leave1; try dsimp only)));
                              exact absurd rfl (by assumption : ((Mine.D (dbl x) (dbl sm) : Nat) : Int) ≠ ((Mine.D (dbl x) (dbl sm) : Nat) : Int));
                              refine kcall_end ?_;
                              refine' way_call (ps := P) (nn := pn) (vs := pv) ?vB ?vF ?vX ?vN ?vT ?vK ?vd ?vu ?vl hpv (by omega) hGood.ne hple (by decide) (by decide) ?vr;
                              case vB => k_asm;
                              case vF => k_asm;
                              case vX => k_asm;
                              case vN => k_asm;
                              case vT => k_asm;
                              case vK => exact rfl;
                              case vd => ktr_room;
                              case vu => ktr_units;
                              case vl => k_mem;
                              case vr =>
                                intro tw2 h tk F N;
                                (try dsimp only at F);
                                rw [hdue];
                                repeat' ((fail_if_success (with_reducible show LCg.CompEnd _ _ _ _ _ _ _ _ _ _ _ _ _ _)); (fail_if_success (with_reducible show KCall _ _ _ _ _ _ _ _)); (fail_if_success (with_reducible show KIter _ _ _ _ _ _ _ _ _ _)); (fail_if_success (with_reducible show KSrc _ _ _ _ _ _ _ _ _ _ _ _ _ _)); (first | (k_unfold; (try dsimp only)) | walk1 | (dsimp only; walk1) | (leave1; try dsimp only)));
                                refine kcall_end ?_;
                                refine' lev_call ?vB ?vF ?vX ?vN ?vT ?vK ?vd ?vu (by omega) (by omega) bb.1 (by omega) ?vr;
                                case vB => k_asm;
                                case vF => k_asm;
                                case vX => k_asm;
                                case vN => k_asm;
                                case vT => k_asm;
                                case vK => exact rfl;
                                case vd => ktr_room;
                                case vu => ktr_units;
                                case vr =>
                                  intro r hr tr h tk F N;
                                  (try dsimp only at F);
                                  obtain ⟨hr1, hr2⟩ := hr;
                                  repeat' ((fail_if_success (with_reducible show LCg.CompEnd _ _ _ _ _ _ _ _ _ _ _ _ _ _)); (fail_if_success (with_reducible show KCall _ _ _ _ _ _ _ _)); (fail_if_success (with_reducible show KIter _ _ _ _ _ _ _ _ _ _)); (fail_if_success (with_reducible show KSrc _ _ _ _ _ _ _ _ _ _ _ _ _ _)); (first | (k_unfold; (try dsimp only)) | walk1 | (dsimp only; walk1) | (leave1; try dsimp only)));
                                  rotate_left;
                                  rotate_left;
                                  (exfalso; have hq : bd < r := (hr2 (Int.not_le.mp (by assumption))).1; exact absurd hq (by assumption));
                                  (have hq : r = _ := hr1 (by assumption); subst hq);
                                  dsimp only;
                                  (refine own_end (by assumption) (fun _ => rfl) (post_true _) (by assumption) (by simp));
                                  dsimp only;
                                  (refine own_end (by assumption) (fun _ => rfl) (post_true _) (by assumption) (by have := (hr2 (Int.not_le.mp (by assumption))).2; simpa using this)))))
end
end
end
end Mine
set_option maxHeartbeats 8000000 in
theorem PySem.Challenge.cw_wn0052_01_holds : PySem.Challenge.rw_wn0052_01.Holds := by
  exact Mine.law_holds
