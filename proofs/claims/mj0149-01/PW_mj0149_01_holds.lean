import PyProof.Rows.All
import Wide.All
import OpenK.AllK
import Wide.FinOn
import Lean
import PySem.Challenge.RW_mj0149_01
set_option Elab.async false
namespace Mine

section
open PySem PySem.W PyProof.Rows
set_option maxRecDepth 100000
set_option maxHeartbeats 8000000
open_top hd for PySem.Challenge.rw_mj0149_01
end

local macro_rules | `(tactic| walk_at $s:str) => `(tactic| k_extra $s)

section
open PySem PySem.W PyProof.Rows PySem.Calls
set_option maxRecDepth 100000
set_option maxHeartbeats 8000000

/-- no run takes a token back -/
theorem runs_toks {M : Model} {Γ : Ctx} {p : Pos} {t : Sem Fin} {fs : List Frame} {s : Shared} {e : End} {s' : Shared} (h : Runs M Γ p t fs s e s') : s.toks ≤ s'.toks := by
  induction h with
  | done | raise | yield => exact Nat.le_refl _
  | again _ _ ih | rule _ ih | «at» _ ih | load _ _ ih | update _ _ ih | loadIfAlive _ ih | point _ ih | alloc _ ih | ask _ ih | choose _ _ ih | os _ ih | handled _ ih | genState _ _ ih | stack _ ih | thread _ ih | newGen _ ih => exact ih
  | fresh _ ih => exact Nat.le_of_succ_le ih
  | call _ _ ih1 ih2 => exact Nat.le_trans ih1 ih2
  | callSusp _ ih => exact ih
  | resumeFresh _ _ _ _ ih1 ih2 => exact Nat.le_trans ih1 ih2
  | resumeSuspended _ _ _ _ ih1 ih2 => exact Nat.le_trans ih1 ih2
  | resumeJustStarted _ _ _ ih => exact ih
  | resumeThrowFresh _ _ ih => exact ih
  | resumeRunning _ _ ih => exact ih
  | resumeFinished _ _ ih => exact ih
  | segRet _ _ ih1 ih2 => exact Nat.le_trans ih1 ih2
  | segGen _ _ ih1 ih2 => exact Nat.le_trans ih1 ih2
  | segSuspOut _ _ ih => exact ih
  | segSuspGen _ _ _ _ ih1 ih2 => exact Nat.le_trans ih1 ih2

theorem wakes_toks {M : Model} {Γ : Ctx} {p : Pos} {g : Nat} {r : Resume} {s s' : Shared} {res : GenResult} (h : Wakes M Γ p g r s res s') : s.toks ≤ s'.toks := by
  unfold Wakes at h
  split at h
  · exact h.elim
  · split at h
    · obtain ⟨e, s₁, hr, _, _, rfl⟩ := h; have q := runs_toks hr; exact q
    · obtain ⟨_, rfl⟩ := h; exact Nat.le_refl _
    · obtain ⟨_, rfl⟩ := h; exact Nat.le_refl _
  · obtain ⟨e, s₁, hr, _, _, rfl⟩ := h; have q := runs_toks hr; exact q
  · obtain ⟨_, rfl⟩ := h; exact Nat.le_refl _
  · obtain ⟨_, rfl⟩ := h; exact Nat.le_refl _

theorem wp_toks {α : Type} (M : Model) (Γ : Ctx) (t : Sem α) (Q : α → Pos → Shared → Prop) (E : Value → Pos → Shared → Prop) (n : Nat) :
    ∀ (p : Pos) (s : Shared), n ≤ s.toks → Sem.wp M Γ t Q E p s → Sem.wp M Γ t (fun a p' s' => Q a p' s' ∧ n ≤ s'.toks) (fun e p' s' => E e p' s' ∧ n ≤ s'.toks) p s := by
  induction t with
  | pure x => exact fun p s hn h => ⟨h, hn⟩
  | raise v => exact fun p s hn h => ⟨h, hn⟩
  | unsupported | finish | yield | fork | await | register => exact fun p s hn h => h
  | rule _ k ih | «at» _ k ih | alloc _ k ih | loadIfAlive _ k ih | point _ k ih | ask k ih | os _ _ k ih | handled _ k ih | newGen _ k ih | stack k ih | thread k ih => exact fun p s hn h => ih _ _ _ hn h
  | fresh k ih => exact fun p s hn h => ih _ _ _ (Nat.le_succ_of_le hn) h
  | load a _ k ih | genState a k ih => exact fun p s hn ⟨o, ho, h⟩ => ⟨o, ho, ih _ _ _ hn h⟩
  | update a _ f k ih | choose _ _ k ih => exact fun p s hn ⟨ha, h⟩ => ⟨ha, ih _ _ _ hn h⟩
  | call c h g l k ih =>
    rintro p s hn ⟨r, s₁, hr, hw⟩
    exact ⟨r, s₁, hr, ih r p s₁ (Nat.le_trans hn (runs_toks hr)) hw⟩
  | resume g r l k ih => exact fun p s hn ⟨res, s', hw, h⟩ => ⟨res, s', hw, ih _ _ _ (Nat.le_trans hn (wakes_toks hw)) h⟩

theorem wpAny_toks {α : Type} {M : Model} {A : Around} {t : Sem α} {Q : α → Shared → Prop} {E : Value → Shared → Prop} {s : Shared} (h : wpAny M A t Q E s) :
    wpAny M A t (fun a s' => Q a s' ∧ s.toks ≤ s'.toks) (fun e s' => E e s' ∧ s.toks ≤ s'.toks) s :=
  fun Γ p hΓ => wp_toks M Γ t _ _ s.toks p s (Nat.le_refl _) (h Γ p hΓ)
end

section
open PySem PySem.W PyProof.Rows PySem.Calls
set_option maxRecDepth 100000
set_option maxHeartbeats 8000000

abbrev TopAt (mean : ExcName → Option Value) (mg mb : Str → Option Value) (h : Heap) : Prop :=
  Top hd.view_39 (looseW hd.view_39 [Str.ofString "EXACT_TOKEN_TYPES"]) mean mg mb h

/-- all of h stands in h' -/
abbrev Kept (h h' : Heap) : Prop := ∀ b o, h.get? b = some o → h'.get? b = some o

theorem enter {prog : Program} {w : World} {A : Around} {s : Shared} {K : Frag} {p : Program} {loose : List Str} {mean : ExcName → Option Value} {mg mb : Str → Option Value}
    {name qual : Str} {params : Arguments} {body : List Stmt} {scope : Scope} {dV kV doc pm cdv ct oc : Value} {an od : Option Addr} {osl : Array (Option Value)} {f : Addr} {args : List Value} {binds : List (Str × Value)}
    {Q E : Value → Shared → Prop}
    (X : K.In s.heap) (T : Top p loose mean mg mb s.heap)
    (ho : K.lookup f = some ⟨oc, od, .func (fnOf name qual params body scope dV kV doc pm an cdv ct), osl⟩) (hcd : codeIn K cdv qual = true) (hroom : A.depth < recursionLimit)
    (hbind : BindsTo s (fnOf name qual params body scope dV kV doc pm an cdv ct) ⟨args, []⟩ binds) (hloc : ∀ y ∈ binds, scope.names.lookup y.1 = some .local)
    (h : ∀ L h₁ m tk, s.toks ≤ tk → m = (fun y => binds.reverse.lookup y) → Fr s.heap L h₁ m →
      wpAny (model prog w) (A.deeper (envOf qual scope L f cdv)) (execs body (envOf qual scope L f cdv))
        (fun fl s' => Q (match fl with | .ret v => v | _ => .none) s') (fun _ _ => False) { s with heap := h₁, toks := tk })
    (hco : scope.isCoroutine = false) (hgen : scope.isGenerator = false) (hk : scope.kind = .function)
    (hcell : ∀ x ∈ scope.names, x.2 ≠ .cell) : wpAny (model prog w) A (call (.ref f) args) Q E s := by
  refine wpAny_call ?_
  refine codeAny_call_def (fd := fnOf name qual params body scope dV kV doc pm an cdv ct) (body := body) (binds := binds) hroom (X _ _ ho) rfl T.nolimit (codeRec_of X hcd) rfl hbind hcell hloc (fun h₁ hns hk₁ => ?_) hco hgen hk
  exact wpAny_mono (h _ h₁ _ _ (Nat.le_add_right _ _) rfl ⟨hns, hk₁, Nat.le_refl _⟩) (fun _ _ q => q) fun _ _ q => q.elim

theorem frPin {h₀ h : Heap} {L : Addr} {m : Str → Option Value} {x : Str} {v : Value} (F : Fr h₀ L h m) (hx : m x = some v) :
    Fr h₀ L h (fun y => if y = x then some v else m y) := by
  have e : (fun y => if y = x then some v else m y) = m := by
    funext y
    by_cases q : y = x
    · rw [if_pos q, q, hx]
    · rw [if_neg q]
  rw [e]; exact F

theorem frPin2 {h₀ h : Heap} {L : Addr} {m : Str → Option Value} {x1 x2 : Str} {v1 v2 : Value} (F : Fr h₀ L h m) (h1 : m x1 = some v1) (h2 : m x2 = some v2) :
    Fr h₀ L h (fun y => if y = x1 then some v1 else if y = x2 then some v2 else m y) := by
  have e : (fun y => if y = x1 then some v1 else if y = x2 then some v2 else m y) = m := by
    funext y
    (repeat' split) <;> simp_all
  rw [e]; exact F
theorem frPin3 {h₀ h : Heap} {L : Addr} {m : Str → Option Value} {x1 x2 x3 : Str} {v1 v2 v3 : Value} (F : Fr h₀ L h m) (h1 : m x1 = some v1) (h2 : m x2 = some v2) (h3 : m x3 = some v3) :
    Fr h₀ L h (fun y => if y = x1 then some v1 else if y = x2 then some v2 else if y = x3 then some v3 else m y) := by
  have e : (fun y => if y = x1 then some v1 else if y = x2 then some v2 else if y = x3 then some v3 else m y) = m := by
    funext y
    (repeat' split) <;> simp_all
  rw [e]; exact F
theorem frPin4 {h₀ h : Heap} {L : Addr} {m : Str → Option Value} {x1 x2 x3 x4 : Str} {v1 v2 v3 v4 : Value} (F : Fr h₀ L h m) (h1 : m x1 = some v1) (h2 : m x2 = some v2) (h3 : m x3 = some v3) (h4 : m x4 = some v4) :
    Fr h₀ L h (fun y => if y = x1 then some v1 else if y = x2 then some v2 else if y = x3 then some v3 else if y = x4 then some v4 else m y) := by
  have e : (fun y => if y = x1 then some v1 else if y = x2 then some v2 else if y = x3 then some v3 else if y = x4 then some v4 else m y) = m := by
    funext y
    (repeat' split) <;> simp_all
  rw [e]; exact F
theorem frPin5 {h₀ h : Heap} {L : Addr} {m : Str → Option Value} {x1 x2 x3 x4 x5 : Str} {v1 v2 v3 v4 v5 : Value} (F : Fr h₀ L h m) (h1 : m x1 = some v1) (h2 : m x2 = some v2) (h3 : m x3 = some v3) (h4 : m x4 = some v4) (h5 : m x5 = some v5) :
    Fr h₀ L h (fun y => if y = x1 then some v1 else if y = x2 then some v2 else if y = x3 then some v3 else if y = x4 then some v4 else if y = x5 then some v5 else m y) := by
  have e : (fun y => if y = x1 then some v1 else if y = x2 then some v2 else if y = x3 then some v3 else if y = x4 then some v4 else if y = x5 then some v5 else m y) = m := by
    funext y
    (repeat' split) <;> simp_all
  rw [e]; exact F
theorem frPin6 {h₀ h : Heap} {L : Addr} {m : Str → Option Value} {x1 x2 x3 x4 x5 x6 : Str} {v1 v2 v3 v4 v5 v6 : Value} (F : Fr h₀ L h m) (h1 : m x1 = some v1) (h2 : m x2 = some v2) (h3 : m x3 = some v3) (h4 : m x4 = some v4) (h5 : m x5 = some v5) (h6 : m x6 = some v6) :
    Fr h₀ L h (fun y => if y = x1 then some v1 else if y = x2 then some v2 else if y = x3 then some v3 else if y = x4 then some v4 else if y = x5 then some v5 else if y = x6 then some v6 else m y) := by
  have e : (fun y => if y = x1 then some v1 else if y = x2 then some v2 else if y = x3 then some v3 else if y = x4 then some v4 else if y = x5 then some v5 else if y = x6 then some v6 else m y) = m := by
    funext y
    (repeat' split) <;> simp_all
  rw [e]; exact F
theorem frPin7 {h₀ h : Heap} {L : Addr} {m : Str → Option Value} {x1 x2 x3 x4 x5 x6 x7 : Str} {v1 v2 v3 v4 v5 v6 v7 : Value} (F : Fr h₀ L h m) (h1 : m x1 = some v1) (h2 : m x2 = some v2) (h3 : m x3 = some v3) (h4 : m x4 = some v4) (h5 : m x5 = some v5) (h6 : m x6 = some v6) (h7 : m x7 = some v7) :
    Fr h₀ L h (fun y => if y = x1 then some v1 else if y = x2 then some v2 else if y = x3 then some v3 else if y = x4 then some v4 else if y = x5 then some v5 else if y = x6 then some v6 else if y = x7 then some v7 else m y) := by
  have e : (fun y => if y = x1 then some v1 else if y = x2 then some v2 else if y = x3 then some v3 else if y = x4 then some v4 else if y = x5 then some v5 else if y = x6 then some v6 else if y = x7 then some v7 else m y) = m := by
    funext y
    (repeat' split) <;> simp_all
  rw [e]; exact F

theorem frKept {h₀ h h' : Heap} {L : Addr} {m : Str → Option Value} (F : Fr h₀ L h m) (k : Kept h h') : Fr h₀ L h' m :=
  ⟨F.ns.keeps k, fun b o e => k b o (F.keep b o e), F.above⟩

theorem frBut {h₀ h h' : Heap} {L a : Addr} {m : Str → Option Value} (F : Fr h₀ L h m) (k : Heap.ExtBut a h h') (h1 : a ≠ L) (h2 : h₀.get? a = none) : Fr h₀ L h' m :=
  ⟨F.ns.extBut k (Ne.symm h1), fun b o e => k b o (fun q => by rw [q, h2] at e; cases e) (F.keep b o e), F.above⟩

theorem newsKept {h₀ h h' : Heap} {L : Addr} {news : List (Addr × Obj)} (N : News h₀ L h news) (k : Kept h h') : News h₀ L h' news :=
  fun p hp => ⟨k _ _ (N p hp).1, (N p hp).2⟩

theorem newsBut {h₀ h h' : Heap} {L a : Addr} {news : List (Addr × Obj)} (N : News h₀ L h news) (k : Heap.ExtBut a h h') (h1 : ∀ p ∈ news, p.1 ≠ a) : News h₀ L h' news :=
  fun p hp => ⟨k _ _ (h1 p hp) (N p hp).1, (N p hp).2⟩

theorem newsTail {h₀ h : Heap} {L : Addr} {q : Addr × Obj} {news : List (Addr × Obj)} (N : News h₀ L h (q :: news)) : News h₀ L h news := fun p hp => N p (List.mem_cons_of_mem _ hp)
theorem news1 {h₀ h : Heap} {L a : Addr} {o : Obj} {news : List (Addr × Obj)} (h1 : h.get? a = some o) (h2 : a ≠ L) (h3 : h₀.get? a = none) (N : News h₀ L h news) : News h₀ L h ((a, o) :: news) := by
  intro p hp
  rcases List.mem_cons.mp hp with rfl | hp
  · exact ⟨h1, h2, h3⟩
  · exact N p hp

/-- a straight piece has ended, and I holds -/
def Done (I : Shared → Prop) (f : Flow) (s : Shared) : Prop := f = .next ∧ I s
/-- a turn has ended, and I holds -/
def Turned (I : Shared → Prop) (f : Flow) (s : Shared) : Prop := (f = .next ∨ f = .cont) ∧ I s

theorem wp_execs_append {M : Model} {Γ : Ctx} {env : Env} {post : List Stmt} {Q : Flow → Pos → Shared → Prop} {E : Value → Pos → Shared → Prop} :
    ∀ {pre : List Stmt} {p : Pos} {s : Shared}, Sem.wp M Γ (execs pre env) (fun f p' s' => match f with | .next => Sem.wp M Γ (execs post env) Q E p' s' | f => Q f p' s') E p s → Sem.wp M Γ (execs (pre ++ post) env) Q E p s
  | [], _, _, h => h
  | st :: pre, p, s, h => by
    show Sem.wp M Γ (execs (st :: (pre ++ post)) env) Q E p s
    rw [execs_cons, Sem.wp_bind'] at h ⊢
    refine Sem.wp_mono M Γ _ (fun f p' s' h' => ?_) (fun _ _ _ h' => h') p s h
    cases f with
    | next => exact wp_execs_append h'
    | brk => exact h'
    | cont => exact h'
    | ret v => exact h'

theorem seq {M : Model} {A : Around} {E : Value → Shared → Prop} {s : Shared} {env : Env} {Q : Flow → Shared → Prop} (I : Shared → Prop) {pre post : List Stmt}
    (h1 : wpAny M A (execs pre env) (Done I) E s) (h2 : ∀ s', I s' → wpAny M A (execs post env) Q E s') : wpAny M A (execs (pre ++ post) env) Q E s := by
  intro Γ p hΓ
  refine wp_execs_append (Sem.wp_mono M Γ _ (fun f p' s' h' => ?_) (fun _ _ _ h' => h') p s (h1 Γ p hΓ))
  obtain ⟨rfl, hI⟩ := h'
  exact h2 s' hI Γ p' hΓ

theorem seq1 {M : Model} {A : Around} {E : Value → Shared → Prop} {s : Shared} {env : Env} {Q : Flow → Shared → Prop} (I : Shared → Prop) {st : Stmt} {post : List Stmt}
    (h1 : wpAny M A (exec st env) (Done I) E s) (h2 : ∀ s', I s' → wpAny M A (execs post env) Q E s') : wpAny M A (execs (st :: post) env) Q E s := by
  refine wpAny_execs_cons (wpAny_mono h1 (fun f s' h' => ?_) fun _ _ e => e)
  obtain ⟨rfl, hI⟩ := h'
  exact h2 s' hI

/-- the same, and no token is taken back -/
theorem seqT {M : Model} {A : Around} {E : Value → Shared → Prop} {s : Shared} {env : Env} {Q : Flow → Shared → Prop} (I : Shared → Prop) {pre post : List Stmt}
    (h1 : wpAny M A (execs pre env) (Done I) E s) (h2 : ∀ s', I s' → s.toks ≤ s'.toks → wpAny M A (execs post env) Q E s') : wpAny M A (execs (pre ++ post) env) Q E s :=
  seq (fun s' => I s' ∧ s.toks ≤ s'.toks) (wpAny_mono (wpAny_toks h1) (fun _ _ q => ⟨q.1.1, q.1.2, q.2⟩) fun _ _ q => q.1) fun s' q => h2 s' q.1 q.2
theorem seq1T {M : Model} {A : Around} {E : Value → Shared → Prop} {s : Shared} {env : Env} {Q : Flow → Shared → Prop} (I : Shared → Prop) {st : Stmt} {post : List Stmt}
    (h1 : wpAny M A (exec st env) (Done I) E s) (h2 : ∀ s', I s' → s.toks ≤ s'.toks → wpAny M A (execs post env) Q E s') : wpAny M A (execs (st :: post) env) Q E s :=
  seq1 (fun s' => I s' ∧ s.toks ≤ s'.toks) (wpAny_mono (wpAny_toks h1) (fun _ _ q => ⟨q.1.1, q.1.2, q.2⟩) fun _ _ q => q.1) fun s' q => h2 s' q.1 q.2

/-- a test has come out as b; nothing that stood has changed -/
def CondIs (b : Bool) (s : Shared) (b' : Bool) (s' : Shared) : Prop := b' = b ∧ ∃ h tk, s' = { s with heap := h, toks := tk } ∧ Kept s.heap h

theorem condF {M : Model} {A : Around} {s : Shared} {E : Value → Shared → Prop} {t : Sem Bool} {Q : Bool → Shared → Prop} (b : Bool)
    (h : wpAny M A t (CondIs b s) (fun _ _ => False) s) (k : ∀ h tk, s.toks ≤ tk → Kept s.heap h → Q b { s with heap := h, toks := tk }) : wpAny M A t Q E s := by
  refine wpAny_mono (wpAny_toks h) (fun b' s' q => ?_) fun _ _ e => e.1.elim
  obtain ⟨⟨rfl, h', tk, rfl, hk⟩, ht⟩ := q
  exact k h' tk ht hk

/-- an expression's value, read off by P -/
def Got (P : Value → Shared → Prop) (v : Value) (s : Shared) : Prop := P v s
theorem valF {M : Model} {A : Around} {s : Shared} {E : Value → Shared → Prop} {t : Sem Value} {Q : Value → Shared → Prop} (P : Value → Shared → Prop)
    (h : wpAny M A t (Got P) (fun _ _ => False) s) (k : ∀ v s', P v s' → s.toks ≤ s'.toks → Q v s') : wpAny M A t Q E s :=
  wpAny_mono (wpAny_toks h) (fun v s' q => k v s' q.1 q.2) fun _ _ e => e.1.elim

/-- a while that raises nothing -/
theorem whileF {prog : Program} {w : World} {A : Around} {s : Shared} {env : Env} {test : PySem.Expr} {body : List Stmt} {pos : Pos} {Q : Flow → Shared → Prop} {E : Value → Shared → Prop} (I : Nat → Shared → Prop)
    (turn : ∀ n s, I n s → wpAny (model prog w) A (isTrue test env (eval test env)) (fun b s₂ =>
        if b = true then wpAny (model prog w) A (execs body env) (Turned fun s₃ => ∃ m, m < n ∧ I m s₃) (fun _ _ => False) s₂ else Q .next s₂) (fun _ _ => False) s)
    (n : Nat) (h : I n s) : wpAny (model prog w) A (exec (.While test body [] pos) env) Q E s := by
  refine wpAny_While (codeAny_whileLoop I (fun n s hI => ?_) n h)
  refine wpAny_mono (turn n s hI) (fun b s₂ h₂ => ?_) fun _ _ e => e.elim
  cases b with
  | false => simp only [Bool.false_eq_true, if_false] at h₂ ⊢; exact wpAny_execs_nil h₂
  | true =>
    simp only [if_true] at h₂ ⊢
    refine wpAny_mono h₂ (fun f s₃ h₃ => ?_) fun _ _ e => e.elim
    obtain ⟨h₃ | h₃, hI⟩ := h₃ <;> subst h₃ <;> exact hI

theorem whileT {prog : Program} {w : World} {A : Around} {s : Shared} {env : Env} {test : PySem.Expr} {body : List Stmt} {pos : Pos} {Q : Flow → Shared → Prop} {E : Value → Shared → Prop} (I : Nat → Shared → Prop)
    (turn : ∀ n s', I n s' → s.toks ≤ s'.toks → wpAny (model prog w) A (isTrue test env (eval test env)) (fun b s₂ =>
        if b = true then wpAny (model prog w) A (execs body env) (Turned fun s₃ => ∃ m, m < n ∧ I m s₃) (fun _ _ => False) s₂ else Q .next s₂) (fun _ _ => False) s')
    (n : Nat) (h : I n s) : wpAny (model prog w) A (exec (.While test body [] pos) env) Q E s := by
  refine whileF (fun n s' => I n s' ∧ s.toks ≤ s'.toks) (fun n s' hI => ?_) n ⟨h, Nat.le_refl _⟩
  refine wpAny_mono (wpAny_toks (turn n s' hI.1 hI.2)) (fun b s₂ h₂ => ?_) fun _ _ e => e.1.elim
  cases b with
  | false => simpa using h₂.1
  | true =>
    have h₃ := h₂.1
    simp only [if_true] at h₃ ⊢
    refine wpAny_mono (wpAny_toks h₃) (fun f s₄ h₄ => ?_) fun _ _ e => e.1.elim
    obtain ⟨⟨hf, m, hm, hI'⟩, ht⟩ := h₄
    exact ⟨hf, m, hm, hI', Nat.le_trans hI.2 (Nat.le_trans h₂.2 ht)⟩

/-- a for that raises nothing -/
theorem forF {prog : Program} {w : World} {A : Around} {s : Shared} {env : Env} {x : Str} {px : Pos} {it : Value} {body : List Stmt} {Q : Flow → Shared → Prop} {E : Value → Shared → Prop} (I : Nat → Shared → Prop)
    (turn : ∀ n s, I n s → wpAny (model prog w) A (pyNext it) (fun r s₁ => match r with
      | none => Q .next s₁
      | some v => wpAny (model prog w) A (storeName env x v) (fun _ s₂ => wpAny (model prog w) A (execs body env) (Turned fun s₃ => ∃ m, m < n ∧ I m s₃) (fun _ _ => False) s₂) (fun _ _ => False) s₁) (fun _ _ => False) s)
    (n : Nat) (h : I n s) :
    codeAny (model prog w) A (.forLoop (.Name x px) it body [] env) (fun r s' => match r with | .ok f => Q f s' | .error e => cameBackBy (model prog w) A env E e s') s := by
  refine codeAny_forLoop I (fun n s hI => ?_) n h
  refine wpAny_mono (turn n s hI) (fun r s₁ h₁ => ?_) fun _ _ e => e.elim
  cases r with
  | none => exact wpAny_execs_nil h₁
  | some v =>
    refine wpAny_assign_Name (wpAny_mono h₁ (fun _ s₂ h₂ => wpAny_mono h₂ (fun f s₃ h₃ => ?_) fun _ _ e => e.elim) fun _ _ e => e.elim)
    obtain ⟨h₃ | h₃, hI⟩ := h₃ <;> subst h₃ <;> exact hI
end

section
open PySem PySem.W PyProof.Rows PySem.Calls
set_option maxRecDepth 100000
set_option maxHeartbeats 8000000

/-- what is new in h' over h stands in h'' too -/
abbrev NewIn (h h' h'' : Heap) : Prop := ∀ b o, h.get? b = none → h'.get? b = some o → h''.get? b = some o

/-- an element of a comprehension has been made -/
def ElemEnd (s₂ : Shared) (C : Addr) (G : Heap → Value → Value → Prop) (v y : Value) (s₅ : Shared) : Prop :=
  ∃ h₅ tk m₅, s₅ = { s₂ with heap := h₅, toks := tk } ∧ (∀ b o, b ≠ C → s₂.heap.get? b = some o → h₅.get? b = some o) ∧ h₅.Ns C m₅ ∧ ∀ h', NewIn s₂.heap h₅ h' → G h' v y
/-- an item of a comprehension has been passed over -/
def SkipEnd (s₂ : Shared) (C : Addr) (s₅ : Shared) : Prop :=
  ∃ h₅ tk m₅, s₅ = { s₂ with heap := h₅, toks := tk } ∧ (∀ b o, b ≠ C → s₂.heap.get? b = some o → h₅.get? b = some o) ∧ h₅.Ns C m₅

noncomputable abbrev testsOf (ifs : List PySem.Expr) (env : Env) : Sem Bool :=
  forIn ifs true fun c r => if r = true then do let ok ← isTrue c env (eval c env); pure (ForInStep.yield ok) else pure (ForInStep.yield r)

section
variable {prog : Program} {w : World} {A : Around} {E : Value → Shared → Prop} {s : Shared}

theorem letOwned {target : PySem.Expr} {I ax : Addr} {i : Nat} {v : Value} {Q : Unit → Shared → Prop} (hit : s.heap.IsListIter I ax i) (h : Q () s) :
    wpAny (model prog w) A (letOwnedTupleGo target (.ref I) v) Q E s := by
  obtain ⟨o, ho, hc, hd⟩ := hit
  unfold letOwnedTupleGo
  split
  · cases v <;> first | exact wpAny_pure h | skip
    refine wpAny_bind (wpAny_load ho ?_)
    rw [hc, hd]
    exact wpAny_pure h
  · cases v <;> first | exact wpAny_pure h | skip
    refine wpAny_bind (wpAny_load ho ?_)
    rw [hc, hd]
    exact wpAny_pure h
  · exact wpAny_pure h

theorem compLoopF {elt target iter : PySem.Expr} {ifs : List PySem.Expr} {scope : Scope} {pos : Pos} {I D ax C : Addr} {cenv : Env} {items : Array Value} {h₁ : Heap} {m : Str → Option Value} {R : Result → Shared → Prop}
    (G : Heap → Value → Value → Prop) (p : Value → Bool) (hh : A.handled = none)
    (hDI : D ≠ I) (hDC : D ≠ C) (hIC : I ≠ C) (haI : ax ≠ I) (haC : ax ≠ C) (haD : ax ≠ D)
    (hI₁ : h₁.get? I = none) (hD₁ : h₁.get? D = none) (hC₁ : h₁.get? C = none)
    (hit : s.heap.IsListIter I ax 0) (hl : s.heap.IsList ax items) (hacc : s.heap.IsList D #[]) (hn : s.heap.Ns C m) (hk₀ : Kept h₁ s.heap) (hsz : items.size ≤ sizeLine)
    (turn : ∀ v s₂ m₂, v ∈ items → s₂.heap.Ns C m₂ → Kept h₁ s₂.heap → (∃ h₂ tk₂, s₂ = { s with heap := h₂, toks := tk₂ } ∧ s.toks ≤ tk₂) →
      wpAny (model prog w) A (assign target cenv v) (fun _ s₃ => wpAny (model prog w) A (testsOf ifs cenv) (fun ok s₄ => ok = p v ∧
        if ok = true then wpAny (model prog w) A (eval elt cenv) (fun y s₅ => ElemEnd s₂ C G v y s₅) (fun _ _ => False) s₄ else SkipEnd s₂ C s₄) (fun _ _ => False) s₃) (fun _ _ => False) s₂)
    (hR : ∀ h' tk m' ys, h'.Ns C m' → h'.IsList D ys → Kept h₁ h' →
      (∀ h'', (∀ b o, h₁.get? b = none → b ≠ C → b ≠ I → b ≠ D → h'.get? b = some o → h''.get? b = some o) → Paired (G h'') (items.toList.filter p) ys.toList) → R (.ok .next) { s with heap := h', toks := tk }) :
    codeAny (model prog w) A (.compLoop (.ListComp elt [⟨target, iter, ifs, 0⟩] scope pos) 0 (.ref I) (.ref D) cenv) R s := by
  refine codeAny_loop (c := .compLoop (.ListComp elt [⟨target, iter, ifs, 0⟩] scope pos) 0 (.ref I) (.ref D) cenv) rfl
    (fun n s' => ∃ h' tk m' ys i, s' = { s with heap := h', toks := tk } ∧ h'.IsListIter I ax i ∧ h'.IsList ax items ∧ h'.IsList D ys ∧ h'.Ns C m' ∧ i ≤ items.size ∧ n = items.size + 1 - i ∧ Kept h₁ h' ∧ ys.size ≤ i ∧ s.toks ≤ tk ∧
      ∀ h'', (∀ b o, h₁.get? b = none → b ≠ C → b ≠ I → b ≠ D → h'.get? b = some o → h''.get? b = some o) → Paired (G h'') ((items.toList.take i).filter p) ys.toList)
    (fun n s' hI => ?_) (items.size + 1) ⟨s.heap, s.toks, m, #[], 0, rfl, hit, hl, hacc, hn, Nat.zero_le _, rfl, hk₀, Nat.zero_le _, Nat.le_refl _, fun _ _ => by simpa using Paired.nil⟩
  obtain ⟨h', tk, m', ys, i, rfl, hit', hl', hacc', hn', hi, rfl, hk, hys, htk, hP⟩ := hI
  show wpAny _ A ((compTurn (.ListComp elt [⟨target, iter, ifs, 0⟩] scope pos) 0 (.ref I) (.ref D) cenv).onRaise (fun x => do noteFrame x cenv; theTreesLotGoes x)) _ _ _
  refine wpAny_noted ?_
  rw [compTurn_list]
  refine wpAny_bind (wpAny_standAt (wpAny_bind ?_))
  cases hv : items[i]? with
  | none =>
    have hsz' : i = items.size := Nat.le_antisymm hi (by simpa using hv)
    refine wpAny_pyNext_list_end hh hit' hl' hv fun h₂ he₂ => wpAny_pure ?_
    refine hR h₂ tk m' ys (hn'.extBut he₂ (Ne.symm hIC)) (hacc'.extBut he₂ hDI) (fun b o e => he₂ b o (fun q => by rw [q, hI₁] at e; cases e) (hk b o e)) fun h'' hh'' => ?_
    have := hP h'' fun b o h1 h2 h3 h4 e => hh'' b o h1 h2 h3 h4 (he₂ b o h3 e)
    rw [hsz', List.take_of_length_le (by simp)] at this
    exact this
  | some v =>
    have hlt : i < items.size := (Array.getElem?_eq_some_iff.mp hv).1
    have hmem : v ∈ items := Array.mem_of_getElem? hv
    have hvl : items.toList[i]? = some v := by simpa using hv
    refine wpAny_pyNext_list_item hit' hl' hv fun h₂ hit₂ hs₂ => ?_
    have hk₂ : Kept h₁ h₂ := fun b o e => hs₂.extBut b o (fun q => by rw [q, hI₁] at e; cases e) (hk b o e)
    refine wpAny_bind (letOwned hit₂ (wpAny_bind (wpAny_mono (wpAny_toks (turn v _ m' hmem (hn'.sameBut hs₂ (Ne.symm hIC)) hk₂ ⟨_, _, rfl, htk⟩)) (fun _ s₃ h₃ => ?_) fun _ _ e => e.1.elim)))
    refine wpAny_bind (wpAny_mono (wpAny_toks h₃.1) (fun ok s₄ h₄ => ?_) fun _ _ e => e.1.elim)
    have ht₄ : s.toks ≤ s₄.toks := Nat.le_trans htk (Nat.le_trans h₃.2 h₄.2)
    obtain ⟨⟨hok, h₄⟩, _⟩ := h₄
    have hl₂ : h₂.IsList ax items := hl'.extBut hs₂.extBut haI
    have hacc₂ : h₂.IsList D ys := hacc'.extBut hs₂.extBut hDI
    cases ok with
    | false =>
      simp only [Bool.false_eq_true, if_false] at h₄ ⊢
      obtain ⟨h₅, tk₅, m₅, rfl, hk₅, hn₅⟩ := h₄
      refine wpAny_pure ⟨rfl, items.size + 1 - (i + 1), by omega, h₅, tk₅, m₅, ys, i + 1, rfl, hit₂.at fun o e => hk₅ _ o hIC e, hl₂.at fun o e => hk₅ _ o haC e, hacc₂.at fun o e => hk₅ _ o hDC e, hn₅, hlt, rfl, ?_, Nat.le_succ_of_le hys, ht₄, ?_⟩
      · exact fun b o e => hk₅ b o (fun q => by rw [q, hC₁] at e; cases e) (hk₂ b o e)
      · intro h'' hh''
        rw [take_succ_filter p _ i v hvl, ← hok]
        have := hP h'' fun b o h1 h2 h3 h4 e => hh'' b o h1 h2 h3 h4 (hk₅ b o h2 (hs₂.extBut b o h3 e))
        simpa using this
    | true =>
      simp only [if_true] at h₄ ⊢
      refine wpAny_bind (wpAny_bind (wpAny_mono (wpAny_toks h₄) (fun y s₅ h₅ => ?_) fun _ _ e => e.1.elim))
      obtain ⟨⟨h₅, tk₅, m₅, rfl, hk₅, hn₅, hG⟩, ht₅⟩ := h₅
      have hacc₅ : h₅.IsList D ys := hacc₂.at fun o e => hk₅ _ o hDC e
      refine wpAny_bind (wpAny_list_append hacc₅ (fun h₆ hl₆ hs₆ => ?_) (Nat.le_trans (Nat.le_trans hys hi) hsz))
      refine wpAny_pure (wpAny_pure ⟨rfl, items.size + 1 - (i + 1), by omega, h₆, tk₅, m₅, ys.push y, i + 1, rfl, (hit₂.at fun o e => hk₅ _ o hIC e).extBut hs₆.extBut (Ne.symm hDI), (hl₂.at fun o e => hk₅ _ o haC e).extBut hs₆.extBut haD, hl₆, hn₅.sameBut hs₆ (Ne.symm hDC), hlt, rfl, ?_, by rw [Array.size_push]; omega, Nat.le_trans ht₄ ht₅, ?_⟩)
      · exact fun b o e => hs₆.extBut b o (fun q => by rw [q, hD₁] at e; cases e) (hk₅ b o (fun q => by rw [q, hC₁] at e; cases e) (hk₂ b o e))
      · intro h'' hh''
        rw [take_succ_filter p _ i v hvl, ← hok, Array.toList_push]
        have := hP h'' fun b o h1 h2 h3 h4 e => hh'' b o h1 h2 h3 h4 (hs₆.extBut b o h4 (hk₅ b o h2 (hs₂.extBut b o h3 e)))
        refine Paired.snoc this (hG h'' fun b o h1 e => ?_)
        have hbI : b ≠ I := fun q => by obtain ⟨oo, ho, _⟩ := hit₂; rw [q, ho] at h1; cases h1
        have hbD : b ≠ D := fun q => by obtain ⟨oo, ho, _⟩ := hacc₂; rw [q, ho] at h1; cases h1
        have hbC : b ≠ C := fun q => by obtain ⟨oo, _, _, ho, _⟩ := hn'.sameBut hs₂ (Ne.symm hIC); rw [q, ho] at h1; cases h1
        have hb1 : h₁.get? b = none := by
          cases q : h₁.get? b with
          | none => rfl
          | some oo => have := hk₂ b oo q; rw [this] at h1; cases h1
        exact hh'' b o hb1 hbC hbI hbD (hs₆.extBut b o hbD e)

/-- what a turn of a comprehension is to show -/
abbrev TurnOk (prog : Program) (w : World) (A : Around) (G : Heap → Value → Value → Prop) (p : Value → Bool) (s₁ : Shared) (items : Array Value) (target elt : PySem.Expr) (ifs : List PySem.Expr) (cenv : Addr → Env) : Prop :=
  ∀ C v s₂ m₂, v ∈ items → s₁.heap.get? C = none → s₂.heap.Ns C m₂ → Kept s₁.heap s₂.heap → (∃ h₂ tk₂, s₂ = { s₁ with heap := h₂, toks := tk₂ } ∧ s₁.toks ≤ tk₂) →
      wpAny (model prog w) A (assign target (cenv C) v) (fun _ s₃ => wpAny (model prog w) A (testsOf ifs (cenv C)) (fun ok s₄ => ok = p v ∧
        if ok = true then wpAny (model prog w) A (eval elt (cenv C)) (fun y s₅ => ElemEnd s₂ C G v y s₅) (fun _ _ => False) s₄ else SkipEnd s₂ C s₄) (fun _ _ => False) s₃) (fun _ _ => False) s₂

/-- three objects made one behind the other; the third may have been filled since -/
theorem three {h₀ h : Heap} {oI oD oC : Obj} (fI : oI.isFreed = false) (fD : oD.isFreed = false)
    (hs : Heap.SameBut ((h₀.push oI).push oD).objs.size (((h₀.push oI).push oD).push oC) h) :
    Kept h₀ h ∧ h.get? h₀.objs.size = some oI ∧ h.get? (h₀.push oI).objs.size = some oD ∧ (∀ a ∈ [h₀.objs.size, (h₀.push oI).objs.size, ((h₀.push oI).push oD).objs.size], h₀.get? a = none) ∧
      (h₀.push oI).objs.size ≠ h₀.objs.size ∧ (h₀.push oI).objs.size ≠ ((h₀.push oI).push oD).objs.size ∧ h₀.objs.size ≠ ((h₀.push oI).push oD).objs.size := by
  have z1 := Heap.size_push h₀ oI
  have z2 := Heap.size_push (h₀.push oI) oD
  have up : ∀ a o, ((h₀.push oI).push oD).get? a = some o → h.get? a = some o := fun a o e =>
    hs.extBut a o (Nat.ne_of_lt (Heap.lt_size e)) (Heap.get?_push_of_some _ e)
  refine ⟨fun a o e => up a o (Heap.get?_push_of_some _ (Heap.get?_push_of_some _ e)), up _ _ (Heap.get?_push_of_some _ (Heap.get?_push_size _ fI)), up _ _ (Heap.get?_push_size _ fD), ?_, by omega, by omega, by omega⟩
  have low : ∀ n : Nat, h₀.objs.size ≤ n → h₀.get? n = none := fun n hn => Option.eq_none_iff_forall_ne_some.mpr fun o e => Nat.not_lt.mpr hn (Heap.lt_size e)
  simp only [List.forall_mem_cons]
  exact ⟨low _ (by omega), low _ (by omega), low _ (by omega), fun _ x => nomatch x⟩

/-- the loop of a comprehension has ended: its list at D, its names at C -/
def Made (G : Heap → Value → Value → Prop) (p : Value → Bool) (s₁ : Shared) (items : Array Value) (D C : Addr) (h' : Heap) : Prop :=
  ∃ m' ys I, s₁.heap.get? D = none ∧ s₁.heap.get? C = none ∧ D ≠ C ∧ h'.Ns C m' ∧ h'.IsList D ys ∧ Kept s₁.heap h' ∧
    ∀ h'', (∀ b o, s₁.heap.get? b = none → b ≠ C → b ≠ I → b ≠ D → h'.get? b = some o → h''.get? b = some o) → Paired (G h'') (items.toList.filter p) ys.toList

section
variable {G : Heap → Value → Value → Prop} {p : Value → Bool} {s₁ : Shared} {items : Array Value} {D C : Addr} {h' h₂ : Heap}
theorem Made.free (md : Made G p s₁ items D C h') : s₁.heap.get? D = none := by obtain ⟨_, _, _, x, _⟩ := md; exact x
theorem Made.freeC (md : Made G p s₁ items D C h') : s₁.heap.get? C = none := by obtain ⟨_, _, _, _, x, _⟩ := md; exact x
theorem Made.ns (md : Made G p s₁ items D C h') : ∃ m, h'.Ns C m := by obtain ⟨m, _, _, _, _, _, x, _⟩ := md; exact ⟨m, x⟩
theorem Made.kept (md : Made G p s₁ items D C h') : Kept s₁.heap h' := by obtain ⟨_, _, _, _, _, _, _, _, x, _⟩ := md; exact x
/-- what stays when the names at C and the old objects T have been changed -/
theorem Made.left {T : Addr → Prop} (md : Made G p s₁ items D C h') (hT : ∀ b, T b → s₁.heap.get? b ≠ none) (hk : ∀ b o, b ≠ C → ¬ T b → h'.get? b = some o → h₂.get? b = some o) :
    ∃ ys, (∀ b o, ¬ T b → s₁.heap.get? b = some o → h₂.get? b = some o) ∧ ∀ h'', NewIn s₁.heap h₂ h'' → h''.IsList D ys ∧ Paired (G h'') (items.toList.filter p) ys.toList := by
  obtain ⟨m, ys, I, nD, nC, hDC, hm, ha, kk, hP⟩ := md
  have old : ∀ b, s₁.heap.get? b = none → ¬ T b := fun b hb t => hT b t hb
  refine ⟨ys, fun b o ht e => hk b o (fun q => ?_) ht (kk b o e), fun h'' hN => ⟨ha.at fun o e => hN D o nD (hk D o hDC (old D nD) e), hP h'' fun b o n1 n2 _ _ e => hN b o n1 (hk b o n2 (old b n1) e)⟩⟩
  rw [q, nC] at e
  cases e
theorem Made.all (md : Made G p s₁ items D C h') (hk : Heap.SameBut C h' h₂) : ∃ ys, Kept s₁.heap h₂ ∧ ∀ h'', NewIn s₁.heap h₂ h'' → h''.IsList D ys ∧ Paired (G h'') (items.toList.filter p) ys.toList := by
  obtain ⟨ys, h1, h2⟩ := md.left (T := fun _ => False) (fun _ f => f.elim) fun b o hb _ e => hk.extBut b o hb e
  exact ⟨ys, fun b o e => h1 b o id e, h2⟩
end

/-- what the source of a comprehension is to show -/
abbrev Source (prog : Program) (w : World) (A : Around) (G : Heap → Value → Value → Prop) (p : Value → Bool) (target elt : PySem.Expr) (ifs : List PySem.Expr) (cenv : Addr → Env) (Q : Value → Shared → Prop) (xv : Value) (s₁ : Shared) : Prop :=
  ∃ ax items, xv = .ref ax ∧ s₁.heap.IsList ax items ∧ items.size ≤ sizeLine ∧ TurnOk prog w A G p s₁ items target elt ifs cenv ∧
    ∀ D h' tk ys, s₁.heap.get? D = none → Kept s₁.heap h' → (∀ h'', NewIn s₁.heap h' h'' → h''.IsList D ys ∧ Paired (G h'') (items.toList.filter p) ys.toList) → Q (.ref D) { s₁ with heap := h', toks := tk }

theorem compBlock {cl : List (Str × Addr)} {sc : Scope} {elt target iter : PySem.Expr} {ifs : List PySem.Expr} {scope : Scope} {pos : Pos} {env : Env} {s₁ : Shared} {ax : Addr} {items : Array Value} {RR : Value → Env → Result → Shared → Prop}
    (G : Heap → Value → Value → Prop) (p : Value → Bool) (hh : A.handled = none) (hcell : ∀ y ∈ scope.names, y.2 ≠ .cell) (hkind : scope.kind = .function) (hl : s₁.heap.IsList ax items) (hsz : items.size ≤ sizeLine)
    (turn : TurnOk prog w A G p s₁ items target elt ifs (fun C => { compEnv sc C env with cells := cl }))
    (hRR : ∀ D C h' tk, Made G p s₁ items D C h' → RR (.ref D) { compEnv sc C env with cells := cl } (.ok .next) { s₁ with heap := h', toks := tk }) :
    wpAny (model prog w) A (pyIter (.ref ax)) (fun it a₁ => wpAny (model prog w) A (newList []) (fun acc a₂ =>
      wpAny (model prog w) A (newFunctionEnv scope env.globals cl [] env.qual none .none (some env)) (fun ce a₃ =>
        codeAny (model prog w) A (.compStart (.ListComp elt [⟨target, iter, ifs, 0⟩] scope pos) 0 it acc { ce with scope := sc }) (RR acc { ce with scope := sc }) a₃) E a₂) E a₁) E s₁ := by
  refine wpAny_pyIter_list hl (wpAny_newObj_type (wpAny_newFunctionEnv hcell (fun _ hy => nomatch hy) (fun h hns hsb => ?_) hkind) (by size_fits))
  obtain ⟨hk, hI, hD, hn, n1, n2, n3⟩ := three rfl rfl hsb
  have nI := hn _ (.head _)
  have nD := hn _ (.tail _ (.head _))
  have nC := hn _ (.tail _ (.tail _ (.head _)))
  have hit : h.IsListIter s₁.heap.objs.size ax 0 := ⟨_, hI, rfl, rfl⟩
  have apart : ∀ a, s₁.heap.get? a = none → ax ≠ a := fun a ha e => by
    obtain ⟨o, ho, _⟩ := hl
    rw [e, ha] at ho
    cases ho
  have run : codeAny (model prog w) A (.compLoop (.ListComp elt [⟨target, iter, ifs, 0⟩] scope pos) 0 (.ref s₁.heap.objs.size) (.ref _) { compEnv sc _ env with cells := cl }) (RR (.ref _) { compEnv sc _ env with cells := cl }) { s₁ with heap := h, toks := s₁.toks + 0 } :=
    compLoopF (h₁ := s₁.heap) G p hh n1 n2 n3 (apart _ nI) (apart _ nC) (apart _ nD) nI nD nC hit (hl.at fun o e => hk _ o e) ⟨_, hD, rfl, _, rfl⟩ hns hk hsz
      (fun v s₂ m₂ hv hm kk ⟨h₂, tk₂, e, ht⟩ => turn _ v s₂ m₂ hv nC hm kk ⟨h₂, tk₂, e, ht⟩)
      fun h' tk m' ys hm ha kk hP => hRR _ _ h' tk ⟨m', ys, _, nD, nC, n2, hm, ha, kk, hP⟩
  exact codeAny_compStart_list run (wpAny_pyIter_listiter hit run)

/-- a comprehension as an expression -/
theorem compEval {elt target iter : PySem.Expr} {ifs : List PySem.Expr} {scope : Scope} {pos : Pos} {env : Env} {Q : Value → Shared → Prop}
    (G : Heap → Value → Value → Prop) (p : Value → Bool) (hh : A.handled = none) (hfree : ∀ y ∈ scope.names, y.2 ≠ .free) (hcell : ∀ y ∈ scope.names, y.2 ≠ .cell) (hkind : scope.kind = .function)
    (hnames : ∀ y ∈ scope.names, y.2 = .local → scope.names.lookup y.1 = some .local)
    (h : wpAny (model prog w) A (eval iter env) (Source prog w A G p target elt ifs (fun C => compEnv scope C env) Q) E s)
    (hs : ∀ x, foldedSetIterable iter env x = pure x := by intro _; rfl) :
    wpAny (model prog w) A (eval (.ListComp elt [⟨target, iter, ifs, 0⟩] scope pos) env) Q E s := by
  refine wpAny_ListComp hfree hkind hnames (wpAny_mono h (fun _ s₁ ⟨ax, items, e, hl, hsz, turn, hQ⟩ => ?_) fun _ _ x => x) hs
  subst e
  exact compBlock (cl := []) (sc := scope) (RR := fun acc ce r s' => ∃ m, s'.heap.Ns ce.locals m ∧ ∀ h', Heap.SameBut ce.locals s'.heap h' →
    match r with | .ok _ => Q acc { s' with heap := h' } | .error x => wpAny (model prog w) A (passOn "comprehension.variables-let-go" x ce) Q E { s' with heap := h' }) G p hh hcell hkind hl hsz turn
    fun D C h' tk md => have ⟨m', hm⟩ := md.ns; ⟨m', hm, fun h₂ hs₂ => have ⟨ys, k, q⟩ := md.all hs₂; hQ D h₂ tk ys md.free k q⟩

/-- the same, where the element names cells of the frame -/
theorem compEvalC {cl : List (Str × Addr)} {elt target iter : PySem.Expr} {ifs : List PySem.Expr} {scope : Scope} {pos : Pos} {env : Env} {Q : Value → Shared → Prop}
    (G : Heap → Value → Value → Prop) (p : Value → Bool) (hh : A.handled = none) (hclos : closureFor scope env = pure cl) (hcell : ∀ y ∈ scope.names, y.2 ≠ .cell) (hkind : scope.kind = .function)
    (hnames : ∀ y ∈ scope.names, y.2 = .local → scope.names.lookup y.1 = some .local)
    (h : wpAny (model prog w) A (eval iter env) (Source prog w A G p target elt ifs (fun C => compEnvC scope cl C env) Q) (fun _ _ => False) s)
    (hs : ∀ x, foldedSetIterable iter env x = pure x := by intro _; rfl) :
    wpAny (model prog w) A (eval (.ListComp elt [⟨target, iter, ifs, 0⟩] scope pos) env) Q (fun _ _ => False) s := by
  rw [eval_ListComp]
  refine wpAny_comprehension_free (use := none) rfl hs hclos hkind hnames (wpAny_mono h (fun _ s₁ ⟨ax, items, e, hl, hsz, turn, hQ⟩ => ?_) fun _ _ x => x)
  subst e
  exact compBlock (cl := cl) (sc := relabel scope env) (RR := fun acc ce r s' => compPost (model prog w) A (fun _ _ => False) none Q acc ce.locals r s') G p hh hcell hkind hl hsz turn
    fun D C h' tk md => have ⟨m', hm⟩ := md.ns; ⟨m', hm, fun h₂ hs₂ => have ⟨ys, k, q⟩ := md.all hs₂; hQ D h₂ tk ys md.free k q⟩

/-- a comprehension whose list is handed on before its names are let go -/
theorem compUse {elt target iter : PySem.Expr} {ifs : List PySem.Expr} {scope : Scope} {pos : Pos} {env : Env} {u : Value → Sem Unit} {Q : Shared → Prop}
    (p : Value → Bool) (hh : A.handled = none) (hfree : ∀ y ∈ scope.names, y.2 ≠ .free) (hcell : ∀ y ∈ scope.names, y.2 ≠ .cell) (hkind : scope.kind = .function)
    (hnames : ∀ y ∈ scope.names, y.2 = .local → scope.names.lookup y.1 = some .local)
    (h : wpAny (model prog w) A (eval iter env) (fun xv s₁ => ∃ ax items, ∃ G : Heap → Value → Value → Prop, xv = .ref ax ∧ s₁.heap.IsList ax items ∧ items.size ≤ sizeLine ∧
      TurnOk prog w A G p s₁ items target elt ifs (fun C => compEnv scope C env) ∧
      ∀ D C h' tk, Made G p s₁ items D C h' → wpAny (model prog w) A (u (.ref D)) (fun _ s₂ => ∃ m, s₂.heap.Ns C m ∧ ∀ h₃, Heap.SameBut C s₂.heap h₃ → Q { s₂ with heap := h₃ }) E { s₁ with heap := h', toks := tk }) E s)
    (hs : ∀ x, foldedSetIterable iter env x = pure x) :
    wpAny (model prog w) A (evalThenUse (.ListComp elt [⟨target, iter, ifs, 0⟩] scope pos) env u) (fun _ s' => Q s') E s := by
  refine wpAny_bind (wpAny_mono (wpAny_comprehension_use (u := u) (Q := fun _ s' => Q s') rfl hs hfree hkind hnames (wpAny_mono h (fun _ s₁ ⟨ax, items, G, e, hl, hsz, turn, hQ⟩ => ?_) fun _ _ x => x)) (fun _ _ q => wpAny_pure q) fun _ _ x => x)
  subst e
  exact compBlock (cl := []) (sc := scope) (RR := fun acc ce r s' => match r with
    | .ok _ => wpAny (model prog w) A (u acc) (fun _ s₂ => ∃ m, s₂.heap.Ns ce.locals m ∧ ∀ h₃, Heap.SameBut ce.locals s₂.heap h₃ → Q { s₂ with heap := h₃ }) E s'
    | .error x => ∃ m, s'.heap.Ns ce.locals m ∧ ∀ h₃, Heap.SameBut ce.locals s'.heap h₃ → wpAny (model prog w) A (passOn "comprehension.variables-let-go" x ce) (fun _ s₂ => Q s₂) E { s' with heap := h₃ }) G p hh hcell hkind hl hsz turn hQ

/-- a comprehension stored under a name of the frame; what its items tell is said behind its source -/
theorem compAssignG {elt target iter : PySem.Expr} {ifs : List PySem.Expr} {scope : Scope} {pos spos py : Pos} {y : Str} {env : Env} {Q : Flow → Shared → Prop}
    (p : Value → Bool)
    (hsw : swapsWith (.ListComp elt [⟨target, iter, ifs, 0⟩] scope pos) (some (.Name y py)) spos.line env = pure true)
    (hh : A.handled = none) (hfree : ∀ y ∈ scope.names, y.2 ≠ .free) (hcell : ∀ y ∈ scope.names, y.2 ≠ .cell) (hkind : scope.kind = .function)
    (hnames : ∀ y ∈ scope.names, y.2 = .local → scope.names.lookup y.1 = some .local)
    (hy : env.kindOf y = some .local) (hp : (env.scope.kind == .class || (env.scope.kind == .module && env.locals != env.globals)) = false)
    (h : wpAny (model prog w) A (eval iter env) (fun xv s₁ => ∃ ax items h₀ m, ∃ G : Heap → Value → Value → Prop, xv = .ref ax ∧ s₁.heap.IsList ax items ∧ items.size ≤ sizeLine ∧ Fr h₀ env.locals s₁.heap m ∧
      TurnOk prog w A G p s₁ items target elt ifs (fun C => compEnv scope C env) ∧
      (∀ D h' tk ys, s₁.heap.get? D = none → Fr h₀ env.locals h' (fun z => if z = y then some (.ref D) else m z) → (∀ b o, b ≠ env.locals → s₁.heap.get? b = some o → h'.get? b = some o) →
        (∀ h'', NewIn s₁.heap h' h'' → h''.IsList D ys ∧ Paired (G h'') (items.toList.filter p) ys.toList) →
        Q .next { s₁ with heap := h', toks := tk })) E s)
    (hs : ∀ x, foldedSetIterable iter env x = pure x := by intro _; rfl) :
    wpAny (model prog w) A (exec (.Assign [.Name y py] (.ListComp elt [⟨target, iter, ifs, 0⟩] scope pos) spos) env) Q E s := by
  rw [exec_Assign_Name_used _ _ _ _ hsw]
  refine wpAny_bind (wpAny_standAt (wpAny_bind (wpAny_mono (compUse (Q := Q .next) p hh hfree hcell hkind hnames (wpAny_mono h (fun _ s₁ x => ?_) fun _ _ x => x) hs) (fun _ _ q => wpAny_pure q) fun _ _ x => x)))
  obtain ⟨ax, items, h₀, m, G, e, hl, hsz, F, turn, hQ⟩ := x
  refine ⟨ax, items, G, e, hl, hsz, turn, fun D C h' tk md => ?_⟩
  have hL : ∀ a, s₁.heap.get? a = none → env.locals ≠ a := fun a ha q => by
    obtain ⟨o, _, _, ho, _⟩ := F.ns
    rw [q, ha] at ho
    cases ho
  have hLC := hL C md.freeC
  refine wpAny_assign_Name (wpAny_storeName_local hy (F.ns.keeps md.kept) (fun h₂ n₂ s₂ => ?_) hp)
  obtain ⟨m', hm⟩ := md.ns
  refine ⟨m', hm.sameBut s₂ (Ne.symm hLC), fun h₃ s₃ => ?_⟩
  obtain ⟨ys, kk, hP⟩ := md.left (T := fun b => b = env.locals) (fun b e q => hL b q e.symm) fun b o hb ht e => s₃.extBut b o hb (s₂.extBut b o ht e)
  exact hQ D h₃ _ ys md.free ⟨n₂.sameBut s₃ hLC, fun b o e => kk b o (fun q => absurd (Heap.lt_size e) (Nat.not_lt.mpr (q ▸ F.above))) (F.keep b o e), F.above⟩ kk hP

/-- the same, said ahead of its source -/
theorem compAssign {elt target iter : PySem.Expr} {ifs : List PySem.Expr} {scope : Scope} {pos spos py : Pos} {y : Str} {env : Env} {Q : Flow → Shared → Prop}
    (G : Heap → Value → Value → Prop) (p : Value → Bool)
    (hsw : swapsWith (.ListComp elt [⟨target, iter, ifs, 0⟩] scope pos) (some (.Name y py)) spos.line env = pure true)
    (hh : A.handled = none) (hfree : ∀ y ∈ scope.names, y.2 ≠ .free) (hcell : ∀ y ∈ scope.names, y.2 ≠ .cell) (hkind : scope.kind = .function)
    (hnames : ∀ y ∈ scope.names, y.2 = .local → scope.names.lookup y.1 = some .local)
    (hy : env.kindOf y = some .local) (hp : (env.scope.kind == .class || (env.scope.kind == .module && env.locals != env.globals)) = false)
    (h : wpAny (model prog w) A (eval iter env) (fun xv s₁ => ∃ ax items h₀ m, xv = .ref ax ∧ s₁.heap.IsList ax items ∧ items.size ≤ sizeLine ∧ Fr h₀ env.locals s₁.heap m ∧
      TurnOk prog w A G p s₁ items target elt ifs (fun C => compEnv scope C env) ∧
      (∀ D h' tk ys, s₁.heap.get? D = none → Fr h₀ env.locals h' (fun z => if z = y then some (.ref D) else m z) → (∀ b o, b ≠ env.locals → s₁.heap.get? b = some o → h'.get? b = some o) →
        (∀ h'', NewIn s₁.heap h' h'' → h''.IsList D ys ∧ Paired (G h'') (items.toList.filter p) ys.toList) →
        Q .next { s₁ with heap := h', toks := tk })) E s)
    (hs : ∀ x, foldedSetIterable iter env x = pure x := by intro _; rfl) :
    wpAny (model prog w) A (exec (.Assign [.Name y py] (.ListComp elt [⟨target, iter, ifs, 0⟩] scope pos) spos) env) Q E s :=
  compAssignG p hsw hh hfree hcell hkind hnames hy hp (wpAny_mono h (fun _ _ ⟨ax, items, h₀, m, h1, h2, h3, h4, h5, h6⟩ => ⟨ax, items, h₀, m, G, h1, h2, h3, h4, h5, h6⟩) fun _ _ e => e) hs

/-- an element has been made: nothing of the heap has changed, and what is new tells G -/
def ElemK (s₂ : Shared) (G : Heap → Value → Value → Prop) (v y : Value) (s₅ : Shared) : Prop :=
  ∃ h₅ tk, s₅ = { s₂ with heap := h₅, toks := tk } ∧ Kept s₂.heap h₅ ∧ ∀ h', NewIn s₂.heap h₅ h' → G h' v y

theorem turnName {elt : PySem.Expr} {x : Str} {px : Pos} {scope : Scope} {env : Env} {s₁ : Shared} {items : Array Value} {G : Heap → Value → Value → Prop}
    (hx : scope.names.lookup x = some .local) (hkind : scope.kind = .function)
    (h : ∀ C v s₂ m₂, v ∈ items → s₁.heap.get? C = none → s₂.heap.Ns C m₂ → m₂ x = some v → Kept s₁.heap s₂.heap → (∃ h₂ tk₂, s₂ = { s₁ with heap := h₂, toks := tk₂ } ∧ s₁.toks ≤ tk₂) →
      wpAny (model prog w) A (eval elt (compEnv scope C env)) (fun y s₅ => ElemK s₂ G v y s₅) (fun _ _ => False) s₂) :
    TurnOk prog w A G (fun _ => true) s₁ items (.Name x px) elt [] (fun C => compEnv scope C env) := by
  rintro C v s₂ m₂ hv hC hn hk ⟨h₂, tk₂, rfl, ht₂⟩
  refine wpAny_assign_Name (wpAny_storeName_local (env := compEnv scope C env) hx hn (fun h₃ hn₃ hs₃' => ?_) (by simp [compEnv, hkind]))
  have hs₃ : Heap.SameBut C h₂ h₃ := hs₃'
  refine wpAny_tests_nil ⟨rfl, ?_⟩
  rw [if_pos rfl]
  have hk₃ : Kept s₁.heap h₃ := fun b o e => hs₃.extBut b o (fun q => by rw [q, hC] at e; cases e) (hk b o e)
  refine wpAny_mono (h C v _ _ hv hC hn₃ (if_pos rfl) hk₃ ⟨_, _, rfl, Nat.le_succ_of_le ht₂⟩) (fun y s₅ h₅ => ?_) fun _ _ e => e
  obtain ⟨h₅, tk₅, rfl, hk₅, hG⟩ := h₅
  have hk₅' : Kept h₃ h₅ := hk₅
  refine ⟨h₅, tk₅, _, rfl, fun b o hb e => hk₅' b o (hs₃.extBut b o hb e), hn₃.keeps hk₅', fun h' hN => hG h' fun b o h1 e => hN b o ?_ e⟩
  have h1' : h₃.get? b = none := h1
  by_cases q : b = C
  · obtain ⟨oo, _, _, ho, _⟩ := hn₃; rw [q] at h1'; rw [show h₃.get? C = some oo from ho] at h1'; cases h1'
  · show h₂.get? b = none
    rw [← hs₃.2 b q]; exact h1'

theorem turnNameC {cl : List (Str × Addr)} {elt : PySem.Expr} {x : Str} {px : Pos} {scope : Scope} {env : Env} {s₁ : Shared} {items : Array Value} {G : Heap → Value → Value → Prop}
    (hx : scope.names.lookup x = some .local) (hkind : scope.kind = .function)
    (h : ∀ C v s₂ m₂, v ∈ items → s₁.heap.get? C = none → s₂.heap.Ns C m₂ → m₂ x = some v → Kept s₁.heap s₂.heap → (∃ h₂ tk₂, s₂ = { s₁ with heap := h₂, toks := tk₂ } ∧ s₁.toks ≤ tk₂) →
      wpAny (model prog w) A (eval elt (compEnvC scope cl C env)) (fun y s₅ => ElemK s₂ G v y s₅) (fun _ _ => False) s₂) :
    TurnOk prog w A G (fun _ => true) s₁ items (.Name x px) elt [] (fun C => compEnvC scope cl C env) := by
  rintro C v s₂ m₂ hv hC hn hk ⟨h₂, tk₂, rfl, ht₂⟩
  refine wpAny_assign_Name (wpAny_storeName_local (env := compEnvC scope cl C env) (lookup_relabel_local hx) hn (fun h₃ hn₃ hs₃' => ?_) (by simp [compEnvC, relabel, hkind]))
  have hs₃ : Heap.SameBut C h₂ h₃ := hs₃'
  refine wpAny_tests_nil ⟨rfl, ?_⟩
  rw [if_pos rfl]
  have hk₃ : Kept s₁.heap h₃ := fun b o e => hs₃.extBut b o (fun q => by rw [q, hC] at e; cases e) (hk b o e)
  refine wpAny_mono (h C v _ _ hv hC hn₃ (if_pos rfl) hk₃ ⟨_, _, rfl, Nat.le_succ_of_le ht₂⟩) (fun y s₅ h₅ => ?_) fun _ _ e => e
  obtain ⟨h₅, tk₅, rfl, hk₅, hG⟩ := h₅
  have hk₅' : Kept h₃ h₅ := hk₅
  refine ⟨h₅, tk₅, _, rfl, fun b o hb e => hk₅' b o (hs₃.extBut b o hb e), hn₃.keeps hk₅', fun h' hN => hG h' fun b o h1 e => hN b o ?_ e⟩
  have h1' : h₃.get? b = none := h1
  by_cases q : b = C
  · obtain ⟨oo, _, _, ho, _⟩ := hn₃; rw [q] at h1'; rw [show h₃.get? C = some oo from ho] at h1'; cases h1'
  · show h₂.get? b = none
    rw [← hs₃.2 b q]; exact h1'

theorem ldC {sc : Scope} {C : Addr} {env : Env} {x : Str} {pos : Pos} {v : Value} {m : Str → Option Value} {Q : Value → Shared → Prop} (hn : s.heap.Ns C m) (hv : m x = some v) (h : Q v s)
    (hk : sc.kind = .function := by rfl) (hl : sc.names.lookup x = some .local := by rfl) (hd : (x == ("__debug__" : Str)) = false := by decide) :
    wpAny (model prog w) A (eval (.Name x pos) (compEnv sc C env)) Q E s :=
  wpAny_Name (wpAny_loadName_local (env := compEnv sc C env) hk hl hn hv h) hd
end
end

section
open PySem PySem.W PyProof.Rows PySem.Calls
set_option maxRecDepth 100000
set_option maxHeartbeats 8000000

/-- the text of a list of signs -/
noncomputable def S (l : List Nat) : Str := ⟨l.toArray⟩
theorem S_length (l : List Nat) : (S l).length = l.length := by simp [S, Str.length]
theorem S_append (a b : List Nat) : S a ++ S b = S (a ++ b) := by
  show Str.mk (a.toArray ++ b.toArray) = Str.mk (a ++ b).toArray
  rw [List.append_toArray]
theorem S_inj {a b : List Nat} (h : S a = S b) : a = b := by
  have := congrArg Str.cps h
  simpa [S] using this

def IsStr (v : Value) (l : List Nat) : Prop := ∃ t, v = .str (S l) t
def IsText (v : Value) (z : Str) : Prop := ∃ t, v = .str z t
abbrev TextsAre (vs : List Value) (zs : List Str) : Prop := Paired IsText vs zs
abbrev StrsAre (vs : List Value) (ls : List (List Nat)) : Prop := Paired IsStr vs ls

theorem Paired.mem {α β : Type} {F : α → β → Prop} : ∀ {l₁ : List α} {l₂ : List β}, Paired F l₁ l₂ → ∀ a ∈ l₁, ∃ b ∈ l₂, F a b
  | _, _, .nil, _, h => nomatch h
  | _, _, .cons h₁ t, a, h => by
    rcases List.mem_cons.mp h with rfl | h
    · exact ⟨_, List.mem_cons_self, h₁⟩
    · obtain ⟨b, hb, hf⟩ := Paired.mem t a h; exact ⟨b, List.mem_cons_of_mem _ hb, hf⟩

theorem Paired.comp {α β γ : Type} {F : α → β → Prop} {G : α → γ → Prop} {H : β → γ → Prop} (hm : ∀ a b c, F a b → G a c → H b c) : ∀ {l₁ : List α} {l₂ : List β} {l₃ : List γ}, Paired F l₁ l₂ → Paired G l₁ l₃ → Paired H l₂ l₃
  | _, _, _, .nil, .nil => .nil
  | _, _, _, .cons h₁ t, .cons g₁ u => .cons (hm _ _ _ h₁ g₁) (Paired.comp hm t u)
theorem Paired.map {α β γ : Type} {F : α → β → Prop} {G : α → γ → Prop} {f : β → γ} (hm : ∀ a b, F a b → G a (f b)) : ∀ {l₁ : List α} {l₂ : List β}, Paired F l₁ l₂ → Paired G l₁ (l₂.map f)
  | _, _, .nil => .nil
  | _, _, .cons h₁ t => .cons (hm _ _ h₁) (Paired.map hm t)
theorem Paired.flip {α β : Type} {F : α → β → Prop} {G : β → α → Prop} (hm : ∀ a b, F a b → G b a) : ∀ {l₁ : List α} {l₂ : List β}, Paired F l₁ l₂ → Paired G l₂ l₁
  | _, _, .nil => .nil
  | _, _, .cons h₁ t => .cons (hm _ _ h₁) (Paired.flip hm t)

theorem k_nil : Str.ofString "" = S [] := by decide +kernel
theorem k_92 : Str.ofString "\\" = S [92] := by decide +kernel
theorem k_34 : Str.ofString "\"" = S [34] := by decide +kernel
theorem k_44 : Str.ofString "," = S [44] := by decide +kernel

theorem one_eq (c d : Nat) : (S [c] == S [d]) = decide (c = d) := by
  by_cases h : c = d
  · subst h; simp [S]
  · simp [S, h]
theorem mk_one (c : Nat) : Str.mk #[c] = S [c] := rfl
theorem strsAre_push {vs : Array Value} {ls : List (List Nat)} {l : List Nat} {t : Tok} (h : StrsAre vs.toList ls) : StrsAre (vs.push (.str (S l) t)).toList (ls ++ [l]) := by
  rw [Array.toList_push]; exact h.snoc ⟨t, rfl⟩
theorem strsAre_size {vs : Array Value} {ls : List (List Nat)} (h : StrsAre vs.toList ls) : vs.size = ls.length := by
  have := h.length; simpa using this


theorem keptNone {h h' : Heap} {a : Addr} (k : Kept h h') (e : h'.get? a = none) : h.get? a = none := by
  cases q : h.get? a with
  | none => rfl
  | some o => have := k a o q; rw [e] at this; cases this
theorem newInKept {h₀ h h' h'' : Heap} (k : Kept h₀ h) (N : NewIn h₀ h' h'') : NewIn h h' h'' := fun b o h1 e => N b o (keptNone k h1) e
end

section
open PySem PySem.W PyProof.Rows PySem.Calls
set_option maxRecDepth 100000
set_option maxHeartbeats 2000000

theorem S_cps (l : List Nat) : (S l).cps.toList = l := rfl
theorem S_of (x : Str) : S x.cps.toList = x := rfl
theorem sub_S (l : List Nat) (a b : Nat) : Builtin.Str.strSub (S l) a b = S ((l.drop a).take (b - a)) := by
  apply Str.ext'
  apply Array.toList_inj.mp
  rw [StrLaws.strSub_toList]; rfl

theorem getD_S (l : List Nat) (k : Nat) : (S l).cps.getD k 0 = l.getD k 0 := by
  rw [← getD_list]; rfl

theorem find3_S (x : List Nat) (c k : Nat) :
    (Txt.find3 (S x) (S [c]) (k : Int) = -1 ∧ ∀ v, k ≤ v → x[v]? ≠ some c) ∨
    ∃ j : Nat, Txt.find3 (S x) (S [c]) (k : Int) = (j : Int) ∧ k ≤ j ∧ j < x.length ∧ x[j]? = some c ∧ ∀ v, k ≤ v → v < j → x[v]? ≠ some c := by
  have hf : fromIndex (S x).length (k : Int) = k := by
    unfold fromIndex
    have : ¬ ((k : Int) < 0) := by omega
    rw [if_neg this]; omega
  have hg : ∀ v, v < x.length → ((S x).cps.getD v 0 = c ↔ x[v]? = some c) := by
    intro v hv
    rw [getD_S, List.getD_eq_getElem?_getD, List.getElem?_eq_getElem hv]
    simp
  rcases StrLaws.find3_spec (S x) c (k : Int) with ⟨h1, h2⟩ | ⟨j, h1, h2, h3, h4, h5⟩
  · rw [hf, S_length] at h2
    refine .inl ⟨h1, fun v hv => ?_⟩
    rcases Nat.lt_or_ge v x.length with q | q
    · exact fun e => h2 v hv q ((hg v q).mpr e)
    · rw [List.getElem?_eq_none q]; intro e; cases e
  · rw [hf] at h2 h5
    rw [S_length] at h3
    exact .inr ⟨j, h1, h2, h3, (hg j h3).mp h4, fun v hv hj e => h5 v hv hj ((hg v (by omega)).mpr e)⟩

theorem clampI (a n : Nat) : max (0 : Int) (min (a : Int) (n : Int)) = ((min a n : Nat) : Int) := by omega
theorem clampN {a n : Nat} (h : a ≤ n) : max (0 : Int) (min (a : Int) (n : Int)) = (a : Int) := by rw [clampI, Nat.min_eq_left h]
theorem whole {k m n : Nat} (h1 : k ≤ m) (h2 : m ≤ n) (h : m - k = n) : k = 0 ∧ m = n := by omega
theorem posI (a : Nat) : ¬ ((a : Int) < 0) := Int.not_lt.mpr (Int.natCast_nonneg a)
theorem cut_S (x : List Nat) (a b : Nat) : (x.drop a).take (b - a) = (x.drop (min a x.length)).take (max (min a x.length) (min b x.length) - min a x.length) := by
  generalize hn : x.length = n
  rcases Nat.lt_or_ge n a with q | q
  · rw [Nat.min_eq_right (Nat.le_of_lt q), List.drop_of_length_le (hn ▸ Nat.le_of_lt q), List.drop_of_length_le (Nat.le_of_eq hn)]
    simp
  · rw [Nat.min_eq_left q]
    rcases Nat.lt_or_ge n b with r | r
    · have hd : (x.drop a).length = n - a := by rw [List.length_drop, hn]
      rw [List.take_of_length_le (by omega), List.take_of_length_le (by omega)]
    · rw [Nat.min_eq_left r]
      congr 1
      omega
theorem slice_S (x : List Nat) (a b : Nat) : Txt.slice (S x) (some (a : Int)) (some (b : Int)) = S ((x.drop a).take (b - a)) := by
  have ha : min a x.length ≤ x.length := Nat.min_le_right _ _
  have hm : max (min a x.length) (min b x.length) ≤ x.length := Nat.max_le.mpr ⟨Nat.min_le_right _ _, Nat.min_le_right _ _⟩
  have hidx : Builtin.Str.strSliceIndices (some (a : Int)) (some (b : Int)) 1 (S x).length = Builtin.Str.strSliceIndices (some ((min a x.length : Nat) : Int)) (some ((max (min a x.length) (min b x.length) : Nat) : Int)) 1 (S x).length := by
    rw [S_length]
    simp only [Builtin.Str.strSliceIndices, posI a, posI b, posI (min a x.length), posI (max (min a x.length) (min b x.length)), if_false, show ((1 : Int) > 0) = True from by simp, if_true]
    rw [clampI a, clampN ha, clampN hm, clampI b]
    unfold sliceRange
    simp only [show ((1 : Int) > 0) = True from by simp, if_true]
    by_cases q : ((min a x.length : Nat) : Int) < ((min b x.length : Nat) : Int)
    · rw [Nat.max_eq_right (Nat.le_of_lt (Int.ofNat_lt.mp q))]
    · rw [if_neg q, Nat.max_eq_left (Nat.not_lt.mp fun r => q (Int.ofNat_lt.mpr r)), if_neg (Int.lt_irrefl _)]
  have hab : min a x.length ≤ max (min a x.length) (min b x.length) := Nat.le_max_left _ _
  have hb : max (min a x.length) (min b x.length) ≤ (S x).length := by rw [S_length]; exact hm
  rw [cut_S]
  have hs := StrLaws.sliced_plain (S x) hab hb
  unfold Txt.slice
  rw [hidx]
  split
  · rename_i h
    rw [StrLaws.strSliceIndices_plain hab hb] at h
    simp at h
    rw [S_length] at h
    have e := whole hab hm h
    rw [e.2, e.1]
    simp
  · rw [hs]; rfl

/-- the end of l, as far as g holds, taken off -/
noncomputable def rdrop (g : Nat → Bool) (l : List Nat) : List Nat := (l.reverse.dropWhile g).reverse
theorem drop_takeWhile (g : Nat → Bool) : ∀ l : List Nat, l.drop (l.takeWhile g).length = l.dropWhile g
  | [] => rfl
  | c :: r => by
    rw [List.takeWhile_cons, List.dropWhile_cons]
    split
    · simp [drop_takeWhile g r]
    · rfl
theorem take_rdrop (g : Nat → Bool) (l : List Nat) : l.take (l.length - (l.reverse.takeWhile g).length) = rdrop g l := by
  unfold rdrop
  rw [← drop_takeWhile g l.reverse]
  rw [List.drop_reverse]
  simp
theorem stripBoth_S (g : Nat → Bool) (l : List Nat) : Txt.stripBy g true true (S l) = S (rdrop g (l.dropWhile g)) := by
  rw [PyProof.Rows.stripBy_eq, sub_S]
  simp only [stripLo, stripHi, if_true]
  rw [S_cps, drop_takeWhile, S_length]
  rw [← take_rdrop]
  congr 2
  have : (l.dropWhile g).length + (l.takeWhile g).length = l.length := by
    have := congrArg List.length (List.takeWhile_append_dropWhile (p := g) (l := l))
    rw [List.length_append] at this; omega
  omega
theorem stripRight_S (g : Nat → Bool) (l : List Nat) : Txt.stripBy g false true (S l) = S (rdrop g l) := by
  rw [PyProof.Rows.stripBy_eq, sub_S]
  simp only [stripLo, stripHi, if_true, if_false, Bool.false_eq_true]
  rw [S_cps, S_length, ← take_rdrop]
  simp
theorem strip_S (l : List Nat) : Txt.strip (S l) = S (rdrop Unicode.isSpace (l.dropWhile Unicode.isSpace)) := stripBoth_S _ _
theorem rstrip_S (l : List Nat) : Txt.rstrip (S l) = S (rdrop Unicode.isSpace l) := stripRight_S _ _
theorem rstripChars_S (l : List Nat) (c : Nat) : Txt.rstripChars (S l) (S [c]) = S (rdrop (· == c) l) := by
  unfold Txt.rstripChars
  have e : (S [c]).cps.contains = (· == c) := by
    funext d
    simp [S, Array.contains]
  rw [e]
  exact stripRight_S _ _
theorem S_beq (a b : List Nat) : ((S a == S b) = true) ↔ a = b := by
  rw [beq_iff_eq]
  exact ⟨S_inj, fun h => by rw [h]⟩
theorem item_S (x : List Nat) (i : Nat) (c : Nat) (h : x[i]? = some c) : Txt.item (S x) (i : Int) = S [c] := by
  have hi : i < x.length := by
    rcases Nat.lt_or_ge i x.length with q | q
    · exact q
    · rw [List.getElem?_eq_none q] at h; cases h
  unfold Txt.item Txt.charAt
  rw [StrLaws.seqIndex_nonneg (by omega) (by rw [S_length]; omega)]
  simp only [Option.bind_some, Int.toNat_natCast]
  have : (S x).cps[i]? = some c := by simpa [S] using h
  rw [this]; rfl
theorem occ_one (l : List Nat) (c : Nat) : (Builtin.Str.occurrences (S l) (S [c]) 0 (S l).length 1).isEmpty = false ↔ c ∈ l := by
  have := StrLaws.found_one (S l) c
  rw [show (Str.mk #[c]) = S [c] from rfl, S_cps] at this
  rw [Bool.eq_iff_iff, decide_eq_true_eq, Bool.not_eq_true'] at this
  exact this

theorem split_count (x y : Str) : (Txt.split x y).length ≤ x.length + 2 := by
  unfold Txt.split
  split
  · simp
  · split
    · simp
    · rw [StrLaws.partsBetween_eq]
      have : ∀ (cuts : List Nat) (a : Nat), (StrLaws.partsFrom x y.length a cuts).length = cuts.length + 1 := by
        intro cuts
        induction cuts with
        | nil => intro a; rfl
        | cons c r ih => intro a; show (StrLaws.partsFrom x y.length (c + y.length) r).length + 1 = _; rw [ih]; rfl
      rw [this]
      have := StrLaws.occ_length_le x y 0 x.length (x.length + 1)
      omega
theorem textsAre_values (l : List (Str × Tok)) : TextsAre (strValues l) (l.map (·.1)) := by
  induction l with
  | nil => exact .nil
  | cons p r ih => exact .cons ⟨p.2, rfl⟩ ih
theorem values_of_texts : ∀ {vs : List Value} {zs : List Str}, TextsAre vs zs → ∃ l, vs = strValues l ∧ l.map (·.1) = zs
  | _, _, .nil => ⟨[], rfl, rfl⟩
  | _, _, .cons ⟨t, e⟩ r => by
    obtain ⟨l, h1, h2⟩ := values_of_texts r
    exact ⟨(_, t) :: l, by rw [e, h1]; rfl, by rw [List.map_cons, h2]⟩
end

section
open PySem PySem.W PyProof.Rows PySem.Calls
set_option maxRecDepth 100000
set_option maxHeartbeats 8000000

structure PS where
  res : List (List Nat)
  part : List Nat
  esc : Bool
  quo : Bool
noncomputable def pstep (st : PS) (c : Nat) : PS :=
  if st.esc then { st with part := st.part ++ [c], esc := false }
  else if st.quo then
    if c = 92 then { st with esc := true }
    else if c = 34 then { st with quo := false, part := st.part ++ [c] }
    else { st with part := st.part ++ [c] }
  else if c = 44 then { st with res := st.res ++ [st.part], part := [] }
  else if c = 34 then { st with quo := true, part := st.part ++ [c] }
  else { st with part := st.part ++ [c] }
noncomputable def pinit : PS := ⟨[], [], false, false⟩
noncomputable def pparts (st : PS) : List (List Nat) := if st.part.isEmpty then st.res else st.res ++ [st.part]
noncomputable def parseL (l : List Nat) : List (List Nat) := pparts (l.foldl pstep pinit)

theorem pstep_len (st : PS) (c : Nat) : (pstep st c).part.length ≤ st.part.length + 1 ∧ (pstep st c).res.length ≤ st.res.length + 1 := by
  unfold pstep
  (repeat' split) <;> simp


theorem fold_len : ∀ (l : List Nat) (st : PS) (n : Nat), (∀ q ∈ st.res, q.length ≤ n) → st.part.length ≤ n → (∀ q ∈ (l.foldl pstep st).res, q.length ≤ n + l.length) ∧ (l.foldl pstep st).part.length ≤ n + l.length
  | [], st, n, h1, h2 => ⟨h1, h2⟩
  | c :: l, st, n, h1, h2 => by
    have h3 : (∀ q ∈ (pstep st c).res, q.length ≤ n + 1) ∧ (pstep st c).part.length ≤ n + 1 := by
      unfold pstep
      (repeat' split) <;> refine ⟨fun q hq => ?_, ?_⟩ <;> simp at * <;> first | (have := h1 q hq; omega) | omega | skip
      rcases hq with hq | rfl
      · have := h1 q hq; omega
      · omega
    have := fold_len l (pstep st c) (n + 1) h3.1 h3.2
    simp only [List.foldl_cons, List.length_cons]
    refine ⟨fun q hq => ?_, ?_⟩
    · have := this.1 q hq; omega
    · have := this.2; omega
theorem parseL_len (x q : List Nat) (h : q ∈ parseL x) : q.length ≤ x.length := by
  have := fold_len x pinit 0 (by simp [pinit]) (by simp [pinit])
  unfold parseL pparts at h
  split at h
  · have := this.1 q h; omega
  · rcases List.mem_append.mp h with h | h
    · have := this.1 q h; omega
    · simp at h; rw [h]; have := this.2; omega
/-- what a turn of parse_http_list's loop begins with -/
def PInv (s : Shared) (L l I : Addr) (x : List Nat) (t1 : Tok) (n : Nat) (s' : Shared) : Prop :=
  ∃ (i : Nat) (m : Str → Option Value) (vs : Array Value) (ne : Nat) (tp : Tok) (oI : Obj) (h' : Heap) (tk : Nat) (st : PS), n = x.length + 1 - i ∧ i ≤ x.length ∧ s' = { s with heap := h', toks := tk } ∧ Fr s.heap L h' m ∧
    News s.heap L h' [(l, listOf vs ne), (I, oI)] ∧ oI.cls = .type "str_ascii_iterator" ∧ oI.data = .fields #[.str (S x) t1, .int i 0] ∧ st = (x.take i).foldl pstep pinit ∧ StrsAre vs.toList st.res ∧
    m (Str.ofString "res") = some (.ref l) ∧ m (Str.ofString "part") = some (.str (S st.part) tp) ∧ m (Str.ofString "escape") = some (.bool st.esc) ∧ m (Str.ofString "quote") = some (.bool st.quo) ∧ st.part.length ≤ i ∧ vs.size ≤ i

/-- what stands behind the loop -/
def PEnd (s : Shared) (L : Addr) (x : List Nat) (s' : Shared) : Prop :=
  ∃ (m : Str → Option Value) (l : Addr) (vs : Array Value) (ne : Nat) (tp : Tok) (h' : Heap) (tk : Nat) (st : PS), s' = { s with heap := h', toks := tk } ∧ Fr s.heap L h' m ∧
    News s.heap L h' [(l, listOf vs ne)] ∧ st = x.foldl pstep pinit ∧ StrsAre vs.toList st.res ∧
    m (Str.ofString "res") = some (.ref l) ∧ m (Str.ofString "part") = some (.str (S st.part) tp) ∧ st.part.length ≤ x.length ∧ vs.size ≤ x.length


theorem pinv_intro {s : Shared} {L l I : Addr} {x : List Nat} {t1 : Tok} {i c : Nat} {st : PS} {m' : Str → Option Value} {vs' : Array Value} {ne' : Nat} {oJ : Obj} {h' : Heap} {tk' : Nat} {tp' : Tok} {part' : Str} {q : List Nat} {res' : List (List Nat)} {esc' quo' : Bool}
    (hi : i ≤ x.length) (hc : x[i]? = some c) (hst : st = (x.take i).foldl pstep pinit) (hpl : st.part.length ≤ i) (hvl : st.res.length ≤ i)
    (F : Fr s.heap L h' m') (N : News s.heap L h' [(I, oJ), (l, listOf vs' ne')]) (ho2 : oJ.cls = .type "str_ascii_iterator") (ho3 : oJ.data = .fields #[.str (S x) t1, .int (i + 1 : Nat) 0])
    (h1 : m' (Str.ofString "res") = some (.ref l)) (h2 : m' (Str.ofString "part") = some (.str part' tp')) (h3 : m' (Str.ofString "escape") = some (.bool esc')) (h4 : m' (Str.ofString "quote") = some (.bool quo'))
    (hp : part' = S q) (e : pstep st c = ⟨res', q, esc', quo'⟩) (hvs : StrsAre vs'.toList res') :
    ∃ m, m < x.length + 1 - i ∧ PInv s L l I x t1 m { s with heap := h', toks := tk' } := by
  have hlt : i < x.length := by
    rcases Nat.lt_or_ge i x.length with h | h
    · exact h
    · rw [List.getElem?_eq_none h] at hc; cases hc
  have hb := pstep_len st c
  have hsz := strsAre_size hvs
  rw [e] at hb
  refine ⟨x.length + 1 - (i + 1), by omega, i + 1, m', vs', ne', tp', oJ, h', tk', ⟨res', q, esc', quo'⟩, rfl, hlt, rfl, F, ?_, ho2, ho3, ?_, hvs, h1, hp ▸ h2, h3, h4, ?_, ?_⟩
  · intro p hp; exact N p (by simp at hp; rcases hp with rfl | rfl <;> simp)
  · rw [List.take_add_one, hc, List.foldl_append, ← hst, ← e]; rfl
  · have := hb.1; simp at this ⊢; omega
  · have := hb.2; simp at this; omega

theorem c_parse {w : World} {mean : ExcName → Option Value} {mg mb : Str → Option Value} {A : Around} {s : Shared} {x : List Nat} {t1 : Tok} {Q E : Value → Shared → Prop}
   (X : (hd.heap_39 w.params).In s.heap) (T : TopAt mean mg mb s.heap) (hA : A.depth < 500) (hh : A.handled = none) (hx : x.length ≤ 1000) (ha : (S x).cps.all (· < 128) = true)
   (hret : ∀ a ys h' tk, s.heap.get? a = none → Kept s.heap h' → (∀ h'', NewIn s.heap h' h'' → h''.IsList a ys) → TextsAre ys.toList ((parseL x).map fun q => Txt.strip (S q)) → Q (.ref a) { s with heap := h', toks := tk }) : wpAny (model PySem.Challenge.rw_mj0149_01.row.prog w) A (call (.ref 19) [.str (S x) t1]) Q E s := by
  k_with_none
  (k_with "eval Name" => ((with_reducible show wpAny _ _ (eval (PySem.Expr.Name _ _) (compEnv _ _ _)) _ _ _); refine ldC (by assumption) (by assumption) ?_))
  revert X T; k_fill; intro X T
  refine' enter X T ?k6 ?k7 ?k8 ?k9 ?kB ?_ ?c2 ?c3 ?c4 ?c5
  (case k6 => k_is); (case k7 => k_is); (case k8 => simp only [recursionLimit]; omega); (case k9 => exact BindsTo.of_eq rfl); (case c5 => decide); (case kB => exact locs rfl); (case c2 => exact rfl); (case c3 => exact rfl); (case c4 => exact rfl)
  intro L h₁ m tk₁ htk₁ hm F
  have hs : m (Str.ofString "s") = some (.str (S x) t1) := by rw [hm]; rfl
  clear hm
  have F := frPin F hs
  have N := @News.nil s.heap h₁ L
  refine seq (pre := [_, _, _]) (fun s' => ∃ m l tp h' tk, s' = { s with heap := h', toks := tk } ∧ Fr s.heap L h' m ∧ News s.heap L h' [(l, listOf #[] 0)] ∧
    m (Str.ofString "s") = some (.str (S x) t1) ∧ m (Str.ofString "res") = some (.ref l) ∧ m (Str.ofString "part") = some (.str (S []) tp) ∧ m (Str.ofString "escape") = some (.bool false) ∧ m (Str.ofString "quote") = some (.bool false)) ?_ ?_
  · k_steps
    refine ⟨rfl, _, _, ?_, _, _, rfl, (by assumption), (by assumption), ?_⟩
    rotate_left
    rw [← k_nil]
    refine ⟨rfl, rfl, ?_, rfl, rfl⟩
    exact rfl
  · clear F N hs
    rintro s' ⟨m, l, tp, h', tk, rfl, F, N, hs, hres, hpart, hesc, hquo⟩
    refine seq1 (PEnd s L x) ?_ ?_
    · refine wpAny_For (ld F hs (wpAny_pyIter_ascii ha ?_))
      have hlI : l < h'.objs.size := Heap.lt_size (N (l, _) (List.mem_cons_self)).1
      have hIL : h'.objs.size ≠ L := Nat.ne_of_gt F.ns.lt
      have hI0 : s.heap.get? h'.objs.size = none := by
        cases e : s.heap.get? h'.objs.size with
        | none => rfl
        | some o => exact absurd (Heap.lt_size (F.keep _ _ e)) (Nat.lt_irrefl _)
      generalize hI : h'.objs.size = I at *
      refine forF (PInv s L l I x t1) ?_ (x.length + 1) ?_
      · clear F N hs hres hpart hesc hquo hI
        rintro n s' ⟨i, m, vs, ne, tp, oI, h', tk, st, rfl, hi, rfl, F, N, hc1, hc2, hst, hvs, hres, hpart, hesc, hquo, hpl, hvl⟩
        have hit : h'.IsStrIter I "str_ascii_iterator" (S x) t1 i := ⟨oI, (N (I, oI) (by simp)).1, hc1, hc2⟩
        cases hc : x[i]? with
        | none =>
          have hsz : i = x.length := Nat.le_antisymm hi (by simpa using hc)
          refine wpAny_pyNext_ascii_end hh hit (by simpa [S] using hc) fun h₂ he₂ => ?_
          refine ⟨rfl, m, l, vs, ne, tp, h₂, _, st, rfl, frBut F he₂ hIL hI0, newsBut (fun p hp => N p (by simp at hp; simp [hp])) he₂ (by simp; exact Nat.ne_of_lt hlI), ?_, hvs, hres, hpart, by omega, by omega⟩
          rw [hst, hsz, List.take_length]
        | some c =>
          refine wpAny_pyNext_ascii_item hit (c := c) (by simpa [S] using hc) fun h₂ hit₂ hs₂ => ?_
          obtain ⟨oJ, ho1, ho2, ho3⟩ := hit₂
          have F₂ := frBut F hs₂.extBut hIL hI0
          have N₂ : News s.heap L h₂ [(I, oJ), (l, listOf vs ne)] := news1 ho1 hIL hI0 (newsBut (news := [(l, listOf vs ne)]) (fun p hp => N p (by simp at hp; simp [hp])) hs₂.extBut (by simp; exact Nat.ne_of_lt hlI))
          have F₃ := frPin4 F₂ hres hpart hesc hquo
          clear F F₂ N hres hpart hesc hquo hit hs₂
          dsimp only
          refine stN F₃ N₂ fun h₃ F₄ N₄ => ?_
          clear F₃ N₂
          have hS1 : (S st.part).length ≤ 1000 := by rw [S_length]; omega
          have hS2 : (Str.mk #[c]).length ≤ 1 := Nat.le_refl _
          have hN1 : @LT.lt Nat _ l I := hlI
          have hrl : st.res.length ≤ i := by rw [← strsAre_size hvs]; exact hvl
          k_steps
          all_goals (try dsimp only)
          all_goals (simp only [k_92, k_34, k_44, k_nil, mk_one, S_append, one_eq, decide_eq_true_eq, decide_eq_false_iff_not] at *)
          all_goals (refine ⟨by first | exact .inl rfl | exact .inr rfl, ?_⟩)
          all_goals (refine pinv_intro hi hc hst hpl hrl (by assumption) (by assumption) ho2 ho3 rfl rfl rfl rfl rfl ?_ (by first | exact hvs | exact strsAre_push hvs))
          all_goals (clear hst; simp [pstep, *])
      · refine ⟨0, m, #[], 0, tp, { cls := .type "str_ascii_iterator", data := .fields #[.str (S x) t1, .int 0 0] }, _, _, pinit, rfl, Nat.zero_le _, rfl, F.push _, ?_, rfl, rfl, rfl, .nil, hres, hpart, hesc, hquo, Nat.zero_le _, Nat.zero_le _⟩
        have := N.push F { cls := .type "str_ascii_iterator", data := .fields #[.str (S x) t1, .int 0 0] }
        rw [hI] at this
        intro p hp; exact this p (by simp at hp; rcases hp with rfl | rfl <;> simp)
    · clear F N hs hres hpart hesc hquo
      rintro s' ⟨m, l, vs, ne, tp, h', tk, st, rfl, F, N, hst, hvs, hres, hpart, hpl, hvl⟩
      refine seq1 (fun s' => ∃ m l vs ne h' tk, s' = { s with heap := h', toks := tk } ∧ Fr s.heap L h' m ∧ News s.heap L h' [(l, listOf vs ne)] ∧ m (Str.ofString "res") = some (.ref l) ∧ StrsAre vs.toList (parseL x) ∧ vs.size ≤ 1001) ?_ ?_
      · have F₃ := frPin2 F hres hpart
        clear F hres hpart
        have hS1 : (S st.part).length ≤ 1000 := by rw [S_length]; omega
        k_steps
        · have hz : ((S st.part).length : Int) ≠ 0 := by assumption
          refine ⟨rfl, _, _, _, _, _, _, rfl, (by assumption), (by assumption), rfl, ?_, by rw [Array.size_push]; omega⟩
          have hne : st.part.isEmpty = false := by
            cases hp : st.part with
            | nil => rw [hp] at hz; exact absurd rfl hz
            | cons a r => rfl
          unfold parseL pparts
          rw [← hst, hne]
          exact strsAre_push hvs
        · have hz : ((S st.part).length : Int) = 0 := by assumption
          refine ⟨rfl, _, _, _, _, _, _, rfl, (by assumption), (by assumption), rfl, ?_, by omega⟩
          have hne : st.part.isEmpty = true := by
            cases hp : st.part with
            | nil => rfl
            | cons a r => rw [hp, S_length] at hz; simp at hz; omega
          unfold parseL pparts
          rw [← hst, hne]
          exact hvs
      · clear F N hvs hres hpart hpl hvl
        rintro s' ⟨m, l, vs, ne, h', tk, rfl, F, N, hres, hvs, hvl⟩
        have hll : h'.IsList l vs := ⟨_, (N _ (List.mem_cons_self)).1, rfl, _, rfl⟩
        refine wpAny_execs_cons (wpAny_Return_some (compEval (fun _ v y => ∀ q, IsStr v q → ∃ t, y = .str (Txt.strip (S q)) t) (fun _ => true) hh (by decide) (by decide) rfl (by decide) (ld F hres ⟨l, vs, rfl, hll, by rw [sizeLine_eq]; omega, turnName rfl rfl ?_, ?_⟩)))
        · intro C v s₂ m₂ hv hC hn hm hk hs₂
          obtain ⟨q, hq, tq, rfl⟩ := Paired.mem hvs v (by simpa using hv)
          have hS1 : (S q).length ≤ 1000 := by rw [S_length]; have := parseL_len x q hq; omega
          k_steps
          refine ⟨_, _, rfl, fun _ _ e => e, fun _ _ q' hq' => ?_⟩
          obtain ⟨t', e⟩ := hq'
          have : S q = S q' := by injection e
          exact ⟨_, by rw [this]⟩
        · intro D h₂ tk₂ ys hD hk₂ hP
          have h3 := hP h₂ fun _ _ _ e => e
          refine hret D ys h₂ tk₂ ?_ (fun b o e => hk₂ b o (F.keep b o e)) (fun h'' hN => (hP h'' fun b o h1 e => hN b o ?_ e).1) ?_
          · cases q : s.heap.get? D with
            | none => rfl
            | some o => have := F.keep D o q; rw [show h'.get? D = none from hD] at this; cases this
          · cases q : s.heap.get? b with
            | none => rfl
            | some o => have := F.keep b o q; rw [show h'.get? b = none from h1] at this; cases this
          · have h4 := h3.2
            rw [List.filter_eq_self.mpr (fun _ _ => rfl)] at h4
            exact Paired.map (G := IsText) (f := fun q => Txt.strip (S q)) (fun _ _ h => h) (Paired.comp (H := fun y q => ∃ t, y = Value.str (Txt.strip (S q)) t) (fun _ _ q h1 h2 => h1 q h2) h4 hvs)
end

section
open PySem PySem.W PyProof.Rows PySem.Calls
set_option maxRecDepth 100000
set_option maxHeartbeats 8000000

/-- how many backslashes end l -/
noncomputable def tb (l : List Nat) : Nat := (l.reverse.takeWhile (· == 92)).length
/-- behind the opening quote at i, up to k: the backslashes that end it are odd in number -/
def oddAt (x : List Nat) (i k : Nat) : Prop := tb ((x.drop (i + 1)).take (k - (i + 1))) % 2 = 1
/-- no quote from i + 1 up to j that closes -/
def NoClose (x : List Nat) (i j : Nat) : Prop := ∀ k, i < k → k < j → x[k]? = some 34 → oddAt x i k
def CInv (x : List Nat) (i : Nat) (j : Int) (n : Nat) : Prop :=
  (j = -1 ∧ n = 0 ∧ NoClose x i x.length) ∨ ∃ k : Nat, j = k ∧ i < k ∧ k < x.length ∧ x[k]? = some 34 ∧ NoClose x i k ∧ n = x.length - k

/-- where the quote at i closes -/
def ClosedAt (x : List Nat) (i r : Nat) : Prop := i < r ∧ r ≤ x.length ∧ NoClose x i r ∧ (r < x.length → x[r]? = some 34 ∧ ¬ oddAt x i r)

theorem cinv_find (x : List Nat) (i k : Nat) (hik : i < k) (hno : NoClose x i k) : ∃ n, CInv x i (Txt.find3 (S x) (S [34]) (k : Int)) n ∧ n ≤ x.length - k := by
  rcases find3_S x 34 k with ⟨h1, h2⟩ | ⟨j, h1, h2, h3, h4, h5⟩
  · refine ⟨0, .inl ⟨h1, rfl, fun v hv hl e => ?_⟩, Nat.zero_le _⟩
    rcases Nat.lt_or_ge v k with q | q
    · exact hno v hv q e
    · exact absurd e (h2 v q)
  · refine ⟨x.length - j, .inr ⟨j, h1, by omega, h3, h4, fun v hv hl e => ?_, rfl⟩, by omega⟩
    rcases Nat.lt_or_ge v k with q | q
    · exact hno v hv q e
    · exact absurd e (h5 v q hl)
theorem rdrop_len (g : Nat → Bool) (l : List Nat) : (rdrop g l).length = l.length - (l.reverse.takeWhile g).length := by
  rw [← take_rdrop, List.length_take]; omega
theorem tb_le (l : List Nat) : tb l ≤ l.length := by
  have := takeWhile_len_le (· == 92) l.reverse
  simpa [tb] using this
theorem odd_iff (x : List Nat) (i k : Nat) (hik : i < k) (hk : k < x.length) :
    (((k : Int) - i - 1 - ((Txt.rstripChars (Txt.slice (S x) (some ((i : Int) + 1)) (some (k : Int))) (S [92])).length : Int)).fmod 2 = 1) ↔ oddAt x i k := by
  have e : ((i : Int) + 1) = ((i + 1 : Nat) : Int) := by omega
  rw [e, slice_S, rstripChars_S, S_length, rdrop_len]
  have hl : ((x.drop (i + 1)).take (k - (i + 1))).length = k - (i + 1) := by simp; omega
  have ht := tb_le ((x.drop (i + 1)).take (k - (i + 1)))
  unfold oddAt
  rw [hl] at ht ⊢
  have e2 : ((List.takeWhile (fun x => x == 92) (List.take (k - (i + 1)) (List.drop (i + 1) x)).reverse)).length = tb ((x.drop (i + 1)).take (k - (i + 1))) := rfl
  rw [e2]
  generalize tb ((x.drop (i + 1)).take (k - (i + 1))) = z at *
  have e3 : ((k : Int) - i - 1 - ((k - (i + 1) - z : Nat) : Int)) = (z : Int) := by omega
  rw [e3, Int.fmod_eq_emod_of_nonneg _ (by decide)]
  omega

theorem c_close {w : World} {mean : ExcName → Option Value} {mg mb : Str → Option Value} {A : Around} {s : Shared} {x : List Nat} {i : Nat} {t1 t2 : Tok} {Q E : Value → Shared → Prop}
   (X : (hd.heap_39 w.params).In s.heap) (T : TopAt mean mg mb s.heap) (hA : A.depth < 500) (hx : x.length ≤ 1000) (hi : i < x.length)
   (hret : ∀ (r : Nat) t h' tk, Kept s.heap h' → ClosedAt x i r → Q (.int r t) { s with heap := h', toks := tk }) : wpAny (model PySem.Challenge.rw_mj0149_01.row.prog w) A (call (.ref 36) [.str (S x) t1, .int i t2]) Q E s := by
  k_with_none
  revert X T; k_fill; intro X T
  refine' enter X T ?k6 ?k7 ?k8 ?k9 ?kB ?_ ?c2 ?c3 ?c4 ?c5
  (case k6 => k_is); (case k7 => k_is); (case k8 => simp only [recursionLimit]; omega); (case k9 => exact BindsTo.of_eq rfl); (case c5 => decide); (case kB => exact locs rfl); (case c2 => exact rfl); (case c3 => exact rfl); (case c4 => exact rfl)
  intro L h₁ m tk₁ htk₁ hm F
  have ht : m (Str.ofString "text") = some (.str (S x) t1) := by rw [hm]; rfl
  have hi' : m (Str.ofString "i") = some (.int i t2) := by rw [hm]; rfl
  clear hm
  have F := frPin2 F ht hi'
  have N := @News.nil s.heap h₁ L
  have hS : (S x).length ≤ 1000 := by rw [S_length]; omega
  refine seq1 (fun s' => ∃ m j tj h' tk n, s' = { s with heap := h', toks := tk } ∧ Fr s.heap L h' m ∧ m (Str.ofString "text") = some (.str (S x) t1) ∧ m (Str.ofString "i") = some (.int i t2) ∧ m (Str.ofString "j") = some (.int j tj) ∧ CInv x i j n) ?_ ?_
  · k_steps
    obtain ⟨n, hn, _⟩ := cinv_find x i (i + 1) (by omega) (fun k h1 h2 => by omega)
    refine ⟨rfl, _, ?j, ?tj, _, _, n, rfl, (by assumption), rfl, rfl, ?h1, ?h2⟩
    case h1 => exact rfl
    case h2 => rw [k_34]; exact hn
  · clear F N ht hi'
    rintro s' ⟨m, j, tj, h', tk, n, rfl, F, ht, hi', hj, hI⟩
    refine seq1 (fun s' => ∃ m j tj h' tk n, s' = { s with heap := h', toks := tk } ∧ Fr s.heap L h' m ∧ m (Str.ofString "text") = some (.str (S x) t1) ∧ m (Str.ofString "i") = some (.int i t2) ∧ m (Str.ofString "j") = some (.int j tj) ∧ CInv x i j n ∧ (0 ≤ j → ¬ oddAt x i j.toNat)) ?_ ?_
    · refine whileF (fun n s' => ∃ m j tj h' tk, s' = { s with heap := h', toks := tk } ∧ Fr s.heap L h' m ∧ m (Str.ofString "text") = some (.str (S x) t1) ∧ m (Str.ofString "i") = some (.int i t2) ∧ m (Str.ofString "j") = some (.int j tj) ∧ CInv x i j n) ?_ n ⟨m, j, tj, h', tk, rfl, F, ht, hi', hj, hI⟩
      clear F ht hi' hj hI
      rintro n s' ⟨m, j, tj, h', tk, rfl, F, ht, hi', hj, hI⟩
      have F := frPin3 F ht hi' hj
      have N := @News.nil s.heap h' L
      rcases hI with ⟨hj1, hn0, hno⟩ | ⟨k, hj1, hik, hkl, hk34, hno, hn⟩
      · subst hj1
        k_steps
        refine ⟨rfl, _, -1, ?tj2, _, _, 0, rfl, (by assumption), rfl, rfl, ?h3, .inl ⟨rfl, rfl, hno⟩, fun h => absurd h (by decide)⟩
        case h3 => exact rfl
      · subst hj1
        k_steps
        · have ho : ((k : Int) - i - 1 - ((Txt.rstripChars (Txt.slice (S x) (some ((i : Int) + 1)) (some (k : Int))) (Str.ofString "\\")).length : Int)).fmod 2 = 1 := by assumption
          rw [k_92, odd_iff x i k hik hkl] at ho
          obtain ⟨n', hn', hle⟩ := cinv_find x i (k + 1) (by omega) (fun v h1 h2 e => by
            rcases Nat.lt_or_ge v k with q | q
            · exact hno v h1 q e
            · have : v = k := by omega
              subst this; exact ho)
          refine ⟨.inl rfl, n', by omega, _, ?j4, ?tj4, _, _, rfl, (by assumption), rfl, rfl, ?h4, ?h5⟩
          case h4 => exact rfl
          case h5 => rw [k_34]; exact hn'
        · have ho : ¬ ((k : Int) - i - 1 - ((Txt.rstripChars (Txt.slice (S x) (some ((i : Int) + 1)) (some (k : Int))) (Str.ofString "\\")).length : Int)).fmod 2 = 1 := by assumption
          rw [k_92, odd_iff x i k hik hkl] at ho
          refine ⟨rfl, _, (k : Int), ?tj6, _, _, n, rfl, (by assumption), rfl, rfl, ?h6, .inr ⟨k, rfl, hik, hkl, hk34, hno, hn⟩, fun _ => ho⟩
          case h6 => exact rfl
    · clear F ht hi' hj hI
      rintro s' ⟨m, j, tj, h', tk, n, rfl, F, ht, hi', hj, hI, hodd⟩
      have F := frPin3 F ht hi' hj
      have N := @News.nil s.heap h' L
      k_steps
      · rcases hI with ⟨hj1, hn0, hno⟩ | ⟨k, hj1, hik, hkl, hk34, hno, hn⟩
        · have : 0 < j := by assumption
          omega
        · subst hj1
          exact hret k _ _ _ (Fr.keep (by assumption)) ⟨hik, by omega, hno, fun _ => ⟨hk34, hodd (by omega)⟩⟩
      · rcases hI with ⟨hj1, hn0, hno⟩ | ⟨k, hj1, hik, hkl, hk34, hno, hn⟩
        · rw [S_length]
          exact hret x.length _ _ _ (Fr.keep (by assumption)) ⟨hi, by omega, hno, fun h => absurd h (Nat.lt_irrefl _)⟩
        · have : ¬ 0 < j := by assumption
          omega
end

section
open PySem PySem.W PyProof.Rows PySem.Calls
set_option maxRecDepth 100000
set_option maxHeartbeats 2000000

/-- the escapes undone -/
noncomputable def un : List Nat → List Nat
  | [] => []
  | [c] => if c = 92 then [] else [c]
  | c :: d :: r => if c = 92 then (if d = 92 then 92 :: un r else un (d :: r)) else c :: un (d :: r)
/-- behind an opening quote: the text up to the closing one and with it, escapes undone; and the rest -/
noncomputable def qscan : List Nat → List Nat × List Nat
  | [] => ([], [])
  | [c] => if c = 34 then ([34], []) else if c = 92 then ([], []) else ([c], [])
  | c :: d :: r => if c = 34 then ([34], d :: r) else if c = 92 then (d :: (qscan r).1, (qscan r).2) else (c :: (qscan (d :: r)).1, (qscan (d :: r)).2)

theorem qscan_len : ∀ l : List Nat, (qscan l).1.length + (qscan l).2.length ≤ l.length
  | [] => by simp [qscan]
  | [c] => by unfold qscan; (repeat' split) <;> simp
  | c :: d :: r => by
    have h1 := qscan_len r
    have h2 := qscan_len (d :: r)
    unfold qscan
    (repeat' split) <;> simp at * <;> omega

/-- the tokens of a text -/
noncomputable def wordsGo (cut : List Nat → List Nat) : Nat → List Nat → List (List Nat)
  | 0, _ => []
  | _ + 1, [] => []
  | n + 1, c :: r => if c = 34 then (34 :: (qscan r).1) :: wordsGo cut n (qscan r).2 else cut (c :: r) :: wordsGo cut n ((c :: r).drop (cut (c :: r)).length)
noncomputable def wordsF (cut : List Nat → List Nat) (x : List Nat) : List (List Nat) := wordsGo cut x.length x

theorem un_len : ∀ l : List Nat, (un l).length ≤ l.length
  | [] => by simp [un]
  | [c] => by unfold un; split <;> simp
  | c :: d :: r => by
    have h1 := un_len r
    have h2 := un_len (d :: r)
    unfold un
    (repeat' split) <;> simp at * <;> omega

/-- two backslashes stand at k -/
def DD (l : List Nat) (k : Nat) : Prop := l[k]? = some 92 ∧ l[k + 1]? = some 92
theorem un_noDD : ∀ l : List Nat, (∀ k, ¬ DD l k) → un l = l.filter (· != 92)
  | [], _ => by simp [un]
  | [c], _ => by unfold un; by_cases h : c = 92 <;> simp [h]
  | c :: d :: r, hn => by
    have ih := un_noDD (d :: r) (fun k hk => hn (k + 1) (by simpa [DD] using hk))
    unfold un
    by_cases h : c = 92
    · have hd : d ≠ 92 := fun e => hn 0 (by simp [DD, h, e])
      rw [if_pos h, if_neg hd, ih]
      simp [h]
    · rw [if_neg h, ih]
      simp [h]
theorem un_app : ∀ (p r : List Nat), (∀ k, k < p.length → ¬ DD (p ++ 92 :: 92 :: r) k) → un (p ++ 92 :: 92 :: r) = p.filter (· != 92) ++ 92 :: un r
  | [], r, _ => by simp [un]
  | [c], r, hn => by
    have hc : c ≠ 92 := fun e => hn 0 (by simp) (by simp [DD, e])
    show un (c :: 92 :: 92 :: r) = _
    rw [un, if_neg hc, un, if_pos rfl, if_pos rfl]
    simp [hc]
  | c :: d :: p, r, hn => by
    have ih := un_app (d :: p) r (fun k hk hd => hn (k + 1) (by simp at hk ⊢; omega) (by simpa [DD] using hd))
    show un (c :: d :: (p ++ 92 :: 92 :: r)) = _
    rw [un]
    by_cases h : c = 92
    · have hd : d ≠ 92 := fun e => hn 0 (by simp) (by simp [DD, h, e])
      rw [if_pos h, if_neg hd]
      rw [show un (d :: (p ++ 92 :: 92 :: r)) = _ from ih]
      simp [h]
    · rw [if_neg h, show un (d :: (p ++ 92 :: 92 :: r)) = _ from ih]
      simp [h]

theorem join_filter (c : Nat) : ∀ parts : List Str, (∀ p ∈ parts, c ∉ p.cps.toList) → (Str.join (S []) parts).cps.toList = (Str.join (S [c]) parts).cps.toList.filter (· != c)
  | [], _ => by simp [Str.join, Str.empty]
  | [p], h => by
    show p.cps.toList = p.cps.toList.filter (· != c)
    rw [List.filter_eq_self.mpr]
    intro a ha
    have := h p (by simp)
    simp
    intro e
    exact this (e ▸ ha)
  | p :: q :: r, h => by
    have ih := join_filter c (q :: r) (fun a ha => h a (List.mem_cons_of_mem _ ha))
    show (p ++ S [] ++ Str.join (S []) (q :: r)).cps.toList = (p ++ S [c] ++ Str.join (S [c]) (q :: r)).cps.toList.filter (· != c)
    simp only [Str.cps_append, Array.toList_append, List.filter_append, ih, S_cps]
    have : p.cps.toList.filter (· != c) = p.cps.toList := by
      rw [List.filter_eq_self.mpr]
      intro a ha
      have := h p (by simp)
      simp
      intro e
      exact this (e ▸ ha)
    rw [this]
    simp
theorem replace_S (l : List Nat) (c : Nat) : Txt.replace (S l) (S [c]) (S []) = S (l.filter (· != c)) := by
  have h1 := StrLaws.replace_one (S l) (S []) c
  have h2 := StrLaws.split_free (S l) c
  have h3 := StrLaws.join_split (S l) (S [c])
  have h4 := join_filter c (Txt.split (S l) (S [c])) h2
  rw [h3, S_cps] at h4
  show Txt.replace (S l) ⟨#[c]⟩ (S []) = _
  rw [h1]
  apply Str.ext'
  apply Array.toList_inj.mp
  exact h4

theorem at_iff (l : List Nat) (k : Nat) : StrLaws.At (S l) (S [92, 92]) (S l).length k ↔ DD l k := by
  unfold StrLaws.At DD
  rw [StrLaws.subAt_eq, S_length, S_length, S_cps, S_cps]
  simp only [List.length_cons, List.length_nil, beq_iff_eq]
  constructor
  · rintro ⟨h1, h2⟩
    have g0 := congrArg (fun z => z[0]?) h2
    have g1 := congrArg (fun z => z[1]?) h2
    simp [List.getElem?_take] at g0 g1
    exact ⟨g0, g1⟩
  · rintro ⟨h1, h2⟩
    have hk : k + 1 < l.length := by
      rcases Nat.lt_or_ge (k + 1) l.length with q | q
      · exact q
      · rw [List.getElem?_eq_none q] at h2; cases h2
    refine ⟨by omega, ?_⟩
    rw [List.drop_eq_getElem_cons (by omega), List.drop_eq_getElem_cons hk]
    have e1 : l[k] = 92 := by rw [List.getElem?_eq_getElem (by omega)] at h1; exact Option.some.inj h1
    have e2 : l[k + 1] = 92 := by rw [List.getElem?_eq_getElem hk] at h2; exact Option.some.inj h2
    simp [e1, e2]

/-- Python's unescaping: split by two backslashes, drop the backslashes left, join by one -/
noncomputable def unText (z : Str) : Str := Txt.join (S [92]) ((Txt.split z (S [92, 92])).map fun p => Txt.replace p (S [92]) (S []))
theorem un_chain (l : List Nat) : ∀ (cuts : List Nat) (a f : Nat), StrLaws.ChainG (S l) (S [92, 92]) (S l).length a cuts f → (∀ k, f ≤ k → ¬ StrLaws.At (S l) (S [92, 92]) (S l).length k) →
    Str.join (S [92]) ((StrLaws.partsFrom (S l) 2 a cuts).map fun p => Txt.replace p (S [92]) (S [])) = S (un (l.drop a))
  | [], a, f, hc, hn => by
    have hf : f = a := hc
    subst hf
    show Txt.replace (Builtin.Str.strSub (S l) f (S l).length) (S [92]) (S []) = _
    rw [sub_S, S_length, List.take_of_length_le (by simp), replace_S]
    rw [un_noDD]
    intro k hk
    refine hn (f + k) (by omega) ((at_iff l (f + k)).mpr ?_)
    unfold DD at hk ⊢
    rw [List.getElem?_drop, List.getElem?_drop] at hk
    rw [show f + k + 1 = f + (k + 1) from by omega]
    exact hk
  | c :: r, a, f, hc, hn => by
    obtain ⟨hac, hat, hno, hrest⟩ := hc
    have ih := un_chain l r (c + 2) f hrest hn
    obtain ⟨q, qs, hq⟩ := StrLaws.partsFrom_ne (S l) 2 (c + 2) r
    have hdd := (at_iff l c).mp hat
    have hlt : c + 1 < l.length := by
      rcases Nat.lt_or_ge (c + 1) l.length with h | h
      · exact h
      · have := hdd.2; rw [List.getElem?_eq_none h] at this; cases this
    have e1 : l[c] = 92 := by have := hdd.1; rw [List.getElem?_eq_getElem (by omega)] at this; exact Option.some.inj this
    have e2 : l[c + 1] = 92 := by have := hdd.2; rw [List.getElem?_eq_getElem hlt] at this; exact Option.some.inj this
    have hsp : l.drop a = (l.drop a).take (c - a) ++ 92 :: 92 :: l.drop (c + 2) := by
      conv => lhs; rw [← List.take_append_drop (c - a) (l.drop a)]
      rw [List.drop_drop, show a + (c - a) = c from by omega, List.drop_eq_getElem_cons (by omega : c < l.length), List.drop_eq_getElem_cons hlt, e1, e2]
    show Str.join (S [92]) ((Builtin.Str.strSub (S l) a c :: StrLaws.partsFrom (S l) 2 (c + 2) r).map fun p => Txt.replace p (S [92]) (S [])) = _
    rw [hq] at ih ⊢
    show Txt.replace (Builtin.Str.strSub (S l) a c) (S [92]) (S []) ++ S [92] ++ Str.join (S [92]) ((q :: qs).map fun p => Txt.replace p (S [92]) (S [])) = _
    rw [ih, sub_S, replace_S, S_append, S_append]
    congr 1
    conv => rhs; rw [hsp]
    rw [un_app]
    · simp
    · intro k hk hd
      rw [← hsp] at hd
      rw [List.length_take, List.length_drop] at hk
      refine hno (a + k) (by omega) (by omega) ((at_iff l (a + k)).mpr ?_)
      unfold DD at hd ⊢
      rw [List.getElem?_drop, List.getElem?_drop] at hd
      rw [show a + k + 1 = a + (k + 1) from by omega]
      exact hd

theorem unText_S (l : List Nat) : unText (S l) = S (un l) := by
  obtain ⟨f, hc, hn⟩ := StrLaws.occ_tight (S l) (S [92, 92]) (by rw [S_length]; decide)
  have key := un_chain l _ 0 f hc hn
  unfold unText
  show Builtin.Str.glued (S [92]) _ = _
  rw [StrLaws.glued_eq_join]
  have hsplit : Txt.split (S l) (S [92, 92]) = StrLaws.partsFrom (S l) 2 0 (Builtin.Str.occurrences (S l) (S [92, 92]) 0 (S l).length ((S l).length + 1)) := by
    unfold Txt.split
    split
    · rename_i h
      have hno : Builtin.Str.occurrences (S l) (S [92, 92]) 0 (S l).length ((S l).length + 1) = [] := by
        cases ho : Builtin.Str.occurrences (S l) (S [92, 92]) 0 (S l).length ((S l).length + 1) with
        | nil => rfl
        | cons c r =>
          exfalso
          rw [ho] at hc
          have hd := (at_iff l c).mp hc.2.1
          have hlt : c + 1 < l.length := by
            rcases Nat.lt_or_ge (c + 1) l.length with h | h
            · exact h
            · have := hd.2; rw [List.getElem?_eq_none h] at this; cases this
          rw [Bool.or_eq_true, decide_eq_true_eq, decide_eq_true_eq, S_length, S_length] at h
          rcases h with h | h
          · simp at h; omega
          · have e1 : Builtin.Str.strKind (S [92, 92]) = 1 := by decide +kernel
            have e2 : 1 ≤ Builtin.Str.strKind (S l) := by unfold Builtin.Str.strKind; (repeat' split) <;> omega
            omega
      rw [hno]
      show [S l] = [Builtin.Str.strSub (S l) 0 (S l).length]
      rw [sub_S, S_length]
      simp
    · split
      · rename_i h
        have hno : Builtin.Str.occurrences (S l) (S [92, 92]) 0 (S l).length ((S l).length + 1) = [] := by simpa using h
        rw [hno]
        show [S l] = [Builtin.Str.strSub (S l) 0 (S l).length]
        rw [sub_S, S_length]
        simp
      · rw [StrLaws.partsBetween_eq]; rfl
  rw [hsplit, key]
  simp

/-- the parity of the backslashes that end l -/
noncomputable def par (l : List Nat) : Bool := l.foldl (fun b c => if c = 92 then !b else false) false
theorem tb_snoc (l : List Nat) (c : Nat) : tb (l ++ [c]) = if c = 92 then tb l + 1 else 0 := by
  unfold tb
  rw [List.reverse_append]
  simp only [List.reverse_cons, List.reverse_nil, List.nil_append, List.singleton_append, List.takeWhile_cons]
  by_cases h : c = 92 <;> simp [h]
theorem par_tb (l : List Nat) : par l = true ↔ tb l % 2 = 1 := by
  rw [← List.reverse_reverse l]
  induction l.reverse with
  | nil => simp [par, tb]
  | cons c r ih =>
    rw [List.reverse_cons, tb_snoc]
    have hp : par (r.reverse ++ [c]) = if c = 92 then !par r.reverse else false := by simp [par]
    rw [hp]
    by_cases h : c = 92
    · rw [if_pos h, if_pos h]
      cases hq : par r.reverse with
      | true => have := ih.mp hq; simp; omega
      | false =>
        have : ¬ tb r.reverse % 2 = 1 := fun e => by rw [ih.mpr e] at hq; cases hq
        simp; omega
    · rw [if_neg h, if_neg h]; simp

theorem close_go : ∀ (ys : List Nat) (k : Nat), k ≤ ys.length → (∀ j, j < k → ys[j]? = some 34 → par (ys.take j) = true) → (k < ys.length → ys[k]? = some 34 ∧ par (ys.take k) = false) →
    un (ys.take k) ++ (ys.drop k).take 1 = (qscan ys).1 ∧ ys.drop (k + 1) = (qscan ys).2
  | [], k, hk, h1, h2 => by simp at hk; subst hk; simp [un, qscan]
  | [c], k, hk, h1, h2 => by
    rcases Nat.eq_zero_or_pos k with rfl | hp
    · have := (h2 (by simp)).1
      simp at this
      subst this
      simp [un, qscan]
    · have : k = 1 := by simp at hk; omega
      subst this
      have hc : c ≠ 34 := fun e => by have := h1 0 (by omega) (by simp [e]); simp [par] at this
      unfold qscan
      rw [if_neg hc]
      by_cases h92 : c = 92
      · subst h92; simp [un]
      · simp [un, h92]
  | c :: d :: r, k, hk, h1, h2 => by
    by_cases hc : c = 34
    · subst hc
      have : k = 0 := by
        rcases Nat.eq_zero_or_pos k with h | hp
        · exact h
        · have := h1 0 hp (by simp); simp [par] at this
      subst this
      simp [un, qscan]
    · have hk0 : k ≠ 0 := fun e => by
        subst e
        have := (h2 (by simp)).1
        simp at this
        exact hc this
      by_cases h92 : c = 92
      · subst h92
        have hk1 : k ≠ 1 := fun e => by
          subst e
          have := (h2 (by simp)).2
          simp [par] at this
        obtain ⟨k', rfl⟩ : ∃ k', k = k' + 2 := ⟨k - 2, by omega⟩
        have hpar : ∀ j, par ((92 :: d :: r).take (j + 2)) = par (r.take j) := by
          intro j
          simp [par]
        have ih := close_go r k' (by simp at hk; omega) (fun j hj e => by rw [← hpar]; exact h1 (j + 2) (by omega) (by simpa using e))
          (fun hlt => by have := h2 (by simp; omega); rw [hpar] at this; simpa using this)
        unfold qscan
        rw [if_neg (by decide), if_pos rfl]
        refine ⟨?_, by simpa using ih.2⟩
        have e1 : (92 :: d :: r).take (k' + 2) = 92 :: d :: r.take k' := rfl
        have e2 : (92 :: d :: r).drop (k' + 2) = r.drop k' := rfl
        rw [e1, e2]
        have e3 : un (92 :: d :: r.take k') = d :: un (r.take k') := by
          rw [un, if_pos rfl]
          by_cases hd : d = 92
          · rw [if_pos hd, hd]
          · rw [if_neg hd]
            cases r.take k' with
            | nil => simp [un, hd]
            | cons a b => rw [un, if_neg hd]
        rw [e3, List.cons_append, ih.1]
      · obtain ⟨k', rfl⟩ : ∃ k', k = k' + 1 := ⟨k - 1, by omega⟩
        have hpar : ∀ j, par ((c :: d :: r).take (j + 1)) = par ((d :: r).take j) := by
          intro j
          simp [par, h92]
        have ih := close_go (d :: r) k' (by simp at hk ⊢; omega) (fun j hj e => by rw [← hpar]; exact h1 (j + 1) (by omega) (by simpa using e))
          (fun hlt => by have := h2 (by simp at hlt ⊢; omega); rw [hpar] at this; simpa using this)
        unfold qscan
        rw [if_neg hc, if_neg h92]
        refine ⟨?_, by simpa using ih.2⟩
        have e1 : (c :: d :: r).take (k' + 1) = c :: (d :: r).take k' := rfl
        have e2 : (c :: d :: r).drop (k' + 1) = (d :: r).drop k' := rfl
        rw [e1, e2]
        have e3 : un (c :: (d :: r).take k') = c :: un ((d :: r).take k') := by
          cases (d :: r).take k' with
          | nil => simp [un, h92]
          | cons a b => rw [un, if_neg h92]
        rw [e3, List.cons_append, ih.1]

theorem close_q (x : List Nat) (i r : Nat) (hi : i < x.length) (h : ClosedAt x i r) :
    un ((x.drop (i + 1)).take (r - (i + 1))) ++ ((x.drop r).take 1) = (qscan (x.drop (i + 1))).1 ∧ x.drop (r + 1) = (qscan (x.drop (i + 1))).2 := by
  obtain ⟨h1, h2, h3, h4⟩ := h
  have key := close_go (x.drop (i + 1)) (r - (i + 1)) (by rw [List.length_drop]; omega)
    (fun j hj e => by
      rw [par_tb]
      have := h3 (i + 1 + j) (by omega) (by omega) (by rw [List.getElem?_drop] at e; exact e)
      unfold oddAt at this
      rw [show i + 1 + j - (i + 1) = j from by omega] at this
      exact this)
    (fun hlt => by
      rw [List.length_drop] at hlt
      have := h4 (by omega)
      refine ⟨by rw [List.getElem?_drop, show i + 1 + (r - (i + 1)) = r from by omega]; exact this.1, ?_⟩
      cases hp : par ((x.drop (i + 1)).take (r - (i + 1))) with
      | false => rfl
      | true => exact absurd ((par_tb _).mp hp) this.2)
  rw [List.drop_drop, show i + 1 + (r - (i + 1)) = r from by omega] at key
  rw [List.drop_drop, show i + 1 + (r - (i + 1) + 1) = r + 1 from by omega] at key
  exact key
end

section
open PySem PySem.W PyProof.Rows PySem.Calls
set_option maxRecDepth 100000
set_option maxHeartbeats 8000000

/-- what a function that cuts one token tells -/
def CutOk (w : World) (mean : ExcName → Option Value) (mg mb : Str → Option Value) (f : Addr) (cut : List Nat → List Nat) : Prop :=
  ∀ (A : Around) (s : Shared) (x : List Nat) (i : Nat) (t1 t2 : Tok) (Q E : Value → Shared → Prop), (hd.heap_39 w.params).In s.heap → TopAt mean mg mb s.heap → A.depth < 500 → A.handled = none → x.length ≤ 1000 → i < x.length →
    (∀ t h' tk, Kept s.heap h' → Q (.str (S (cut (x.drop i))) t) { s with heap := h', toks := tk }) →
    wpAny (model PySem.Challenge.rw_mj0149_01.row.prog w) A (call (.ref f) [.str (S x) t1, .int i t2]) Q E s

def WInv (s : Shared) (L l f : Addr) (cut : List Nat → List Nat) (x : List Nat) (t1 : Tok) (n : Nat) (s' : Shared) : Prop :=
  ∃ (i : Nat) (m : Str → Option Value) (vs : Array Value) (ne : Nat) (ti : Tok) (h' : Heap) (tk : Nat) (ws : List (List Nat)) (k : Nat), n = x.length - i ∧ s' = { s with heap := h', toks := tk } ∧ Fr s.heap L h' m ∧ News s.heap L h' [(l, listOf vs ne)] ∧
    m (Str.ofString "text") = some (.str (S x) t1) ∧ m (Str.ofString "cut") = some (.ref f) ∧ m (Str.ofString "words") = some (.ref l) ∧ m (Str.ofString "i") = some (.int i ti) ∧
    StrsAre vs.toList ws ∧ wordsF cut x = ws ++ wordsGo cut k (x.drop i) ∧ x.length - i ≤ k ∧ vs.size ≤ i ∧ i ≤ 2000

theorem last_item {prog : Program} {w : World} {A : Around} {E : Value → Shared → Prop} {s : Shared} {value slice : PySem.Expr} {l : Addr} {items : Array Value} {v : Value} {u : Tok} {Q : Value → Shared → Prop}
    (hl : s.heap.IsList l items) (hp : 0 < items.size) (hv : items[items.size - 1]? = some v) (h : Q v s)
    (hs : subscripted slice false (.ref l) (.int (-1) u) = operate [.ref l, .int (-1) u] (getItem (.ref l) (.int (-1) u))) :
    wpAny (model prog w) A (subscriptTail value slice (.ref l) (.int (-1) u)) Q E s :=
  tail_any hl.typeIs slot_list_getitem.lookup (wpAny_getItem_list_neg hl (by decide) (by omega) (by decide) (by rw [show ((-1 : Int) + items.size).toNat = items.size - 1 from by omega]; exact hv) h) hs
theorem k_9292 : Str.ofString "\\\\" = S [92, 92] := by decide +kernel


theorem c_words {w : World} {mean : ExcName → Option Value} {mg mb : Str → Option Value} {A : Around} {s : Shared} {x : List Nat} {t1 : Tok} {f : Addr} {cut : List Nat → List Nat} {Q E : Value → Shared → Prop}
   (X : (hd.heap_39 w.params).In s.heap) (T : TopAt mean mg mb s.heap) (hA : A.depth < 400) (hh : A.handled = none) (hx : x.length ≤ 1000) (hf : f = 48 ∨ f = 55) (hcut : CutOk w mean mg mb f cut) (hcl : ∀ c r, 1 ≤ (cut (c :: r)).length ∧ (cut (c :: r)).length ≤ 3) (hpos : 0 < s.toks)
   (hret : ∀ a vs h' tk, s.heap.get? a = none → Kept s.heap h' → (∀ h'', NewIn s.heap h' h'' → h''.IsList a vs) → StrsAre vs.toList (wordsF cut x) → Q (.ref a) { s with heap := h', toks := tk }) : wpAny (model PySem.Challenge.rw_mj0149_01.row.prog w) A (call (.ref 41) [.str (S x) t1, .ref f]) Q E s := by
  k_with_none
  (k_with "eval Name" => ((with_reducible show wpAny _ _ (eval (PySem.Expr.Name _ _) (compEnv _ _ _)) _ _ _); refine ldC (by assumption) (by assumption) ?_))
  (k_with "call ref" => ( (with_reducible show wpAny _ _ (call (Value.ref 36) _) _ _ _); (rename Fr _ _ _ _ => F9); (rename News _ _ _ _ => N9); (rename Frag.In _ _ => X9); (rename Top _ _ _ _ _ _ => T9); (refine c_close (X9.keeps F9.keep) (T9.keeps F9.keep) (by (show _ + 1 < 500); omega) (by assumption) (by assumption) ?_); (intro r9 t9 h9 tk9 hk9 hcl9); (have F8 := frKept F9 hk9); (have N8 := newsKept N9 hk9); (clear F9 N9); (try dsimp only)))
  (k_with "call ref" => ( (with_reducible show wpAny _ _ (call (Value.ref _) [Value.str _ _, Value.int _ _]) _ _ _); (rename Fr _ _ _ _ => F9); (rename News _ _ _ _ => N9); (rename Frag.In _ _ => X9); (rename Top _ _ _ _ _ _ => T9); (rename CutOk _ _ _ _ _ _ => C9); (refine C9 _ _ _ _ _ _ _ _ (X9.keeps F9.keep) (T9.keeps F9.keep) (by (show _ + 1 < 500); omega) rfl (by assumption) (by assumption) ?_); (intro t9 h9 tk9 hk9); (have F8 := frKept F9 hk9); (have N8 := newsKept N9 hk9); (clear F9 N9); (try dsimp only)))
  obtain ⟨hdl, dp, fr, gd, unt⟩ := A
  have hh' : hdl = none := hh
  subst hh'
  have hA' : dp < 400 := hA
  revert X T; k_fill; intro X T
  refine' enter X T ?k6 ?k7 ?k8 ?k9 ?kB ?_ ?c2 ?c3 ?c4 ?c5
  (case k6 => k_is); (case k7 => k_is); (case k8 => simp only [recursionLimit]; omega); (case k9 => exact BindsTo.of_eq rfl); (case c5 => decide); (case kB => exact locs rfl); (case c2 => exact rfl); (case c3 => exact rfl); (case c4 => exact rfl)
  intro L h₁ m tk₁ htk₁ hm F
  have ht : m (Str.ofString "text") = some (.str (S x) t1) := by rw [hm]; rfl
  have hc : m (Str.ofString "cut") = some (.ref f) := by rw [hm]; rfl
  clear hm
  have F := frPin2 F ht hc
  have N := @News.nil s.heap h₁ L
  have hS : (S x).length ≤ 1000 := by rw [S_length]; omega
  refine seqT (pre := [_, _]) (fun s' => ∃ l, WInv s L l f cut x t1 x.length s') ?_ ?_
  · k_steps
    refine ⟨rfl, _, 0, _, _, _, ?ti, _, _, [], x.length, rfl, rfl, (by assumption), (by assumption), rfl, rfl, rfl, ?h1, .nil, ?h2, Nat.le_refl _, Nat.le_refl _, by omega⟩
    case h1 => exact rfl
    case h2 => simp [wordsF]
  · clear F N ht hc
    rintro s' ⟨l, hI⟩ hs'
    replace hs' : s.toks ≤ s'.toks := Nat.le_trans htk₁ hs'
    refine seq1 (fun s' => WInv s L l f cut x t1 0 s') ?_ ?_
    · refine whileT (WInv s L l f cut x t1) ?_ x.length hI
      clear hI
      rintro n s₀ ⟨i, m, vs, ne, ti, h', tk, ws, k, hn, rfl, F, N, ht, hc, hw, hi, hvs, hws, hk, hvl, hil⟩ hs₀
      replace hs₀ : 0 < tk := Nat.lt_of_lt_of_le hpos (Nat.le_trans hs' hs₀)
      clear hs'
      have F := frPin4 F ht hc hw hi
      by_cases hlt : i < x.length
      · refine condF true ?_ fun h₂ tk₂ htk₂ hk₂ => ?_
        · have hlt' : (i : Int) < (S x).length := by rw [S_length]; omega
          k_steps
          exact ⟨decide_eq_true hlt', _, _, rfl, fun _ _ e => e⟩
        · rw [if_pos rfl]
          replace hs₀ : 0 < tk₂ := Nat.lt_of_lt_of_le hs₀ htk₂
          replace F := frKept F hk₂
          replace N := newsKept N hk₂
          clear hk₂ hi hc hw ht htk₂
          refine seq1 (fun s₃ => ∃ m, m < n ∧ WInv s L l f cut x t1 m s₃) ?_ (fun s' hI => wpAny_execs_nil ⟨.inl rfl, hI⟩)
          have hcc : x[i]? = some x[i] := List.getElem?_eq_getElem hlt
          have hdd : x.drop i = x[i] :: x.drop (i + 1) := List.drop_eq_getElem_cons hlt
          generalize x[i] = c at hcc hdd
          refine wpAny_If (condF (decide (c = 34)) ?_ fun h₃ tk₃ htk₃ hk₃ => ?_)
          · have hlt' : (i : Int) < (S x).length := by rw [S_length]; omega
            have hlt2 : (i : Int) < 1000 := by omega
            k_steps
            refine ⟨?_, _, _, rfl, fun _ _ e => e⟩
            rw [item_S x i c hcc, k_34, one_eq]
          · replace hs₀ : 0 < tk₃ := Nat.lt_of_lt_of_le hs₀ htk₃
            replace F := frKept F hk₃
            replace N := newsKept N hk₃
            clear hk₃ htk₃
            by_cases h34 : c = 34
            · rw [if_pos (decide_eq_true h34)]
              subst h34
              refine seq1T (fun s' => ∃ m r tr ti h' tk, s' = { s with heap := h', toks := tk } ∧ Fr s.heap L h' m ∧ News s.heap L h' [(l, listOf vs ne)] ∧ m (Str.ofString "text") = some (.str (S x) t1) ∧ m (Str.ofString "cut") = some (.ref f) ∧
                m (Str.ofString "words") = some (.ref l) ∧ m (Str.ofString "i") = some (.int i ti) ∧ m (Str.ofString "j") = some (.int (r : Nat) tr) ∧ ClosedAt x i r) ?_ ?_
              · k_steps
                refine ⟨rfl, _, _, ?tr, ?ti1, _, _, rfl, (by assumption), (by assumption), rfl, rfl, rfl, ?h3, ?h4, (by assumption)⟩
                case h3 => exact rfl
                case h4 => exact rfl
              · clear F N
                rintro s₁ ⟨m, r, tr, ti, h', tk, rfl, F, N, ht, hc, hw, hi, hj, hcls⟩ hs₁
                replace hs₁ : 0 < tk := Nat.lt_of_lt_of_le hs₀ hs₁
                clear hs₀
                have F := frPin5 F ht hc hw hi hj
                have hr : (r : Int) ≤ (S x).length := by rw [S_length]; have := hcls.2.1; omega
                refine seq1T (fun s' => ∃ m D ys h' tk, s' = { s with heap := h', toks := tk } ∧ Fr s.heap L h' m ∧ News s.heap L h' [(l, listOf vs ne)] ∧ m (Str.ofString "text") = some (.str (S x) t1) ∧ m (Str.ofString "cut") = some (.ref f) ∧
                  m (Str.ofString "words") = some (.ref l) ∧ m (Str.ofString "j") = some (.int (r : Nat) tr) ∧ m (Str.ofString "inside") = some (.ref D) ∧ h'.IsList D ys ∧
                  TextsAre ys.toList ((Txt.split (S ((x.drop (i + 1)).take (r - (i + 1)))) (S [92, 92])).map fun p => Txt.replace p (S [92]) (S []))) ?_ ?_
                · refine compAssign (fun _ v y => ∀ z, IsText v z → IsText y (Txt.replace z (S [92]) (S []))) (fun _ => true) rfl rfl (by decide) (by decide) rfl (by decide) rfl rfl (valF (fun v s₂ => ∃ a lst h' tk m, v = .ref a ∧ s₂ = { s with heap := h', toks := tk } ∧
                    h'.IsList a (strValues lst).toArray ∧ lst.map (·.1) = Txt.split (S ((x.drop (i + 1)).take (r - (i + 1)))) (S [92, 92]) ∧ (∀ a ∈ lst.map (·.1), a.length ≤ (S ((x.drop (i + 1)).take (r - (i + 1)))).length) ∧ Fr s.heap L h' m ∧ News s.heap L h' [(l, listOf vs ne)] ∧ m (Str.ofString "text") = some (.str (S x) t1) ∧ m (Str.ofString "cut") = some (.ref f) ∧ m (Str.ofString "words") = some (.ref l) ∧ m (Str.ofString "j") = some (.int (r : Nat) tr)) ?_ ?_)
                  · have e1 : Txt.slice (S x) (some ((i : Int) + 1)) (some (r : Int)) = S ((x.drop (i + 1)).take (r - (i + 1))) := by
                      rw [show ((i : Int) + 1) = ((i + 1 : Nat) : Int) from by omega, slice_S]
                    k_steps
                    rw [e1, k_9292] at *
                    refine ⟨_, _, _, _, _, rfl, rfl, (by assumption), (by assumption), (by assumption), (by assumption), (newsTail (by assumption)), rfl, rfl, rfl, rfl⟩
                  · clear F N ht hc hw hi hj
                    rintro v s₂ ⟨a, lst, h', tk, m, rfl, rfl, hla, hlst, hlen, F, N, ht, hc, hw, hj⟩ hs₂
                    replace hs₂ : 0 < tk := Nat.lt_of_lt_of_le hs₁ hs₂
                    have hzl : (S ((x.drop (i + 1)).take (r - (i + 1)))).length ≤ 1000 := by rw [S_length]; simp; omega
                    have hcount : lst.length ≤ 1002 := by
                      have e := congrArg List.length hlst
                      rw [List.length_map] at e
                      have := split_count (S ((x.drop (i + 1)).take (r - (i + 1)))) (S [92, 92])
                      omega
                    refine ⟨a, (strValues lst).toArray, s.heap, m, rfl, hla, by rw [sizeLine_eq]; simp [strValues]; omega, F, turnName rfl rfl ?_, ?_⟩
                    · rintro C v s₃ m₃ hv hC hn hm hk₃ ⟨h₃, tk₃, rfl, htk₃⟩
                      have hv' : v ∈ strValues lst := by simpa using hv
                      obtain ⟨p, hp, rfl⟩ := List.mem_map.mp hv'
                      have hpl : p.1.length ≤ 1000 := Nat.le_trans (hlen p.1 (List.mem_map_of_mem hp)) hzl
                      have hs₃ : 0 < tk₃ := Nat.lt_of_lt_of_le hs₂ htk₃
                      k_steps
                      refine SC.replaceW (Nat.ne_of_gt hs₃) (Nat.succ_ne_zero _) (Nat.ne_of_lt (Nat.lt_succ_self _)) (by decide +kernel) (by omega) (by decide +kernel) ?_
                      intro t' k'
                      refine ⟨_, _, rfl, fun _ _ e => e, fun _ _ z hz => ?_⟩
                      obtain ⟨tz, ez⟩ := hz
                      have : p.1 = z := by injection ez
                      rw [k_92, k_nil, this]
                      exact ⟨_, rfl⟩
                    · intro D h₃ tk₃ ys hD F₃ hk₃ hP
                      have hP' := hP h₃ fun _ _ _ e => e
                      refine ⟨rfl, _, D, ys, h₃, tk₃, rfl, F₃, fun p hp => ⟨hk₃ _ _ (N p hp).2.1 (N p hp).1, (N p hp).2⟩, ht, hc, hw, hj, rfl, hP'.1, ?_⟩
                      have h4 := hP'.2
                      rw [List.filter_eq_self.mpr (fun _ _ => rfl)] at h4
                      rw [← hlst]
                      exact Paired.map (G := IsText) (f := fun p => Txt.replace p (S [92]) (S [])) (fun _ _ h => h) (Paired.comp (H := fun y z => IsText y (Txt.replace z (S [92]) (S []))) (fun _ _ z h1 h2 => h1 z h2) h4 (textsAre_values lst))
                · clear F N ht hc hw hi hj
                  rintro s₂ ⟨m, D, ys, h', tk, rfl, F, N, ht, hc, hw, hj, hin, hlD, hys⟩ hs₂
                  have F := frPin5 F ht hc hw hj hin
                  have hun := unText_S ((x.drop (i + 1)).take (r - (i + 1)))
                  obtain ⟨lst, hl1, hl2⟩ := values_of_texts hys
                  have hlD' : h'.IsList D (strValues lst).toArray := by rw [← hl1]; exact hlD
                  have hzl : ((x.drop (i + 1)).take (r - (i + 1))).length ≤ 1000 := by simp; omega
                  generalize hzz : (x.drop (i + 1)).take (r - (i + 1)) = zz at *
                  have hjok : JoinOk (Str.ofString "\\") ((Txt.split (S zz) (S [92, 92])).map fun p => Txt.replace p (S [92]) (S [])) = true := by
                    have h1 : ∀ y ∈ (Txt.split (S zz) (S [92, 92])).map fun p => Txt.replace p (S [92]) (S []), y.length ≤ 1000 := by
                      intro y hy
                      obtain ⟨p, hp, rfl⟩ := List.mem_map.mp hy
                      have hp1 : p.length ≤ 1000 := Nat.le_trans (part_short hp) (by rw [S_length]; exact hzl)
                      rw [← S_of p, replace_S, S_length]
                      exact Nat.le_trans (List.length_filter_le _ _) (by simpa [Str.length] using hp1)
                    have h2 : ((Txt.split (S zz) (S [92, 92])).map fun p => Txt.replace p (S [92]) (S [])).length ≤ 1002 := by
                      rw [List.length_map]
                      have := split_count (S zz) (S [92, 92])
                      rw [S_length] at this
                      omega
                    unfold JoinOk
                    rw [Bool.not_eq_true']
                    refine StrLaws.joinFits h1 ?_
                    rw [k_92, S_length]
                    simp only [List.length_cons, List.length_nil]
                    omega
                  have hjn : Txt.join (Str.ofString "\\") ((Txt.split (S zz) (S [92, 92])).map fun p => Txt.replace p (S [92]) (S [])) = S (un zz) := by rw [k_92]; exact hun
                  have hjl : (Txt.join (Str.ofString "\\") ((Txt.split (S zz) (S [92, 92])).map fun p => Txt.replace p (S [92]) (S []))).length ≤ 1000 := by
                    rw [hjn, S_length]; exact Nat.le_trans (un_len _) hzl
                  refine seq1T (fun s' => ∃ m vs' ne' h' tk, s' = { s with heap := h', toks := tk } ∧ Fr s.heap L h' m ∧ News s.heap L h' [(l, listOf vs' ne')] ∧ m (Str.ofString "text") = some (.str (S x) t1) ∧ m (Str.ofString "cut") = some (.ref f) ∧
                    m (Str.ofString "words") = some (.ref l) ∧ m (Str.ofString "j") = some (.int (r : Nat) tr) ∧ StrsAre vs'.toList (ws ++ [34 :: (qscan (x.drop (i + 1))).1]) ∧ vs'.size = vs.size + 1) ?_ ?_
                  · have hcq := close_q x i r hlt hcls
                    rw [hzz] at hcq
                    have hword : Str.ofString "\"" ++ Txt.join (Str.ofString "\\") ((Txt.split (S zz) (S [92, 92])).map fun p => Txt.replace p (S [92]) (S [])) ++ Txt.slice (S x) (some (r : Int)) (some ((r : Int) + 1)) = S (34 :: (qscan (x.drop (i + 1))).1) := by
                      rw [hjn, k_34, show ((r : Int) + 1) = ((r + 1 : Nat) : Int) from by omega, slice_S, S_append, S_append, show r + 1 - r = 1 from by omega, ← hcq.1]
                      rfl
                    k_steps
                    refine ⟨rfl, _, _, _, _, _, rfl, (by assumption), (by assumption), rfl, rfl, rfl, rfl, ?_, Array.size_push _⟩
                    rw [hword]
                    exact strsAre_push hvs
                  · clear F N ht hc hw hj hin
                    rintro s₃ ⟨m, vs', ne', h', tk, rfl, F, N, ht, hc, hw, hj, hvs', hvl'⟩ hs₃
                    have F := frPin4 F ht hc hw hj
                    have hcq := close_q x i r hlt hcls
                    have hri := hcls.1
                    have hrl := hcls.2.1
                    k_steps
                    obtain ⟨k', rfl⟩ : ∃ k', k = k' + 1 := ⟨k - 1, by omega⟩
                    refine ⟨rfl, x.length - (r + 1), by omega, r + 1, _, vs', ne', ?ti5, _, _, _, k', rfl, rfl, (by assumption), (by assumption), rfl, rfl, rfl, ?h5, hvs', ?h6, by omega, by omega, by omega⟩
                    case h5 => exact rfl
                    case h6 => rw [hws, hdd, wordsGo, if_pos rfl, hcq.2, List.append_assoc]; rfl
            · rw [if_neg (by simpa using h34)]
              refine seq1 (fun s' => ∃ m vs' ne' ti h' tk, s' = { s with heap := h', toks := tk } ∧ Fr s.heap L h' m ∧ News s.heap L h' [(l, listOf vs' ne')] ∧ m (Str.ofString "text") = some (.str (S x) t1) ∧ m (Str.ofString "cut") = some (.ref f) ∧
                m (Str.ofString "words") = some (.ref l) ∧ m (Str.ofString "i") = some (.int i ti) ∧ ∃ t, vs' = vs.push (.str (S (cut (x.drop i))) t)) ?_ ?_
              · rcases hf with rfl | rfl
                · k_steps
                  refine ⟨rfl, _, _, _, ?ti7, _, _, rfl, (by assumption), (by assumption), rfl, rfl, rfl, ?h7, _, rfl⟩
                  case h7 => exact rfl
                · k_steps
                  refine ⟨rfl, _, _, _, ?ti8, _, _, rfl, (by assumption), (by assumption), rfl, rfl, rfl, ?h8, _, rfl⟩
                  case h8 => exact rfl
              · clear F N
                rintro s₁ ⟨m, vs', ne', ti, h', tk, rfl, F, N, ht, hc, hw, hi, tw, rfl⟩
                have F := frPin4 F ht hc hw hi
                have hcu := hcl c (x.drop (i + 1))
                rw [← hdd] at hcu
                have hcu1 : (S (cut (x.drop i))).length ≤ 3 := by rw [S_length]; exact hcu.2
                k_steps
                refine last_item (v := .str (S (cut (x.drop i))) tw) (News.isList (by assumption) (.head _)) (by rw [Array.size_push]; exact Nat.succ_pos _) (by simp) ?_ (by with_unfolding_all rfl)
                k_steps
                have e : ((i : Int) + ((S (cut (x.drop i))).length : Int)) = ((i + (cut (x.drop i)).length : Nat) : Int) := by rw [S_length]; omega
                obtain ⟨k', rfl⟩ : ∃ k', k = k' + 1 := ⟨k - 1, by omega⟩
                refine ⟨rfl, x.length - (i + (cut (x.drop i)).length), by omega, i + (cut (x.drop i)).length, _, _, _, ?ti9, _, _, _, k', rfl, rfl, (by assumption), (by assumption), rfl, rfl, rfl, ?h9, strsAre_push hvs, ?h10, by omega, by rw [Array.size_push]; omega, by omega⟩
                case h9 => rw [← e]; exact rfl
                case h10 =>
                  rw [hws, hdd, wordsGo, if_neg h34, ← hdd, List.drop_drop, List.append_assoc]; rfl
      · refine condF false ?_ fun h₂ tk₂ htk₂ hk₂ => ?_
        · have hlt' : ¬ (i : Int) < (S x).length := by rw [S_length]; omega
          k_steps
          exact ⟨decide_eq_false hlt', _, _, rfl, fun _ _ e => e⟩
        · rw [if_neg (by decide)]
          exact ⟨rfl, i, _, vs, ne, ti, h₂, tk₂, ws, k, by omega, rfl, frKept F hk₂, newsKept N hk₂, rfl, rfl, rfl, rfl, hvs, hws, hk, hvl, hil⟩
    · clear hI
      rintro s₀ ⟨i, m, vs, ne, ti, h', tk, ws, k, hn, rfl, F, N, ht, hc, hw, hi, hvs, hws, hk, hvl, hil⟩
      have F := frPin4 F ht hc hw hi
      k_steps
      have hdr : x.drop i = [] := List.drop_of_length_le (by omega)
      have hwn : wordsGo cut k [] = [] := by cases k <;> rfl
      rw [hdr, hwn, List.append_nil] at hws
      have hl0 := N (l, listOf vs ne) (List.mem_cons_self)
      exact hret l vs _ _ hl0.2.2 F.keep (fun h'' hN => ⟨_, hN _ _ hl0.2.2 hl0.1, rfl, _, rfl⟩) (by rw [hws]; exact hvs)
end

section
open PySem PySem.W PyProof.Rows PySem.Calls
set_option maxRecDepth 100000
set_option maxHeartbeats 8000000

/-- the table of the operators, as it stands in the text's top: signs, number -/
noncomputable def tbl : List (List Nat × Int) := [([33], 54), ([33, 61], 28), ([37], 24), ([37, 61], 40), ([38], 19), ([38, 61], 41), ([40], 7), ([41], 8), ([42], 16), ([42, 42], 35), ([42, 42, 61], 46), ([42, 61], 38), ([43], 14), ([43, 61], 36), ([44], 12), ([45], 15), ([45, 61], 37), ([45, 62], 51), ([46], 23), ([46, 46, 46], 52), ([47], 17), ([47, 47], 47), ([47, 47, 61], 48), ([47, 61], 39), ([58], 11), ([58, 61], 53), ([59], 13), ([60], 20), ([60, 60], 33), ([60, 60, 61], 44), ([60, 61], 29), ([61], 22), ([61, 61], 27), ([62], 21), ([62, 61], 30), ([62, 62], 34), ([62, 62, 61], 45), ([64], 49), ([64, 61], 50), ([91], 9), ([93], 10), ([94], 32), ([94, 61], 43), ([123], 25), ([124], 18), ([124, 61], 42), ([125], 26), ([126], 31)]
noncomputable def inTbl (l : List Nat) : Bool := tbl.any fun p => decide (l = p.1)
/-- the token at the head of ys, read by the table -/
noncomputable def cutT (ys : List Nat) : List Nat := if inTbl (ys.take 3) then ys.take 3 else if inTbl (ys.take 2) then ys.take 2 else [ys.headD 0]
theorem S_eq (a b : List Nat) : (S a = S b) ↔ a = b := ⟨S_inj, fun h => by rw [h]⟩
theorem any_S (l : List Nat) : ∀ t : List (List Nat × Int), (t.any fun p => decide (S l = S p.1)) = t.any fun p => decide (l = p.1)
  | [] => rfl
  | p :: r => by rw [List.any_cons, List.any_cons, any_S l r]; simp only [S_eq]
noncomputable abbrev tabOf (t : List (List Nat × Int)) : List (PyData × PyData) := t.map fun p => (PyData.str (S p.1), PyData.int p.2)
theorem lookup_S (l : List Nat) : ∀ t : List (List Nat × Int), Spec.lookup (PyData.str (S l)) (tabOf t) = (t.find? fun p => decide (l = p.1)).map fun p => PyData.int p.2
  | [] => rfl
  | p :: r => by
    show (if Spec.same (PyData.str (S p.1)) (PyData.str (S l)) then some (PyData.int p.2) else Spec.lookup (PyData.str (S l)) (tabOf r)) = _
    rw [List.find?_cons, lookup_S l r]
    by_cases h : l = p.1
    · subst h
      simp [Spec.same]
    · have h' : p.1 ≠ l := fun e => h e.symm
      simp [Spec.same, h, S_eq, h']
theorem lookup_some (l : List Nat) (t : List (List Nat × Int)) : (Spec.lookup (PyData.str (S l)) (tabOf t)).isSome = t.any fun p => decide (l = p.1) := by
  rw [lookup_S, Option.isSome_map, Bool.eq_iff_iff, List.find?_isSome, List.any_eq_true]

theorem c_longest {w : World} {mean : ExcName → Option Value} {mg mb : Str → Option Value} {A : Around} {s : Shared} {x : List Nat} {i : Nat} {t1 t2 : Tok} {Q E : Value → Shared → Prop}
   (X : (hd.heap_39 w.params).In s.heap) (T : TopAt mean mg mb s.heap) (hA : A.depth < 500) (hh : A.handled = none) (hx : x.length ≤ 1000) (hi : i < x.length)
   (hret : ∀ t h' tk, Kept s.heap h' → Q (.str (S (cutT (x.drop i))) t) { s with heap := h', toks := tk }) : wpAny (model PySem.Challenge.rw_mj0149_01.row.prog w) A (call (.ref 48) [.str (S x) t1, .int i t2]) Q E s := by
  k_with_none
  obtain ⟨hdl, dp, fr, gd, un⟩ := A
  have hh' : hdl = none := hh
  subst hh'
  revert X T; k_fill; intro X T
  refine' enter X T ?k6 ?k7 ?k8 ?k9 ?kB ?_ ?c2 ?c3 ?c4 ?c5
  (case k6 => k_is); (case k7 => k_is); (case k8 => have hA' : dp < 500 := hA; simp only [recursionLimit]; omega); (case k9 => exact BindsTo.of_eq rfl); (case c5 => decide); (case kB => exact locs rfl); (case c2 => exact rfl); (case c3 => exact rfl); (case c4 => exact rfl)
  intro L h₁ m tk₁ htk₁ hm F
  have ht : m (Str.ofString "text") = some (.str (S x) t1) := by rw [hm]; rfl
  have hi' : m (Str.ofString "i") = some (.int i t2) := by rw [hm]; rfl
  clear hm
  have F := frPin2 F ht hi'
  have N := @News.nil s.heap h₁ L
  have hS : (S x).length ≤ 1000 := by rw [S_length]; omega
  have hS2 : (i : Int) < (S x).length := by rw [S_length]; omega
  have hS3 : (i : Int) < 1000 := by omega
  have e3 : ((i : Int) + 3) = ((i + 3 : Nat) : Int) := by omega
  have e2 : ((i : Int) + 2) = ((i + 2 : Nat) : Int) := by omega
  have g1 : Txt.slice (S x) (some (i : Int)) (some ((i : Int) + 3)) = S ((x.drop i).take 3) := by rw [e3, slice_S]; congr 2; omega
  have g2 : Txt.slice (S x) (some (i : Int)) (some ((i : Int) + 2)) = S ((x.drop i).take 2) := by rw [e2, slice_S]; congr 2; omega
  have hc : x[i]? = some x[i] := List.getElem?_eq_getElem hi
  have hd : x.drop i = x[i] :: x.drop (i + 1) := List.drop_eq_getElem_cons hi
  have hret' : ∀ z t h' tk, Kept s.heap h' → S (cutT (x.drop i)) = z → Q (.str z t) { s with heap := h', toks := tk } := by
    rintro z t h' tk hk rfl
    exact hret t h' tk hk
  k_steps
  · have a1 : (tbl.any fun p => decide (Txt.slice (S x) (some (i : Int)) (some ((i : Int) + 3)) = S p.1)) = true := by assumption
    rw [g1, any_S] at a1
    refine hret' _ _ _ _ (Fr.keep (by assumption)) ?_
    rw [g1]
    unfold cutT
    rw [if_pos (show inTbl _ = true from a1)]
  · have a1 : (tbl.any fun p => decide (Txt.slice (S x) (some (i : Int)) (some ((i : Int) + 3)) = S p.1)) = false := by assumption
    have a2 : (Spec.lookup (PyData.str (Txt.slice (S x) (some (i : Int)) (some ((i : Int) + 2)))) (tabOf tbl)).isSome = true := by assumption
    rw [g1, any_S] at a1
    rw [g2, lookup_some] at a2
    refine hret' _ _ _ _ (Fr.keep (by assumption)) ?_
    rw [g2]
    unfold cutT
    rw [if_neg (show ¬ inTbl _ = true from by unfold inTbl; rw [a1]; decide), if_pos (show inTbl _ = true from a2)]
  · have a1 : (tbl.any fun p => decide (Txt.slice (S x) (some (i : Int)) (some ((i : Int) + 3)) = S p.1)) = false := by assumption
    have a2 : (Spec.lookup (PyData.str (Txt.slice (S x) (some (i : Int)) (some ((i : Int) + 2)))) (tabOf tbl)).isSome = false := by assumption
    rw [g1, any_S] at a1
    rw [g2, lookup_some] at a2
    dsimp only
    refine hret' _ _ _ _ (Fr.keep (by assumption)) ?_
    rw [item_S x i _ hc]
    unfold cutT
    rw [if_neg (show ¬ inTbl _ = true from by unfold inTbl; rw [a1]; decide), if_neg (show ¬ inTbl _ = true from by unfold inTbl; rw [a2]; decide), hd]
    rfl
end

section
open PySem PySem.W PyProof.Rows PySem.Calls
set_option maxRecDepth 100000
set_option maxHeartbeats 8000000

/-- the token at the head of ys, read by shape -/
noncomputable def cutS (ys : List Nat) : List Nat :=
  let c := ys.headD 0
  if ys.take 3 = [46, 46, 46] then [46, 46, 46] else
  if ys.take 2 = [45, 62] then [45, 62] else
  let w := if c ∈ [42, 47, 60, 62] ∧ (ys.drop 1).take 1 = [c] then [c, c] else [c]
  if c ∈ [33, 37, 38, 42, 43, 45, 47, 58, 60, 61, 62, 64, 94, 124] ∧ (ys.drop w.length).take 1 = [61] then w ++ [61] else w

noncomputable def shapeT (x : Str) (i : Int) : Str :=
  if (Txt.slice x (some i) (some (i + 3)) == Str.ofString "...") = true then Str.ofString "..." else
  if (Txt.slice x (some i) (some (i + 2)) == Str.ofString "->") = true then Str.ofString "->" else
  if (Builtin.Str.occurrences (Str.ofString "*/<>") (Txt.item x i) 0 (Str.ofString "*/<>").length 1).isEmpty = false ∧ (Txt.slice x (some (i + 1)) (some (i + 2)) == Txt.item x i) = true then
    if (Builtin.Str.occurrences (Str.ofString "!%&*+-/:<=>@^|") (Txt.item x i) 0 (Str.ofString "!%&*+-/:<=>@^|").length 1).isEmpty = false ∧
      (Txt.slice x (some (i + (Txt.item x i ++ Txt.item x i).length)) (some (i + (Txt.item x i ++ Txt.item x i).length + 1)) == Str.ofString "=") = true then Txt.item x i ++ Txt.item x i ++ Str.ofString "=" else Txt.item x i ++ Txt.item x i
  else
    if (Builtin.Str.occurrences (Str.ofString "!%&*+-/:<=>@^|") (Txt.item x i) 0 (Str.ofString "!%&*+-/:<=>@^|").length 1).isEmpty = false ∧
      (Txt.slice x (some (i + (Txt.item x i).length)) (some (i + (Txt.item x i).length + 1)) == Str.ofString "=") = true then Txt.item x i ++ Str.ofString "=" else Txt.item x i

theorem shapeT_S (x : List Nat) (i : Nat) (hi : i < x.length) : shapeT (S x) (i : Int) = S (cutS (x.drop i)) := by
  have k1 : Str.ofString "..." = S [46, 46, 46] := by decide +kernel
  have k2 : Str.ofString "->" = S [45, 62] := by decide +kernel
  have k3 : Str.ofString "*/<>" = S [42, 47, 60, 62] := by decide +kernel
  have k4 : Str.ofString "!%&*+-/:<=>@^|" = S [33, 37, 38, 42, 43, 45, 47, 58, 60, 61, 62, 64, 94, 124] := by decide +kernel
  have k5 : Str.ofString "=" = S [61] := by decide +kernel
  have hc : x[i]? = some x[i] := List.getElem?_eq_getElem hi
  have hd : x.drop i = x[i] :: x.drop (i + 1) := List.drop_eq_getElem_cons hi
  unfold shapeT cutS
  rw [k1, k2, k3, k4, k5, item_S x i _ hc]
  generalize hcc : x[i] = c at *
  have e3 : ((i : Int) + 3) = ((i + 3 : Nat) : Int) := by omega
  have e2 : ((i : Int) + 2) = ((i + 2 : Nat) : Int) := by omega
  have e1 : ((i : Int) + 1) = ((i + 1 : Nat) : Int) := by omega
  rw [S_append, S_append, S_append, e3, e2, e1]
  have f1 : ((i : Int) + ((S [c]).length : Int)) = ((i + 1 : Nat) : Int) := by rw [S_length]; simp
  have f2 : ((i : Int) + ((S ([c] ++ [c])).length : Int)) = ((i + 2 : Nat) : Int) := by rw [S_length]; simp
  rw [f1, f2]
  have e4 : (((i + 1 : Nat) : Int) + 1) = ((i + 2 : Nat) : Int) := by omega
  have e5 : (((i + 2 : Nat) : Int) + 1) = ((i + 3 : Nat) : Int) := by omega
  rw [e4, e5]
  simp only [slice_S, S_beq, occ_one, hd, List.headD_cons]
  have g1 : i + 3 - i = 3 := by omega
  have g2 : i + 2 - i = 2 := by omega
  have g3 : i + 2 - (i + 1) = 1 := by omega
  have g4 : i + 3 - (i + 2) = 1 := by omega
  rw [g1, g2, g3, g4]
  have g5 : x.drop (i + 2) = (c :: x.drop (i + 1)).drop 2 := by simp
  have g6 : (c :: x.drop (i + 1)).drop 1 = x.drop (i + 1) := rfl
  rw [g5, g6]
  by_cases q1 : (c :: x.drop (i + 1)).take 3 = [46, 46, 46]
  · rw [if_pos q1, if_pos q1]
  · rw [if_neg q1, if_neg q1]
    by_cases q2 : (c :: x.drop (i + 1)).take 2 = [45, 62]
    · rw [if_pos q2, if_pos q2]
    · rw [if_neg q2, if_neg q2]
      by_cases q3 : c ∈ [42, 47, 60, 62] ∧ (x.drop (i + 1)).take 1 = [c]
      · rw [if_pos q3, if_pos q3]
        by_cases q4 : c ∈ [33, 37, 38, 42, 43, 45, 47, 58, 60, 61, 62, 64, 94, 124] ∧ ((c :: x.drop (i + 1)).drop 2).take 1 = [61]
        · rw [if_pos q4]; exact (congrArg S (if_pos q4)).symm
        · rw [if_neg q4]; exact (congrArg S (if_neg q4)).symm
      · rw [if_neg q3, if_neg q3]
        by_cases q4 : c ∈ [33, 37, 38, 42, 43, 45, 47, 58, 60, 61, 62, 64, 94, 124] ∧ (x.drop (i + 1)).take 1 = [61]
        · rw [if_pos q4]; exact (congrArg S (if_pos q4)).symm
        · rw [if_neg q4]; exact (congrArg S (if_neg q4)).symm

theorem c_shape {w : World} {mean : ExcName → Option Value} {mg mb : Str → Option Value} {A : Around} {s : Shared} {x : List Nat} {i : Nat} {t1 t2 : Tok} {Q E : Value → Shared → Prop}
   (X : (hd.heap_39 w.params).In s.heap) (T : TopAt mean mg mb s.heap) (hA : A.depth < 500) (hx : x.length ≤ 1000) (hi : i < x.length)
   (hret : ∀ t h' tk, Kept s.heap h' → Q (.str (S (cutS (x.drop i))) t) { s with heap := h', toks := tk }) : wpAny (model PySem.Challenge.rw_mj0149_01.row.prog w) A (call (.ref 55) [.str (S x) t1, .int i t2]) Q E s := by
  k_with_none
  revert X T; k_fill; intro X T
  refine' enter X T ?k6 ?k7 ?k8 ?k9 ?kB ?_ ?c2 ?c3 ?c4 ?c5
  (case k6 => k_is); (case k7 => k_is); (case k8 => simp only [recursionLimit]; omega); (case k9 => exact BindsTo.of_eq rfl); (case c5 => decide); (case kB => exact locs rfl); (case c2 => exact rfl); (case c3 => exact rfl); (case c4 => exact rfl)
  intro L h₁ m tk₁ htk₁ hm F
  have ht : m (Str.ofString "text") = some (.str (S x) t1) := by rw [hm]; rfl
  have hi' : m (Str.ofString "i") = some (.int i t2) := by rw [hm]; rfl
  clear hm
  have F := frPin2 F ht hi'
  have N := @News.nil s.heap h₁ L
  have hS : (S x).length ≤ 1000 := by rw [S_length]; omega
  have hS2 : (i : Int) < (S x).length := by rw [S_length]; omega
  have hS3 : (i : Int) < 1000 := by omega
  have hret' : ∀ z t h' tk, Kept s.heap h' → shapeT (S x) i = z → Q (.str z t) { s with heap := h', toks := tk } := by
    rintro z t h' tk hk rfl
    rw [shapeT_S x i hi]
    exact hret t h' tk hk
  k_steps
  all_goals (try dsimp only)
  all_goals (refine hret' _ _ _ _ (Fr.keep (by assumption)) ?_)
  all_goals (simp only [shapeT, *, if_true, if_false, and_self, and_true, true_and, and_false, false_and, Bool.true_eq_false, Bool.false_eq_true])
end

section
open PySem PySem.W PyProof.Rows PySem.Calls
set_option maxRecDepth 100000
set_option maxHeartbeats 8000000

theorem ldCG {w : World} {prog : Program} {A : Around} {E : Value → Shared → Prop} {s : Shared} {K : Frag} {p : Program} {loose : List Str} {mean : ExcName → Option Value} {mg mb : Str → Option Value} {sc : Scope} {C : Addr} {env : Env} {x : Str} {pos : Pos} {v : Value} {Q : Value → Shared → Prop}
    (X : K.In s.heap) (T : Top p loose mean mg mb s.heap) (e : nsIn K mainGlobals x = some (some v)) (h : Q v s)
    (hk : sc.kind = .function) (hx : (compEnv sc C env).kindOf x = some .globalImplicit) (hg : env.globals = mainGlobals) (hd : (x == ("__debug__" : Str)) = false) :
    wpAny (model prog w) A (eval (.Name x pos) (compEnv sc C env)) Q E s := by
  have G : s.heap.Ns (compEnv sc C env).globals mg := by show s.heap.Ns env.globals mg; rw [hg]; exact T.g
  exact Name_function_global (env := compEnv sc C env) hk hx (loadGlobal_global (env := compEnv sc C env) G (mg_of X T.g e) h) hd

/-- a pair of a number and a text -/
def PairAt (h : Heap) (v : Value) (q : Int × List Nat) : Prop := ∃ a ti ts, v = .ref a ∧ h.IsTuple a #[.int q.1 ti, .str (S q.2) ts]
theorem PairAt.keep {h h' : Heap} {v : Value} {q : Int × List Nat} (x : PairAt h v q) (k : Kept h h') : PairAt h' v q := by
  obtain ⟨a, ti, ts, e, o, ho, r⟩ := x
  exact ⟨a, ti, ts, e, o, k _ _ ho, r⟩

noncomputable def tnum (l : List Nat) : Int := match tbl.find? (fun p => decide (l = p.1)) with | some p => p.2 | none => -1
noncomputable def byT (x : List Nat) : List (Int × List Nat) := (wordsF cutT x).map fun l => (tnum l, l)

noncomputable abbrev datOf (t : List (List Nat × Int)) : List (Str × KTD.Dat) := t.map fun p => (S p.1, KTD.Dat.flat (PyData.int p.2))
theorem datum_S (l : List Nat) : ∀ t : List (List Nat × Int), KTD.datumAt (S l) (datOf t) = (t.find? fun p => decide (l = p.1)).map fun p => KTD.Dat.flat (PyData.int p.2)
  | [] => rfl
  | p :: r => by
    show (if decide (S l = S p.1) = true then some (KTD.Dat.flat (PyData.int p.2)) else KTD.datumAt (S l) (datOf r)) = _
    rw [List.find?_cons, datum_S l r]
    by_cases h : l = p.1
    · subst h; simp
    · simp [h, S_eq]
theorem textTab20 {w : World} {h : Heap} (X : (hd.heap_39 w.params).In h) : KTD.TextTab h 20 (datOf tbl) :=
  KTD.tab_of_look (L := KTD.datLooks fun a => List.lookup a (hd.heap_39 w.params)) (R := KTD.Dat.At h) (get := fun a => List.lookup a (hd.heap_39 w.params)) (fun d v q => KTD.dat_of_looks X d v q) X (by kernel_rfl)

theorem get20 {w : World} {prog : Program} {A : Around} {E : Value → Shared → Prop} {s : Shared} {l : List Nat} {t t' : Tok} {Q : Value → Shared → Prop}
    (X : (hd.heap_39 w.params).In s.heap) (h : ∀ tk, Q (.int (tnum l) tk) { s with toks := s.toks + 1 }) : wpAny (model prog w) A (call (.builtin "dict.get") [.ref 20, .str (S l) t, .int (-1) t']) Q E s := by
  have T : KTD.Here s.heap s.heap 20 (datOf tbl) := ⟨textTab20 X, fun _ _ e => e⟩
  refine call_meetsIn PySem.F.slot_dict_get T.typeIs PySem.F.entry_dict_get (PySem.F.args_dict_get_3 _ _ _) (KTD.meets_get2 (h₀ := s.heap) (D := datOf tbl)) ⟨T, fun d v ha hv => ?_, fun hn => ?_⟩
  · rw [datum_S] at ha
    unfold tnum at h
    cases hf : tbl.find? (fun p => decide (l = p.1)) with
    | none => rw [hf] at ha; cases ha
    | some p =>
      rw [hf] at ha h
      cases ha
      have hv' : PyProof.V.Flat v (.int p.2) := hv
      obtain ⟨t, rfl⟩ := hv'.int_inv
      exact h t
  · rw [datum_S] at hn
    unfold tnum at h
    cases hf : tbl.find? (fun p => decide (l = p.1)) with
    | none => rw [hf] at h; exact h t'
    | some p => rw [hf] at hn; cases hn

theorem cutT_len (c : Nat) (r : List Nat) : 1 ≤ (cutT (c :: r)).length ∧ (cutT (c :: r)).length ≤ 3 := by
  unfold cutT
  (repeat' split) <;> simp <;> omega
theorem cutS_len (c : Nat) (r : List Nat) : 1 ≤ (cutS (c :: r)).length ∧ (cutS (c :: r)).length ≤ 3 := by
  unfold cutS
  dsimp only
  (repeat' split) <;> simp
theorem cutOkT (w : World) (mean : ExcName → Option Value) (mg mb : Str → Option Value) : CutOk w mean mg mb 48 cutT :=
  fun _ _ _ _ _ _ _ _ X T hA hh hx hi hret => c_longest X T hA hh hx hi hret
theorem cutOkS (w : World) (mean : ExcName → Option Value) (mg mb : Str → Option Value) : CutOk w mean mg mb 55 cutS :=
  fun _ _ _ _ _ _ _ _ X T hA _ hx hi hret => c_shape X T hA hx hi hret

theorem words_len (cut : List Nat → List Nat) (hc : ∀ c r, 1 ≤ (cut (c :: r)).length ∧ (cut (c :: r)).length ≤ 3) : ∀ (n : Nat) (x : List Nat), (wordsGo cut n x).length ≤ n ∧ ∀ q ∈ wordsGo cut n x, q.length ≤ x.length + 3
  | 0, x => by simp [wordsGo]
  | n + 1, [] => by simp [wordsGo]
  | n + 1, c :: r => by
    unfold wordsGo
    split
    · have ih := words_len cut hc n (qscan r).2
      have hq := qscan_len r
      refine ⟨by simp; exact ih.1, fun q hq' => ?_⟩
      rcases List.mem_cons.mp hq' with rfl | hq'
      · simp; omega
      · have := ih.2 q hq'; simp; omega
    · have ih := words_len cut hc n ((c :: r).drop (cut (c :: r)).length)
      refine ⟨by simp; exact ih.1, fun q hq' => ?_⟩
      rcases List.mem_cons.mp hq' with rfl | hq'
      · have := (hc c r).2; simp; omega
      · have := ih.2 q hq'; rw [List.length_drop] at this; omega



theorem sizeNone (h : Heap) : h.get? h.objs.size = none := by
  cases e : h.get? h.objs.size with
  | none => rfl
  | some o => exact absurd (Heap.lt_size e) (Nat.lt_irrefl _)
/-- a new pair -/
theorem pairNew {h h' : Heap} {n : Int} {l : List Nat} {ti ts : Tok} (hN : NewIn h (h.push { cls := .type "tuple", data := .seq [Value.int n ti, Value.str (S l) ts].toArray }) h') : PairAt h' (.ref h.objs.size) (n, l) :=
  ⟨_, ti, ts, rfl, _, hN _ _ (sizeNone h) (Heap.get?_push_size _ rfl), rfl, _, rfl⟩

theorem c_table {w : World} {mean : ExcName → Option Value} {mg mb : Str → Option Value} {A : Around} {s : Shared} {x : List Nat} {t1 : Tok} {Q E : Value → Shared → Prop}
   (X : (hd.heap_39 w.params).In s.heap) (T : TopAt mean mg mb s.heap) (hA : A.depth < 390) (hh : A.handled = none) (hx : x.length ≤ 1000) (hpos : 0 < s.toks)
   (hret : ∀ a vs h' tk, s.heap.get? a = none → Kept s.heap h' → (∀ h'', NewIn s.heap h' h'' → h''.IsList a vs ∧ Paired (PairAt h'') vs.toList (byT x)) → Q (.ref a) { s with heap := h', toks := tk }) :
   wpAny (model PySem.Challenge.rw_mj0149_01.row.prog w) A (call (.ref 60) [.str (S x) t1]) Q E s := by
  k_with_none
  (k_with "eval Name" => ((with_reducible show wpAny _ _ (eval (PySem.Expr.Name _ _) (compEnv _ _ _)) _ _ _); first | (refine ldC (by assumption) (by assumption) ?_; done) | (refine ldC (by assumption) (by assumption) ?_) | (refine ldCG (by assumption) (by assumption) (by k_is) ?_ rfl rfl rfl (by decide))))
  (k_with "call ref" => ( (with_reducible show wpAny _ _ (call (Value.ref 41) _) _ _ _); (rename Fr _ _ _ _ => F9); (rename Frag.In _ _ => X9); (rename Top _ _ _ _ _ _ => T9); (refine c_words (X9.keeps F9.keep) (T9.keeps F9.keep) (by (show _ + 1 < 400); omega) rfl (by assumption) (Or.inl rfl) (cutOkT _ _ _ _) cutT_len (by (first | assumption | omega)) ?_); (intro a9 vs9 h9 tk9 ha9 hk9 hl9 hw9); (have F8 := frKept F9 hk9); (clear F9); (try dsimp only)))
  (k_with "call builtin:dict.get" => (refine get20 (by assumption) ?_; intro _))
  obtain ⟨hdl, dp, fr, gd, unt⟩ := A
  have hh' : hdl = none := hh
  subst hh'
  have hA' : dp < 390 := hA
  revert X T; k_fill; intro X T
  refine' enter X T ?k6 ?k7 ?k8 ?k9 ?kB ?_ ?c2 ?c3 ?c4 ?c5
  (case k6 => k_is); (case k7 => k_is); (case k8 => simp only [recursionLimit]; omega); (case k9 => exact BindsTo.of_eq rfl); (case c5 => decide); (case kB => exact locs rfl); (case c2 => exact rfl); (case c3 => exact rfl); (case c4 => exact rfl)
  intro L h₁ m tk₁ htk₁ hm F
  have ht : m (Str.ofString "text") = some (.str (S x) t1) := by rw [hm]; rfl
  clear hm
  have F := frPin F ht
  have N := @News.nil s.heap h₁ L
  have hp₁ : 0 < tk₁ := Nat.lt_of_lt_of_le hpos htk₁
  refine wpAny_execs_cons (wpAny_Return_some (compEval (fun h v y => ∀ l, IsStr v l → PairAt h y (tnum l, l)) (fun _ => true) rfl (by decide) (by decide) rfl (by decide)
    (valF (fun v s₂ => ∃ a vs h' tk, v = .ref a ∧ s₂ = { s with heap := h', toks := tk } ∧ Kept s.heap h' ∧ h'.IsList a vs ∧ StrsAre vs.toList (wordsF cutT x)) ?_ ?_)))
  · k_steps
    skip
    exact ⟨_, _, _, _, rfl, rfl, Fr.keep (by assumption), hl9 _ (fun _ _ _ e => e), hw9⟩
  · rintro v s₂ ⟨a, vs, h', tk, rfl, rfl, hk, hla, hvs⟩ hs₂
    have X' := X.keeps hk
    have T' := T.keeps hk
    have hwl := words_len cutT cutT_len x.length x
    have hvl := strsAre_size hvs
    refine ⟨a, vs, rfl, hla, ?_, turnName rfl rfl ?_, ?_⟩
    · rw [sizeLine_eq, hvl]; have := hwl.1; unfold wordsF; omega
    · rintro C v s₃ m₃ hv hC hn hm hk₃ ⟨h₃, tk₃, rfl, htk₃⟩
      have X₃ := X'.keeps hk₃
      have T₃ := T'.keeps hk₃
      obtain ⟨q, hq, tq, rfl⟩ := Paired.mem hvs v (by simpa using hv)
      clear X T X' T' F N
      k_steps
      refine wpAny_newObj_type (T := "tuple") ?_ (by size_fits)
      refine ⟨_, _, rfl, fun b o e => Heap.get?_push_of_some _ e, fun h' hN l hl => ?_⟩
      obtain ⟨t', e⟩ := hl
      have hql : q = l := S_inj (by injection e)
      rw [← hql]
      exact pairNew hN
    · intro D h₃ tk₃ ys hD hk₃ hP
      refine hret D ys h₃ tk₃ (keptNone hk hD) (fun b o e => hk₃ b o (hk b o e)) fun h'' hN => ?_
      have h4 := hP h'' (newInKept hk hN)
      refine ⟨h4.1, ?_⟩
      have h5 := h4.2
      rw [List.filter_eq_self.mpr (fun _ _ => rfl)] at h5
      exact Paired.map (G := PairAt h'') (f := fun l => (tnum l, l)) (fun _ _ h => h) (Paired.comp (H := fun y l => PairAt h'' y (tnum l, l)) (fun _ _ l h1 h2 => h1 l h2) h5 hvs)
end

section
open PySem PySem.W PyProof.Rows PySem.Calls
set_option maxRecDepth 100000
set_option maxHeartbeats 8000000

theorem enterC {prog : Program} {w : World} {A : Around} {s : Shared} {K : Frag} {p : Program} {loose : List Str} {mean : ExcName → Option Value} {mg mb : Str → Option Value}
    {name qual : Str} {params : Arguments} {body : List Stmt} {scope : Scope} {dV kV doc pm cdv ct oc : Value} {an od : Option Addr} {osl : Array (Option Value)} {f : Addr} {args : List Value} {binds : List (Str × Value)}
    {Q E : Value → Shared → Prop}
    (X : K.In s.heap) (T : Top p loose mean mg mb s.heap)
    (ho : K.lookup f = some ⟨oc, od, .func (fnOf name qual params body scope dV kV doc pm an cdv ct), osl⟩) (hcd : codeIn K cdv qual = true) (hroom : A.depth < recursionLimit)
    (hbind : BindsTo s (fnOf name qual params body scope dV kV doc pm an cdv ct) ⟨args, []⟩ binds)
    (hkind : (binds.all fun y => scope.names.lookup y.1 == some .local || scope.names.lookup y.1 == some .cell) = true)
    (h : ∀ L h₁ m tk, s.toks ≤ tk → m = bindL (envOfC qual scope L f cdv).kindOf binds (fun _ => none) → Fr s.heap L h₁ m →
      (∀ n c, (cellsFrom (L + 1) scope.names []).lookup n = some c → h₁.IsCell c (bindC (envOfC qual scope L f cdv).kindOf binds (fun _ => none) n)) → s.heap.objs.size ≤ L →
      wpAny (model prog w) (A.deeper (envOfC qual scope L f cdv)) (execs body (envOfC qual scope L f cdv))
        (fun fl s' => Q (match fl with | .ret v => v | _ => .none) s') (fun _ _ => False) { s with heap := h₁, toks := tk })
    (hco : scope.isCoroutine = false) (hgen : scope.isGenerator = false) (hk : scope.kind = .function) : wpAny (model prog w) A (call (.ref f) args) Q E s := by
  refine wpAny_call ?_
  refine codeAny_call_function (fd := fnOf name qual params body scope dV kV doc pm an cdv ct) (body := body) hroom (X _ _ ho) rfl hco hgen rfl (codeRec_of X hcd) (hbind _ _ _ _ ?_)
  refine wpAny_mono (wpAny_toks (wpAny_newFunctionEnv_cells (Q := fun env s' => env = newEnv scope s.heap.objs.size mainGlobals (cellsFrom (s.heap.objs.size + 1) scope.names []) (qual ++ ".<locals>.") (some f) cdv none builtinsNs ∧
    InCallC s env.locals (bindL env.kindOf binds fun _ => none) env.cells (bindC env.kindOf binds fun _ => none) s') hk (kindsX hkind _) fun env' he s' x => ⟨he, x⟩) (E := fun _ _ => False)) (fun env s' hq => ?_) fun _ _ e => e.1.elim
  obtain ⟨⟨rfl, x⟩, ht⟩ := hq
  refine ⟨T.nolimit.keeps x.toInCall.keep, codeAny_func ?_⟩
  obtain ⟨h₁, tk, rfl⟩ := x.toInCall.same
  exact wpAny_mono (h s.heap.objs.size h₁ _ tk ht rfl ⟨x.toInCall.ns, x.toInCall.keep, Nat.le_refl _⟩ x.cell (Nat.le_refl _)) (fun _ _ q => q) fun _ _ q => q.elim

/-- the words of the plain row of the operators, in their order -/
noncomputable def rowL : List (List Nat) := [[40], [41], [91], [93], [58], [44], [59], [43], [45], [42], [47], [124], [38], [60], [62], [61], [46], [37], [123], [125], [61, 61], [33, 61], [60, 61], [62, 61], [126], [94], [60, 60], [62, 62], [42, 42], [43, 61], [45, 61], [42, 61], [47, 61], [37, 61], [38, 61], [124, 61], [94, 61], [60, 60, 61], [62, 62, 61], [42, 42, 61], [47, 47], [47, 47, 61], [64], [64, 61], [45, 62], [46, 46, 46], [58, 61], [33]]
noncomputable def snum (l : List Nat) : Int := if l ∈ rowL then 7 + (rowL.idxOf l : Nat) else -1
noncomputable def byS (x : List Nat) : List (Int × List Nat) := (wordsF cutS x).map fun l => (snum l, l)

theorem libStrs : ∀ {vs : List Value} {ks : List (List Nat)}, StrsAre vs ks → PyProof.Rows.StrsAre vs (ks.map S)
  | _, _, .nil => .nil
  | _, _, .cons ⟨t, e⟩ r => by rw [e]; exact .cons _ t (libStrs r)
theorem strs_get : ∀ {vs : List Value} {ks : List (List Nat)}, StrsAre vs ks → ∀ (j : Nat) (h1 : j < vs.length) (h2 : j < ks.length), ∃ t, vs[j] = .str (S ks[j]) t
  | _, _, .cons h r, 0, _, _ => h
  | _, _, .cons h r, j + 1, h1, h2 => by
    obtain ⟨t, e⟩ := strs_get r j (Nat.lt_of_succ_lt_succ h1) (Nat.lt_of_succ_lt_succ h2)
    exact ⟨t, e⟩
theorem any_mem (k : List Nat) : ∀ ks : List (List Nat), ((ks.map S).any (· == S k)) = decide (k ∈ ks)
  | [] => by simp
  | a :: r => by
    rw [List.map_cons, List.any_cons, any_mem k r]
    by_cases h : a = k
    · subst h; simp
    · have h1 : (S a == S k) = false := by
        rw [beq_eq_false_iff_ne]; exact fun e => h (S_inj e)
      have h2 : k ≠ a := fun e => h e.symm
      simp [h1, h2]
theorem in_texts {prog : Program} {w : World} {A : Around} {E : Value → Shared → Prop} {s : Shared} {l : Addr} {vs : List Value} {ks : List (List Nat)} {k : List Nat} {t : Tok} {Q : Value → Shared → Prop}
    (hl : s.heap.IsList l vs.toArray) (hi : StrsAre vs ks) (h : Q (.bool (decide (k ∈ ks))) s) : wpAny (model prog w) A (compareOp .In (.str (S k) t) (.ref l)) Q E s :=
  in_list_strs hl (libStrs hi) (by rw [any_mem]; exact h)
theorem index_texts {prog : Program} {w : World} {A : Around} {E : Value → Shared → Prop} {s : Shared} {l : Addr} {vs : List Value} {ks : List (List Nat)} {k : List Nat} {t : Tok} {Q : Value → Shared → Prop}
    (hl : s.heap.IsList l vs.toArray) (hi : StrsAre vs ks) (hsz : ks.length ≤ 1000) (hk : k ∈ ks) (h : Q (.int (ks.idxOf k : Nat) s.toks) { s with toks := s.toks + 1 }) :
    wpAny (model prog w) A (call (.builtin "list.index") [.ref l, .str (S k) t]) Q E s := by
  obtain ⟨⟨cls, dd, data, sl⟩, ho, hc, n, hd⟩ := id hl
  simp only at hc hd
  subst hc hd
  have hlen : vs.length = ks.length := hi.length
  have hj : ks.idxOf k < ks.length := List.idxOf_lt_length_iff.mpr hk
  refine call_meets PySem.F.slot_list_index ⟨_, ho, rfl⟩ PySem.F.entry_list_index (PySem.F.args_list_index_2 _ _)
    (SeqAt.list_indexAt l vs.toArray n dd sl (.str (S k) t) (isStrOf (S k)) (ks.idxOf k) (by simpa [hlen] using hj) (by omega) ?_ ?_) ⟨ho, fun y hy => (eq_isStrOf (S k) t (libStrs hi) y (by simpa using hy)).at _ _, h⟩
  · show isStrOf (S k) vs[ks.idxOf k] = true
    obtain ⟨t', e⟩ := strs_get hi (ks.idxOf k) (by omega) hj
    rw [e, List.getElem_idxOf hj]
    show (S k == S k) = true
    simp
  · intro j hjs hlt
    have hj1 : j < vs.length := by simpa using hjs
    show isStrOf (S k) vs[j] = false
    obtain ⟨t', e⟩ := strs_get hi j hj1 (by omega)
    rw [e]
    show (S ks[j] == S k) = false
    rw [beq_eq_false_iff_ne]
    intro q
    have h2 := List.not_of_lt_findIdx (p := (· == k)) (xs := ks) (i := j) (by simpa [List.idxOf] using hlt)
    rw [S_inj q] at h2
    simp at h2

theorem Paired.unmap {α β γ : Type} {F : α → γ → Prop} {G : α → β → Prop} {f : β → γ} (hm : ∀ a b, F a (f b) → G a b) : ∀ {l₁ : List α} {l₂ : List β}, Paired F l₁ (l₂.map f) → Paired G l₁ l₂
  | _, [], .nil => .nil
  | _, _ :: _, .cons h₁ t => .cons (hm _ _ h₁) (Paired.unmap hm t)

theorem meth_index {prog : Program} {w : World} {A : Around} {E : Value → Shared → Prop} {s : Shared} {D : Addr} {vs : Array Value} {n : Nat} {pl : Sem Bool} {Q : Value × List Value → Shared → Prop} (ho : s.heap.get? D = some (listOf vs n)) (h : Q (.builtin "list.index", [.ref D]) s) :
    wpAny (model prog w) A (getMethod (.ref D) (Str.ofString "index") pl) Q E s :=
  getMethod_builtin ⟨_, ho, rfl⟩ PySem.F.plainAttrs_list PySem.F.slot_list_index PySem.F.type_list_index (fun b e => by injection e with e; subst e; exact ⟨_, ho, rfl⟩) h
theorem ldCC {w : World} {prog : Program} {A : Around} {E : Value → Shared → Prop} {s : Shared} {sc : Scope} {cl : List (Str × Addr)} {C : Addr} {env : Env} {x : Str} {pos : Pos} {v : Value} {m : Str → Option Value} {Q : Value → Shared → Prop} (hn : s.heap.Ns C m) (hv : m x = some v) (h : Q v s)
    (hk : sc.kind = .function) (hl : sc.names.lookup x = some .local) (hd : (x == ("__debug__" : Str)) = false) :
    wpAny (model prog w) A (eval (.Name x pos) (compEnvC sc cl C env)) Q E s :=
  wpAny_Name (wpAny_loadName_local (env := compEnvC sc cl C env) hk (lookup_relabel_local hl) hn hv h) hd
theorem ldCell {w : World} {prog : Program} {A : Around} {E : Value → Shared → Prop} {s : Shared} {sc : Scope} {cl : List (Str × Addr)} {C c : Addr} {env : Env} {x : Str} {pos : Pos} {v : Value} {Q : Value → Shared → Prop} (hv : s.heap.IsCell c (some v)) (hc : cl.lookup x = some c) (h : Q v s)
    (hk : sc.kind = .function) (hl : (compEnvC sc cl C env).kindOf x = some .cell) (hd : (x == ("__debug__" : Str)) = false) :
    wpAny (model prog w) A (eval (.Name x pos) (compEnvC sc cl C env)) Q E s :=
  wpAny_Name (wpAny_loadName_cell (env := compEnvC sc cl C env) hk hl hc hv h) hd

theorem c_shapes {w : World} {mean : ExcName → Option Value} {mg mb : Str → Option Value} {A : Around} {s : Shared} {x : List Nat} {t1 : Tok} {Q E : Value → Shared → Prop}
   (X : (hd.heap_39 w.params).In s.heap) (T : TopAt mean mg mb s.heap) (hA : A.depth < 390) (hh : A.handled = none) (hx : x.length ≤ 1000) (hpos : 0 < s.toks)
   (hret : ∀ a vs h' tk, s.heap.get? a = none → Kept s.heap h' → (∀ h'', NewIn s.heap h' h'' → h''.IsList a vs ∧ Paired (PairAt h'') vs.toList (byS x)) → Q (.ref a) { s with heap := h', toks := tk }) :
   wpAny (model PySem.Challenge.rw_mj0149_01.row.prog w) A (call (.ref 65) [.str (S x) t1]) Q E s := by
  k_with_none
  (k_with "call ref" => ( (with_reducible show wpAny _ _ (call (Value.ref 41) _) _ _ _); (rename Fr _ _ _ _ => F9); (rename Frag.In _ _ => X9); (rename Top _ _ _ _ _ _ => T9); (refine c_words (X9.keeps F9.keep) (T9.keeps F9.keep) (by (show _ + 1 < 400); omega) rfl (by assumption) (Or.inr rfl) (cutOkS _ _ _ _) cutS_len (by (first | assumption | omega)) ?_); (intro a9 vs9 h9 tk9 ha9 hk9 hl9 hw9); (have F8 := frKept F9 hk9); (clear F9); (try dsimp only)))
  (k_with "compareOp In str ref" => (refine in_texts (by assumption) (by assumption) ?_))
  (k_with "call builtin:list.index" => (refine index_texts (by assumption) (by assumption) (by decide) (by assumption) ?_))
  (k_with "getMethod ref" => ((with_reducible show wpAny _ _ (getMethod (Value.ref _) (Str.ofString "index") _) _ _ _); refine meth_index (by assumption) ?_))
  (k_with "eval Name" => ((with_reducible show wpAny _ _ (eval (PySem.Expr.Name _ _) (compEnvC _ _ _ _)) _ _ _); first | (refine ldCC (by assumption) (by assumption) ?_ rfl rfl (by decide)) | (refine ldCell (by assumption) rfl ?_ rfl rfl (by decide))))
  obtain ⟨hdl, dp, fr, gd, unt⟩ := A
  have hh' : hdl = none := hh
  subst hh'
  have hA' : dp < 390 := hA
  revert X T; k_fill; intro X T
  refine' enterC X T ?k6 ?k7 ?k8 ?k9 ?kB ?_ ?c2 ?c3 ?c4
  (case k6 => k_is); (case k7 => k_is); (case k8 => simp only [recursionLimit]; omega); (case k9 => exact BindsTo.of_eq rfl); (case kB => exact rfl); (case c2 => exact rfl); (case c3 => exact rfl); (case c4 => exact rfl)
  intro L h₁ m tk₁ htk₁ hm F hC hL
  have ht : m (Str.ofString "text") = some (.str (S x) t1) := by rw [hm]; rfl
  obtain ⟨oc, hoc, hdc⟩ : h₁.IsCell (L + 1) none := hC (Str.ofString "row") (L + 1) rfl
  clear hm hC
  have F := frPin F ht
  have hc0 : s.heap.get? (L + 1) = none := by
    cases e : s.heap.get? (L + 1) with
    | none => rfl
    | some o => exact absurd (Nat.lt_of_lt_of_le (Heap.lt_size e) hL) (Nat.not_lt.mpr (Nat.le_succ L))
  have N : News s.heap L h₁ [(L + 1, oc)] := news1 hoc (Nat.succ_ne_self L) hc0 News.nil
  clear hoc
  have hp₁ : 0 < tk₁ := Nat.lt_of_lt_of_le hpos htk₁
  refine seq1T (fun s' => ∃ m D vs h' tk, s' = { s with heap := h', toks := tk } ∧ Fr s.heap L h' m ∧ m (Str.ofString "text") = some (.str (S x) t1) ∧ h'.IsCell (L + 1) (some (.ref D)) ∧ h'.get? D = some (listOf vs 0) ∧ StrsAre vs.toList rowL) ?_ ?_
  · k_steps
    rename_i D' lst h₀' k' e' a' l1 h' o' F' N' d'
    refine ⟨rfl, _, D', _, h', _, rfl, F', rfl, ⟨o', (N' (L + 1, o') (by simp)).1, d'⟩, (N' _ (.head _)).1, ?_⟩
    have e2 : lst.map (·.1) = rowL.map S := by rw [e']; decide +kernel
    have := textsAre_values lst
    rw [e2] at this
    exact Paired.unmap (f := S) (fun _ _ h => h) this
  · clear F N
    rintro s' ⟨m, D, rs, h', tk, rfl, F, ht, hcell, hlD, hrs⟩ hs'
    have hp : 0 < tk := Nat.lt_of_lt_of_le hp₁ hs'
    have F := frPin F ht
    have N := @News.nil s.heap h' L
    refine wpAny_execs_cons (wpAny_Return_some (compEvalC (cl := [(Str.ofString "row", L + 1)]) (fun h v y => ∀ l, IsStr v l → PairAt h y (snum l, l)) (fun _ => true) rfl ?hclos (by decide) rfl (by decide)
      (valF (fun v s₂ => ∃ a vs h₂ tk, v = .ref a ∧ s₂ = { s with heap := h₂, toks := tk } ∧ Kept h' h₂ ∧ Kept s.heap h₂ ∧ h₂.IsList a vs ∧ StrsAre vs.toList (wordsF cutS x)) ?_ ?_)))
    · rfl
    · k_steps
      skip
      exact ⟨_, _, _, _, rfl, rfl, (by assumption), Fr.keep (by assumption), hl9 _ (fun _ _ _ e => e), hw9⟩
    · rintro v s₂ ⟨a, vs, h₂, tk, rfl, rfl, hk, hk', hla, hvs⟩ hs₂
      have X' := X.keeps hk'
      have T' := T.keeps hk'
      have hwl := words_len cutS cutS_len x.length x
      have hvl := strsAre_size hvs
      refine ⟨a, vs, rfl, hla, ?_, turnNameC rfl rfl ?_, ?_⟩
      · rw [sizeLine_eq, hvl]; have := hwl.1; unfold wordsF; omega
      · rintro C v s₃ m₃ hv hC hn hm hk₃ ⟨h₃, tk₃, rfl, htk₃⟩
        have X₃ := X'.keeps hk₃
        have T₃ := T'.keeps hk₃
        obtain ⟨q, hq, tq, rfl⟩ := Paired.mem hvs v (by simpa using hv)
        have hkk : Kept h' h₃ := fun b o e => hk₃ b o (hk b o e)
        have hcell₃ := hcell.keeps hkk
        have hoD₃ : h₃.get? D = some (listOf rs 0) := hkk _ _ hlD
        have hlD₃ : h₃.IsList D rs := ⟨_, hoD₃, rfl, _, rfl⟩
        clear X T X' T' F N hcell hlD
        obtain ⟨rl⟩ := rs
        have hrs' : StrsAre rl rowL := hrs
        k_steps
        · have hq1 : q ∈ rowL := by assumption
          refine wpAny_newObj_type (T := "tuple") ?_ (by size_fits)
          refine ⟨_, _, rfl, fun b o e => Heap.get?_push_of_some _ e, fun h' hN l hl => ?_⟩
          obtain ⟨t', e⟩ := hl
          have hql : q = l := S_inj (by injection e)
          rw [← hql, show snum q = 7 + ((rowL.idxOf q : Nat) : Int) from if_pos hq1]
          exact pairNew hN
        · have hq1 : ¬ q ∈ rowL := by assumption
          refine wpAny_newObj_type (T := "tuple") ?_ (by size_fits)
          refine ⟨_, _, rfl, fun b o e => Heap.get?_push_of_some _ e, fun h' hN l hl => ?_⟩
          obtain ⟨t', e⟩ := hl
          have hql : q = l := S_inj (by injection e)
          rw [← hql, show snum q = -1 from if_neg hq1]
          exact pairNew hN
      · intro D h₃ tk₃ ys hD hk₃ hP
        refine hret D ys h₃ tk₃ (keptNone hk' hD) (fun b o e => hk₃ b o (hk' b o e)) fun h'' hN => ?_
        have h4 := hP h'' (newInKept hk' hN)
        refine ⟨h4.1, ?_⟩
        have h5 := h4.2
        rw [List.filter_eq_self.mpr (fun _ _ => rfl)] at h5
        exact Paired.map (G := PairAt h'') (f := fun l => (snum l, l)) (fun _ _ h => h) (Paired.comp (H := fun y l => PairAt h'' y (snum l, l)) (fun _ _ l h1 h2 => h1 l h2) h5 hvs)
end

section
open PySem PySem.W PyProof.Rows PySem.Calls
set_option maxRecDepth 100000
set_option maxHeartbeats 8000000

def SkipK (s₂ s₅ : Shared) : Prop := ∃ h₅ tk, s₅ = { s₂ with heap := h₅, toks := tk } ∧ Kept s₂.heap h₅

section
variable {prog : Program} {w : World} {A : Around} {E : Value → Shared → Prop} {s : Shared}
theorem turnPair {elt : PySem.Expr} {ifs : List PySem.Expr} {a b : Str} {pa pb pos : Pos} {k : Nat} {scope : Scope} {env : Env} {s₁ : Shared} {items : Array Value} {G : Heap → Value → Value → Prop} {p : Value → Bool}
    (hh : A.handled = none) (ha : scope.names.lookup a = some .local) (hb : scope.names.lookup b = some .local) (hab : b ≠ a) (hkind : scope.kind = .function)
    (hit : ∀ v, v ∈ items → ∃ q, PairAt s₁.heap v q)
    (h : ∀ C v i l ti ts s₂ m₂, v ∈ items → PairAt s₁.heap v (i, l) → s₁.heap.get? C = none → s₂.heap.Ns C m₂ → m₂ a = some (.int i ti) → m₂ b = some (.str (S l) ts) → Kept s₁.heap s₂.heap → (∃ h₂ tk₂, s₂ = { s₁ with heap := h₂, toks := tk₂ } ∧ s₁.toks ≤ tk₂) →
      wpAny (model prog w) A (testsOf ifs (compEnv scope C env)) (fun ok s₄ => ok = p v ∧
        if ok = true then wpAny (model prog w) A (eval elt (compEnv scope C env)) (fun y s₅ => ElemK s₂ G v y s₅) (fun _ _ => False) s₄ else SkipK s₂ s₄) (fun _ _ => False) s₂) :
    TurnOk prog w A G p s₁ items (.Tuple [.Name a pa, .Name b pb] k pos) elt ifs (fun C => compEnv scope C env) := by
  rintro C v s₂ m₂ hv hC hn hk ⟨h₂, tk₂, rfl, ht₂⟩
  obtain ⟨⟨i, l⟩, t, ti, ts, rfl, htup⟩ := hit v hv
  have hp : PairAt s₁.heap (.ref t) (i, l) := ⟨t, ti, ts, rfl, htup⟩
  have htup₂ : Heap.IsTuple h₂ t #[.int i ti, .str (S l) ts] := by
    obtain ⟨o, ho, r⟩ := htup; exact ⟨o, hk _ _ ho, r⟩
  have hn' : h₂.Ns C m₂ := hn
  refine wpAny_assign_Tuple (items := #[.int i ti, .str (S l) ts]) hh htup₂ rfl rfl fun h₃ hs₃' => ?_
  have hs₃ : Kept h₂ h₃ := fun b o e => hs₃' b o (Nat.ne_of_lt (Heap.lt_size e)) e
  show wpAny _ _ (do holding [Value.str (S l) ts] (assign (.Name a pa) (compEnv scope C env) (.int i ti)); do holding [] (assign (.Name b pb) (compEnv scope C env) (.str (S l) ts)); pure ()) _ _ _
  refine wpAny_bind (wpAny_holding (wpAny_assign_Name (wpAny_storeName_local (env := compEnv scope C env) ha (hn'.keeps hs₃) (fun h₄ hn₄ hs₄' => ?_) (by simp [compEnv, hkind]))))
  have hs₄ : Heap.SameBut C h₃ h₄ := hs₄'
  refine wpAny_bind (wpAny_holding (wpAny_assign_Name (wpAny_storeName_local (env := compEnv scope C env) hb hn₄ (fun h₅ hn₅ hs₅' => wpAny_pure ?_) (by simp [compEnv, hkind]))))
  have hs₅ : Heap.SameBut C h₄ h₅ := hs₅'
  have hk₅ : ∀ b o, b ≠ C → h₂.get? b = some o → h₅.get? b = some o := fun b o hb e => hs₅.extBut b o hb (hs₄.extBut b o hb (hs₃ b o e))
  have hk₁ : Kept s₁.heap h₅ := fun b o e => hk₅ b o (fun q => by rw [q, hC] at e; cases e) (hk b o e)
  refine wpAny_mono (h C _ i l ti ts _ _ hv hp hC hn₅ (by show (if a = b then _ else if a = a then _ else _) = _; rw [if_neg (Ne.symm hab), if_pos rfl]) (if_pos rfl) hk₁ ⟨h₅, _, rfl, Nat.le_succ_of_le (Nat.le_succ_of_le ht₂)⟩) (fun ok s₆ h₆ => ⟨h₆.1, ?_⟩) fun _ _ e => e
  have h₇ := h₆.2
  have hnone : ∀ b, h₅.get? b = none → h₂.get? b = none := fun b e => by
    by_cases q : b = C
    · obtain ⟨oo, _, _, ho, _⟩ := hn₅
      rw [q] at e
      rw [show h₅.get? C = some oo from ho] at e
      cases e
    · cases hq : h₂.get? b with
      | none => rfl
      | some o => rw [hk₅ b o q hq] at e; cases e
  cases ok with
  | false =>
    simp only [Bool.false_eq_true, if_false] at h₇ ⊢
    obtain ⟨h₈, tk₈, rfl, hk₈⟩ := h₇
    have hk₈' : Kept h₅ h₈ := hk₈
    exact ⟨h₈, tk₈, _, rfl, fun b o hb e => hk₈' b o (hk₅ b o hb e), hn₅.keeps hk₈'⟩
  | true =>
    simp only [if_true] at h₇ ⊢
    refine wpAny_mono h₇ (fun y s₈ h₈ => ?_) fun _ _ e => e
    obtain ⟨h₈, tk₈, rfl, hk₈, hG⟩ := h₈
    have hk₈' : Kept h₅ h₈ := hk₈
    exact ⟨h₈, tk₈, _, rfl, fun b o hb e => hk₈' b o (hk₅ b o hb e), hn₅.keeps hk₈', fun h' hN => hG h' fun b o h1 e => hN b o (hnone b h1) e⟩
end
end

section
open PySem PySem.W PyProof.Rows PySem.Calls
set_option maxRecDepth 100000
set_option maxHeartbeats 8000000

/-- a place where the walk is to stop -/
def Stop (P : Prop) : Prop := P
theorem Stop.mk {P : Prop} (h : Stop P) : P := h

/-- a list of pairs -/
def RowAt (h : Heap) (v : Value) (ps : List (Int × List Nat)) : Prop := ∃ a vs, v = .ref a ∧ h.IsList a vs ∧ Paired (PairAt h) vs.toList ps
theorem Paired.mono' {α β : Type} {F G : α → β → Prop} (hm : ∀ a b, F a b → G a b) {l₁ : List α} {l₂ : List β} (h : Paired F l₁ l₂) : Paired G l₁ l₂ := by
  have := Paired.map (f := id) (G := G) hm h
  simpa using this
theorem RowAt.keep {h h' : Heap} {v : Value} {ps : List (Int × List Nat)} (x : RowAt h v ps) (k : Kept h h') : RowAt h' v ps := by
  obtain ⟨a, vs, e, hl, hp⟩ := x
  exact ⟨a, vs, e, hl.at fun o q => k _ o q, Paired.mono' (fun _ _ q => PairAt.keep q k) hp⟩

theorem join_nil : ∀ ls : List (List Nat), Str.join (S []) (ls.map S) = S ls.flatten
  | [] => rfl
  | [a] => by show S a = _; simp
  | a :: b :: r => by
    have ih := join_nil (b :: r)
    show S a ++ S [] ++ Str.join (S []) ((b :: r).map S) = _
    rw [ih, S_append, S_append]; simp
theorem PairAt.uniq {h : Heap} {v : Value} {q r : Int × List Nat} (x : PairAt h v q) (y : PairAt h v r) : q = r := by
  obtain ⟨a, ti, ts, rfl, o, ho, _, n, hd⟩ := x
  obtain ⟨a', ti', ts', e, o', ho', _, n', hd'⟩ := y
  injection e with e
  subst e
  rw [ho] at ho'
  cases ho'
  rw [hd] at hd'
  injection hd' with e1 _
  have e2 := congrArg Array.toList e1
  simp at e2
  obtain ⟨⟨h1, _⟩, h2, _⟩ := e2
  exact Prod.ext h1 (S_inj h2)

theorem c_joined {w : World} {mean : ExcName → Option Value} {mg mb : Str → Option Value} {A : Around} {s : Shared} {v : Value} {ps : List (Int × List Nat)} {Q E : Value → Shared → Prop}
   (X : (hd.heap_39 w.params).In s.heap) (T : TopAt mean mg mb s.heap) (hA : A.depth < 500) (hh : A.handled = none) (hv : RowAt s.heap v ps) (hn : ps.length ≤ 1000) (hl : ∀ q ∈ ps, q.2.length ≤ 1010)
   (hret : ∀ t h' tk, Kept s.heap h' → Q (.str (Txt.strip (S (ps.flatMap (·.2)))) t) { s with heap := h', toks := tk }) :
   wpAny (model PySem.Challenge.rw_mj0149_01.row.prog w) A (call (.ref 77) [v]) Q E s := by
  k_with_none
  (k_with "eval ListComp" => ((with_reducible show wpAny _ _ (eval (PySem.Expr.ListComp _ _ _ _) _) _ _ _); refine Stop.mk ?_))
  (k_with "eval Name" => ((with_reducible show wpAny _ _ (eval (PySem.Expr.Name _ _) (compEnv _ _ _)) _ _ _); refine ldC (by assumption) (by assumption) ?_))
  obtain ⟨hdl, dp, fr, gd, unt⟩ := A
  have hh' : hdl = none := hh
  subst hh'
  have hA' : dp < 500 := hA
  obtain ⟨a, vs, rfl, hla, hps⟩ := hv
  revert X T; k_fill; intro X T
  refine' enter X T ?k6 ?k7 ?k8 ?k9 ?kB ?_ ?c2 ?c3 ?c4 ?c5
  (case k6 => k_is); (case k7 => k_is); (case k8 => simp only [recursionLimit]; omega); (case k9 => exact BindsTo.of_eq rfl); (case c5 => decide); (case kB => exact locs rfl); (case c2 => exact rfl); (case c3 => exact rfl); (case c4 => exact rfl)
  intro L h₁ m tk₁ htk₁ hm F
  have ht : m (Str.ofString "row") = some (.ref a) := by rw [hm]; rfl
  clear hm
  have F := frPin F ht
  have N := @News.nil s.heap h₁ L
  k_steps
  unfold Stop
  have hla₁ : h₁.IsList a vs := hla.at fun o e => F.keep _ o e
  have hps₁ : Paired (PairAt h₁) vs.toList ps := Paired.mono' (fun _ _ q => PairAt.keep q F.keep) hps
  have hvs : vs.size = ps.length := by have := hps.length; simpa using this
  refine compEval (fun _ v y => ∀ q, PairAt h₁ v q → IsStr y q.2) (fun _ => true) rfl (by decide) (by decide) rfl (by decide) (ld F rfl ⟨a, vs, rfl, hla₁, by rw [sizeLine_eq]; omega, turnPair rfl rfl rfl (by decide) rfl ?_ ?_, ?_⟩)
  · intro v hv
    obtain ⟨q, _, hq⟩ := Paired.mem hps₁ v (by simpa using hv)
    exact ⟨q, hq⟩
  · intro C v i l ti ts s₂ m₂ hv hp hC hn hma hmb hk hs₂
    refine wpAny_tests_nil ⟨rfl, ?_⟩
    rw [if_pos rfl]
    k_steps
    refine ⟨_, _, rfl, fun _ _ e => e, fun _ _ q hq => ?_⟩
    rw [← PairAt.uniq hp hq]
    exact ⟨_, rfl⟩
  · intro D h₃ tk₃ ys hD hk₃ hP
    have h4 := hP h₃ fun _ _ _ e => e
    have h5 := h4.2
    rw [List.filter_eq_self.mpr (fun _ _ => rfl)] at h5
    have h6 : StrsAre ys.toList (ps.map (·.2)) := Paired.map (G := IsStr) (f := fun q : Int × List Nat => q.2) (fun _ _ h => h) (Paired.comp (H := fun y (q : Int × List Nat) => IsStr y q.2) (fun _ _ q h1 h2 => h1 q h2) h5 hps₁)
    have h7 : TextsAre ys.toList ((ps.map (·.2)).map S) := Paired.map (G := IsText) (f := S) (fun _ _ h => h) h6
    obtain ⟨lst, hl1, hl2⟩ := values_of_texts h7
    have hlD : h₃.IsList D (strValues lst).toArray := by rw [← hl1]; exact h4.1
    have F₃ := frKept F hk₃
    have hjok : JoinOk (Str.ofString "") ((ps.map (·.2)).map S) = true := by
      unfold JoinOk
      rw [Bool.not_eq_true']
      refine StrLaws.joinFits (B := 1010) ?_ ?_
      · intro y hy
        obtain ⟨l, hl', rfl⟩ := List.mem_map.mp hy
        obtain ⟨q, hq, rfl⟩ := List.mem_map.mp hl'
        rw [S_length]; exact hl q hq
      · rw [k_nil, S_length]; simp; omega
    have hjn : Txt.join (Str.ofString "") ((ps.map (·.2)).map S) = S (ps.flatMap (·.2)) := by
      show Builtin.Str.glued _ _ = _
      rw [StrLaws.glued_eq_join, k_nil, join_nil, List.flatMap_def]
    have hjl : (Txt.join (Str.ofString "") ((ps.map (·.2)).map S)).length ≤ 1010000 := by
      have h8 : ∀ l : List (Int × List Nat), (∀ q ∈ l, q.2.length ≤ 1010) → (l.flatMap (·.2)).length ≤ l.length * 1010 := by
        intro l
        induction l with
        | nil => intro _; simp
        | cons q r ih =>
          intro hq
          have h9 := hq q (List.mem_cons_self)
          have h10 := ih fun p hp => hq p (List.mem_cons_of_mem _ hp)
          rw [List.flatMap_cons, List.length_append, List.length_cons]
          omega
      rw [hjn, S_length]
      have := h8 ps hl
      omega
    clear F hP h4 h5 h6 h7
    have N₃ := @News.nil s.heap h₃ L
    k_steps
    rw [hjn]
    exact hret _ _ _ (Fr.keep (by assumption))
end

section
open PySem PySem.W PyProof.Rows PySem.Calls
set_option maxRecDepth 100000
set_option maxHeartbeats 8000000


theorem Paired.filter' {α β : Type} {F : α → β → Prop} {p : α → Bool} {q : β → Bool} (hm : ∀ a b, F a b → p a = q b) : ∀ {l₁ : List α} {l₂ : List β}, Paired F l₁ l₂ → Paired F (l₁.filter p) (l₂.filter q)
  | _, _, .nil => .nil
  | a :: _, b :: _, .cons h₁ t => by
    rw [List.filter_cons, List.filter_cons, hm a b h₁]
    split
    · exact .cons h₁ (Paired.filter' hm t)
    · exact Paired.filter' hm t

noncomputable def bareL (ps : List (Int × List Nat)) : List (Int × List Nat) := (ps.filter fun q => decide (q.2 ≠ [32])).map fun q => (q.1, rdrop Unicode.isSpace q.2)
theorem k_32 : Str.ofString " " = S [32] := by decide +kernel

open Classical in
theorem c_bare {w : World} {mean : ExcName → Option Value} {mg mb : Str → Option Value} {A : Around} {s : Shared} {v : Value} {ps : List (Int × List Nat)} {Q E : Value → Shared → Prop}
   (X : (hd.heap_39 w.params).In s.heap) (T : TopAt mean mg mb s.heap) (hA : A.depth < 500) (hh : A.handled = none) (hv : RowAt s.heap v ps) (hn : ps.length ≤ 1000) (hl : ∀ q ∈ ps, q.2.length ≤ 1010)
   (hret : ∀ a vs h' tk, s.heap.get? a = none → Kept s.heap h' → (∀ h'', NewIn s.heap h' h'' → h''.IsList a vs ∧ Paired (PairAt h'') vs.toList (bareL ps)) → Q (.ref a) { s with heap := h', toks := tk }) :
   wpAny (model PySem.Challenge.rw_mj0149_01.row.prog w) A (call (.ref 82) [v]) Q E s := by
  k_with_none
  (k_with "eval Name" => ((with_reducible show wpAny _ _ (eval (PySem.Expr.Name _ _) (compEnv _ _ _)) _ _ _); refine ldC (by assumption) (by assumption) ?_))
  obtain ⟨hdl, dp, fr, gd, unt⟩ := A
  have hh' : hdl = none := hh
  subst hh'
  have hA' : dp < 500 := hA
  obtain ⟨a, vs, rfl, hla, hps⟩ := hv
  revert X T; k_fill; intro X T
  refine' enter X T ?k6 ?k7 ?k8 ?k9 ?kB ?_ ?c2 ?c3 ?c4 ?c5
  (case k6 => k_is); (case k7 => k_is); (case k8 => simp only [recursionLimit]; omega); (case k9 => exact BindsTo.of_eq rfl); (case c5 => decide); (case kB => exact locs rfl); (case c2 => exact rfl); (case c3 => exact rfl); (case c4 => exact rfl)
  intro L h₁ m tk₁ htk₁ hm F
  have ht : m (Str.ofString "row") = some (.ref a) := by rw [hm]; rfl
  clear hm
  have F := frPin F ht
  have hk := F.keep
  have hla₁ : h₁.IsList a vs := hla.at fun o e => F.keep _ o e
  have hps₁ : Paired (PairAt h₁) vs.toList ps := Paired.mono' (fun _ _ q => PairAt.keep q F.keep) hps
  have hvs : vs.size = ps.length := by have := hps.length; simpa using this
  refine wpAny_execs_cons (wpAny_Return_some (compEval (fun h v y => ∀ q, PairAt h₁ v q → PairAt h y (q.1, rdrop Unicode.isSpace q.2)) (fun v => decide (∃ q, PairAt h₁ v q ∧ q.2 ≠ [32])) rfl (by decide) (by decide) rfl (by decide)
    (ld F rfl ⟨a, vs, rfl, hla₁, by rw [sizeLine_eq]; omega, turnPair rfl rfl rfl (by decide) rfl ?_ ?_, ?_⟩)))
  · intro v hv
    obtain ⟨q, _, hq⟩ := Paired.mem hps₁ v (by simpa using hv)
    exact ⟨q, hq⟩
  · rintro C v i l ti ts s₂ m₂ hv hp hC hn hma hmb hk₂ ⟨h₂, tk₂, rfl, ht₂⟩
    have hll : l.length ≤ 1010 := by
      obtain ⟨q, hq, hq'⟩ := Paired.mem hps₁ v (by simpa using hv)
      rw [PairAt.uniq hq' hp] at hq
      exact hl _ hq
    have hll' : (S l).length ≤ 1010 := by rw [S_length]; exact hll
    have hpv : decide (∃ q, PairAt h₁ v q ∧ q.2 ≠ [32]) = decide (l ≠ [32]) := by
      refine decide_eq_decide.mpr ⟨fun ⟨q, hq, h⟩ => by rw [PairAt.uniq hq hp] at h; exact h, fun h => ⟨_, hp, h⟩⟩
    clear X T F
    refine wpAny_tests_one (condF (decide (l ≠ [32])) ?_ fun h₃ tk₃ htk₃ hk₃ => ⟨hpv.symm, ?_⟩)
    · k_steps
      refine ⟨?_, _, _, rfl, fun _ _ e => e⟩
      rw [k_32]
      by_cases hq : l = [32]
      · subst hq; simp
      · have : (S l == S [32]) = false := by rw [beq_eq_false_iff_ne]; exact fun e => hq (S_inj e)
        simp [bne, this, hq]
    · split
      · rename_i hb
        have hn₃ : h₃.Ns C m₂ := Heap.Ns.keeps hn hk₃
        k_steps
        rw [rstrip_S]
        refine wpAny_newObj_type (T := "tuple") ?_ (by size_fits)
        refine ⟨_, _, rfl, fun b o e => Heap.get?_push_of_some _ (hk₃ b o e), fun h' hN q hq => ?_⟩
        rw [← PairAt.uniq hp hq]
        exact pairNew (newInKept hk₃ hN)
      · exact ⟨_, _, rfl, hk₃⟩
  · intro D h₃ tk₃ ys hD hk₃ hP
    refine hret D ys h₃ tk₃ (keptNone hk hD) (fun b o e => hk₃ b o (hk b o e)) fun h'' hN => ?_
    have h4 := hP h'' (newInKept hk hN)
    refine ⟨h4.1, ?_⟩
    have h5 := h4.2
    have h6 : Paired (PairAt h₁) (vs.toList.filter fun v => decide (∃ q, PairAt h₁ v q ∧ q.2 ≠ [32])) (ps.filter fun q => decide (q.2 ≠ [32])) := by
      refine Paired.filter' (fun v q hq => ?_) hps₁
      refine decide_eq_decide.mpr ⟨fun ⟨r, hr, h⟩ => by rw [PairAt.uniq hr hq] at h; exact h, fun h => ⟨_, hq, h⟩⟩
    exact Paired.map (G := PairAt h'') (f := fun q : Int × List Nat => (q.1, rdrop Unicode.isSpace q.2)) (fun _ _ h => h) (Paired.comp (H := fun y (q : Int × List Nat) => PairAt h'' y (q.1, rdrop Unicode.isSpace q.2)) (fun _ _ q h1 h2 => h1 q h2) h5 h6)
end

section
open PySem PySem.W PyProof.Rows PySem.Calls
set_option maxRecDepth 100000
set_option maxHeartbeats 8000000

noncomputable def pairD (q : Int × List Nat) : PyData := .tuple [.int q.1, .str (S q.2)]
noncomputable def rowD (ps : List (Int × List Nat)) : PyData := .list (ps.map pairD)
noncomputable def rowsD (rs : List (List (Int × List Nat))) : PyData := .list (rs.map rowD)
noncomputable def textsD (zs : List Str) : PyData := .list (zs.map .str)

abbrev Low (l : List Nat) : Prop := ∀ c ∈ l, c < 128
abbrev LowRow (ps : List (Int × List Nat)) : Prop := ∀ q ∈ ps, Low q.2

theorem strOk_S {l : List Nat} (h : Low l) : PyData.strOk (S l) = true := by
  unfold PyData.strOk
  simp only [S]
  rw [List.all_toArray, List.all_eq_true] 
  intro c hc
  have := h c hc
  simp
  omega
theorem readsAll_of {α : Type} {h : Heap} {F : Value → α → Prop} {f : α → PyData} (hf : ∀ v a, F v a → ∃ as, Reads h v (f a) as) : ∀ {vs : List Value} {l : List α}, Paired F vs l → ∃ as, ReadsAll h vs (l.map f) as
  | _, _, .nil => ⟨_, .nil⟩
  | _, _, .cons h₁ t => by
    obtain ⟨as, ra⟩ := hf _ _ h₁
    obtain ⟨bs, rb⟩ := readsAll_of hf t
    exact ⟨_, .cons ra rb⟩
theorem reads_pair {h : Heap} {v : Value} {q : Int × List Nat} (x : PairAt h v q) : ∃ as, Reads h v (pairD q) as := by
  obtain ⟨a, ti, ts, rfl, o, ho, hc, n, hd⟩ := x
  exact ⟨_, .tuple ho hc hd (.cons (.int _ _) (.cons (.str _ _) .nil))⟩
theorem reads_row {h : Heap} {v : Value} {ps : List (Int × List Nat)} (x : RowAt h v ps) : ∃ as, Reads h v (rowD ps) as := by
  obtain ⟨a, vs, rfl, ⟨o, ho, hc, n, hd⟩, hp⟩ := x
  obtain ⟨as, ra⟩ := readsAll_of (F := PairAt h) (f := pairD) (h := h) (fun _ _ q => reads_pair q) hp
  exact ⟨_, .list ho hc hd ra⟩
theorem reads_rows {h : Heap} {a : Addr} {vs : Array Value} {rs : List (List (Int × List Nat))} (hl : h.IsList a vs) (x : Paired (RowAt h) vs.toList rs) : ∃ as, Reads h (.ref a) (rowsD rs) as := by
  obtain ⟨o, ho, hc, n, hd⟩ := hl
  obtain ⟨as, ra⟩ := readsAll_of (F := RowAt h) (f := rowD) (h := h) (fun _ _ q => reads_row q) x
  exact ⟨_, .list ho hc hd ra⟩
theorem reads_texts {h : Heap} {a : Addr} {vs : Array Value} {zs : List Str} (hl : h.IsList a vs) (x : TextsAre vs.toList zs) : ∃ as, Reads h (.ref a) (textsD zs) as := by
  obtain ⟨o, ho, hc, n, hd⟩ := hl
  obtain ⟨as, ra⟩ := readsAll_of (F := IsText) (f := PyData.str) (h := h) (fun v z ⟨t, e⟩ => ⟨[], by rw [e]; exact .str z t⟩) x
  exact ⟨_, .list ho hc hd ra⟩

theorem canLayAll_map {α : Type} {f : α → PyData} : ∀ {l : List α}, (∀ a ∈ l, (f a).canLay0 = true) → PyData.canLayAll0 (l.map f) = true
  | [], _ => by simp [PyData.canLayAll0]
  | a :: r, h => by
    rw [List.map_cons]
    simp only [PyData.canLayAll0]
    rw [h a (List.mem_cons_self), canLayAll_map fun b hb => h b (List.mem_cons_of_mem _ hb)]
    rfl
theorem depthAll_map {α : Type} {f : α → PyData} {n : Nat} : ∀ {l : List α}, (∀ a ∈ l, (f a).depth ≤ n) → PyData.depthAll (l.map f) ≤ n
  | [], _ => by simp [PyData.depthAll]
  | a :: r, h => by
    rw [List.map_cons]
    simp only [PyData.depthAll]
    exact Nat.max_le.mpr ⟨h a (List.mem_cons_self), depthAll_map fun b hb => h b (List.mem_cons_of_mem _ hb)⟩
theorem canLay_pair {q : Int × List Nat} (h : Low q.2) : (pairD q).canLay0 = true := by
  simp [pairD, PyData.canLay0, PyData.canLayAll0, strOk_S h]
theorem depth_pair (q : Int × List Nat) : (pairD q).depth ≤ 1 := by
  simp [pairD, PyData.depth, PyData.depthAll]
theorem canLay_row {ps : List (Int × List Nat)} (h : LowRow ps) : (rowD ps).canLay0 = true := by
  simp only [rowD, PyData.canLay0]
  exact canLayAll_map fun q hq => canLay_pair (h q hq)
theorem depth_row (ps : List (Int × List Nat)) : (rowD ps).depth ≤ 2 := by
  simp only [rowD, PyData.depth]
  exact Nat.succ_le_succ (depthAll_map fun q _ => depth_pair q)
theorem shaped_row {ps : List (Int × List Nat)} (h : LowRow ps) : PySem.SeqAt.shaped (rowD ps) = true := by
  unfold PySem.SeqAt.shaped
  rw [canLay_row h]
  have := depth_row ps
  simp; omega
theorem canLay_rows {rs : List (List (Int × List Nat))} (h : ∀ ps ∈ rs, LowRow ps) : (rowsD rs).canLay0 = true := by
  simp only [rowsD, PyData.canLay0]
  exact canLayAll_map fun q hq => canLay_row (h q hq)
theorem shaped_rows {rs : List (List (Int × List Nat))} (h : ∀ ps ∈ rs, LowRow ps) : PySem.SeqAt.shaped (rowsD rs) = true := by
  unfold PySem.SeqAt.shaped
  rw [canLay_rows h]
  have : (rowsD rs).depth ≤ 3 := by
    simp only [rowsD, PyData.depth]
    exact Nat.succ_le_succ (depthAll_map fun q _ => depth_row q)
  simp; omega
theorem canLay_texts {zs : List Str} (h : ∀ z ∈ zs, PyData.strOk z = true) : (textsD zs).canLay0 = true := by
  simp only [textsD, PyData.canLay0]
  exact canLayAll_map fun q hq => by simp only [PyData.canLay0]; exact h q hq
theorem shaped_texts {zs : List Str} (h : ∀ z ∈ zs, PyData.strOk z = true) : PySem.SeqAt.shaped (textsD zs) = true := by
  unfold PySem.SeqAt.shaped
  rw [canLay_texts h]
  have : (textsD zs).depth ≤ 1 := by
    simp only [textsD, PyData.depth]
    exact Nat.succ_le_succ (depthAll_map fun q _ => by simp [PyData.depth])
  simp; omega
theorem eqv_rows {rs : List (List (Int × List Nat))} (h : ∀ ps ∈ rs, LowRow ps) : PyData.eqv (rowsD rs) (rowsD rs) = true := PySem.SeqAt.eqv_refl _ (canLay_rows h)
theorem eqv_texts {zs : List Str} (h : ∀ z ∈ zs, PyData.strOk z = true) : PyData.eqv (textsD zs) (textsD zs) = true := PySem.SeqAt.eqv_refl _ (canLay_texts h)
theorem eqv_row_nil (ps : List (Int × List Nat)) : PyData.eqv (rowD ps) (rowD []) = ps.isEmpty := by
  cases ps <;> simp [rowD, PyData.eqv, PyData.eqvAll]
end

section
open PySem PySem.W PyProof.Rows PySem.Calls
set_option maxRecDepth 100000
set_option maxHeartbeats 8000000

abbrev Prs := List (Int × List Nat)
noncomputable def rstep (st : List Prs × Prs) (q : Int × List Nat) : List Prs × Prs := if q.1 = 12 then (st.1 ++ [st.2], []) else (st.1, st.2 ++ [q])
noncomputable def rfold (ps : Prs) : List Prs × Prs := ps.foldl rstep ([], [])
noncomputable def rowsL (ps : Prs) : List Prs := if (rfold ps).2.isEmpty then (rfold ps).1 else (rfold ps).1 ++ [(rfold ps).2]

def OldAt (h : Heap) (p : Addr × Obj) (ps : Prs) : Prop := ∃ xs n, p.2 = listOf xs n ∧ Paired (PairAt h) xs.toList ps
/-- the ledger's addresses are apart from D -/
abbrev Apart (D : Addr) (news : List (Addr × Obj)) : Prop := ∀ p ∈ news, p.1 ≠ D

def RInv (s : Shared) (L R I a : Addr) (ps : Prs) (n : Nat) (s' : Shared) : Prop :=
  ∃ (i : Nat) (m : Str → Option Value) (D : Addr) (ds : Array Value) (nd : Nat) (vs : Array Value) (nr : Nat) (oI : Obj) (old : List (Addr × Obj)) (h' : Heap) (tk : Nat) (st : List Prs × Prs),
    n = ps.length + 1 - i ∧ i ≤ ps.length ∧ s' = { s with heap := h', toks := tk } ∧ Fr s.heap L h' m ∧ News s.heap L h' ((I, oI) :: (D, listOf ds nd) :: (R, listOf vs nr) :: old) ∧
    oI.cls = .type "list_iterator" ∧ oI.data = .fields #[.ref a, .int i 0] ∧ st = (ps.take i).foldl rstep ([], []) ∧
    Paired (OldAt s.heap) old st.1 ∧ Paired (PairAt s.heap) ds.toList st.2 ∧ vs.toList = old.map (fun p => Value.ref p.1) ++ [.ref D] ∧
    m (Str.ofString "rows") = some (.ref R) ∧ Apart I ((D, listOf ds nd) :: (R, listOf vs nr) :: old) ∧ Apart D ((R, listOf vs nr) :: old) ∧ Apart R old ∧ old.length ≤ i ∧ ds.size ≤ i

def REnd (s : Shared) (L : Addr) (ps : Prs) (s' : Shared) : Prop :=
  ∃ (m : Str → Option Value) (R D : Addr) (ds : Array Value) (nd : Nat) (vs : Array Value) (nr : Nat) (old : List (Addr × Obj)) (h' : Heap) (tk : Nat) (st : List Prs × Prs),
    s' = { s with heap := h', toks := tk } ∧ Fr s.heap L h' m ∧ News s.heap L h' ((D, listOf ds nd) :: (R, listOf vs nr) :: old) ∧ st = rfold ps ∧
    Paired (OldAt s.heap) old st.1 ∧ Paired (PairAt s.heap) ds.toList st.2 ∧ vs.toList = old.map (fun p => Value.ref p.1) ++ [.ref D] ∧
    m (Str.ofString "rows") = some (.ref R) ∧ Apart D ((R, listOf vs nr) :: old) ∧ Apart R old ∧ old.length ≤ ps.length ∧ ds.size ≤ ps.length

theorem rfold_low_aux : ∀ (ps : Prs) (st : List Prs × Prs), LowRow ps → LowRow st.2 → (∀ r ∈ st.1, LowRow r) → LowRow (ps.foldl rstep st).2 ∧ ∀ r ∈ (ps.foldl rstep st).1, LowRow r
  | [], st, _, h2, h3 => ⟨h2, h3⟩
  | q :: r, st, h1, h2, h3 => by
    have hq := h1 q (List.mem_cons_self)
    refine rfold_low_aux r _ (fun p hp => h1 p (List.mem_cons_of_mem _ hp)) ?_ ?_
    · unfold rstep
      split
      · intro p hp; simp at hp
      · intro p hp
        simp at hp
        rcases hp with hp | rfl
        · exact h2 p hp
        · exact hq
    · unfold rstep
      split
      · intro p hp
        simp at hp
        rcases hp with hp | rfl
        · exact h3 p hp
        · exact h2
      · exact h3
theorem rfold_low {ps : Prs} (h : LowRow ps) : LowRow (rfold ps).2 := (rfold_low_aux ps ([], []) h (by simp) (by simp)).1
theorem rowsL_low {ps : Prs} (h : LowRow ps) : ∀ r ∈ rowsL ps, LowRow r := by
  have := rfold_low_aux ps ([], []) h (by simp) (by simp)
  intro r hr
  unfold rowsL at hr
  split at hr
  · exact this.2 r hr
  · rcases List.mem_append.mp hr with hr | hr
    · exact this.2 r hr
    · rw [List.mem_singleton.mp hr]; exact this.1
theorem newListA {prog : Program} {w : World} {A : Around} {E : Value → Shared → Prop} {s : Shared} {h₀ : Heap} {L : Addr} {m : Str → Option Value} {news : List (Addr × Obj)} {Q : Value → Shared → Prop} (F : Fr h₀ L s.heap m) (N : News h₀ L s.heap news)
    (h : ∀ D h', Fr h₀ L h' m → News h₀ L h' ((D, listOf #[] 0) :: news) → Apart D news → Kept s.heap h' → Q (.ref D) { s with heap := h' }) : wpAny (model prog w) A (newList []) Q E s := by
  refine wpAny_newObj_type (T := "list") (h s.heap.objs.size _ (F.push _) (N.push F _) ?_ fun _ _ e => Heap.get?_push_of_some _ e) (by size_fits)
  intro p hp
  exact Nat.ne_of_lt (Heap.lt_size (N p hp).1)
theorem paired_get {α β : Type} {F : α → β → Prop} : ∀ {l₁ : List α} {l₂ : List β}, Paired F l₁ l₂ → ∀ {i : Nat} {a : α}, l₁[i]? = some a → ∃ b, l₂[i]? = some b ∧ F a b
  | _, _, .cons h t, 0, a, e => by simp at e; subst e; exact ⟨_, rfl, h⟩
  | _, _, .cons h t, i + 1, a, e => by
    have e' := e
    rw [List.getElem?_cons_succ] at e'
    obtain ⟨b, h1, h2⟩ := paired_get t e'
    exact ⟨b, by rw [List.getElem?_cons_succ]; exact h1, h2⟩

theorem c_rows {w : World} {mean : ExcName → Option Value} {mg mb : Str → Option Value} {A : Around} {s : Shared} {v : Value} {ps : Prs} {Q E : Value → Shared → Prop}
   (X : (hd.heap_39 w.params).In s.heap) (T : TopAt mean mg mb s.heap) (hA : A.depth < 500) (hh : A.handled = none) (hu : A.units < 1000) (hv : RowAt s.heap v ps) (hn : ps.length ≤ 1000) (hlow : LowRow ps)
   (hret : ∀ a vs h' tk, s.heap.get? a = none → Kept s.heap h' → h'.IsList a vs → Paired (RowAt h') vs.toList (rowsL ps) → Q (.ref a) { s with heap := h', toks := tk }) :
   wpAny (model PySem.Challenge.rw_mj0149_01.row.prog w) A (call (.ref 72) [v]) Q E s := by
  k_with_none
  (k_with "newList" => ((rename Fr _ _ _ _ => F9); (rename News _ _ _ _ => N9); (refine newListA F9 N9 ?_); clear F9 N9; intro _ _ _ _ _ _))
  (k_with "call builtin:list.append" => (refine Stop.mk ?_))
  (k_with "compareOp Eq ref ref" => (refine Stop.mk ?_))
  (k_with "call builtin:list.pop" => (refine Stop.mk ?_))
  obtain ⟨hdl, dp, fr, gd, unt⟩ := A
  have hh' : hdl = none := hh
  subst hh'
  have hA' : dp < 500 := hA
  have hu' : unt < 1000 := hu
  obtain ⟨a, as, rfl, hla, hps⟩ := hv
  have has : as.size = ps.length := by have := hps.length; simpa using this
  revert X T; k_fill; intro X T
  refine' enter X T ?k6 ?k7 ?k8 ?k9 ?kB ?_ ?c2 ?c3 ?c4 ?c5
  (case k6 => k_is); (case k7 => k_is); (case k8 => simp only [recursionLimit]; omega); (case k9 => exact BindsTo.of_eq rfl); (case c5 => decide); (case kB => exact locs rfl); (case c2 => exact rfl); (case c3 => exact rfl); (case c4 => exact rfl)
  intro L h₁ m tk₁ htk₁ hm F
  have ht : m (Str.ofString "pairs") = some (.ref a) := by rw [hm]; rfl
  clear hm
  have F := frPin F ht
  have N := @News.nil s.heap h₁ L
  refine seq1 (fun s' => ∃ m R D h' tk, s' = { s with heap := h', toks := tk } ∧ Fr s.heap L h' m ∧ News s.heap L h' [(R, listOf #[.ref D] 0), (D, listOf #[] 0)] ∧ m (Str.ofString "pairs") = some (.ref a) ∧ m (Str.ofString "rows") = some (.ref R) ∧ D ≠ R) ?_ ?_
  · k_steps
    refine ⟨rfl, _, _, _, _, _, rfl, (by assumption), (by assumption), rfl, rfl, ?_⟩
    rintro rfl
    exact absurd (by assumption) (Nat.lt_irrefl _)
  · clear F N ht
    rintro s' ⟨m, R, D, h', tk, rfl, F, N, ht, hr, hDR⟩
    refine seq1 (REnd s L ps) ?_ ?_
    · have hla' : h'.IsList a as := hla.at fun o e => F.keep _ o e
      refine wpAny_For (ld F ht (wpAny_pyIter_list hla' ?_))
      have hDI : D < h'.objs.size := Heap.lt_size (N (D, listOf #[] 0) (by simp)).1
      have hRI : R < h'.objs.size := Heap.lt_size (N (R, listOf #[.ref D] 0) (by simp)).1
      have hIL : h'.objs.size ≠ L := Nat.ne_of_gt F.ns.lt
      have hI0 : s.heap.get? h'.objs.size = none := keptNone F.keep (sizeNone h')
      generalize hI : h'.objs.size = I at *
      refine forF (RInv s L R I a ps) ?_ (ps.length + 1) ?_
      · clear F N ht hr hDR hI hla' hDI
        rintro n s' ⟨i, m, D, ds, nd, vs, nr, oI, old, h', tk, st, rfl, hi, rfl, F, N, hc1, hc2, hst, hold, hds, hvs, hr, hap1, hap2, hap3, hlo, hld⟩
        have hit : h'.IsListIter I a i := ⟨oI, (N (I, oI) (by simp)).1, hc1, hc2⟩
        have hla' : h'.IsList a as := hla.at fun o e => F.keep _ o e
        cases hc : as[i]? with
        | none =>
          have hsz : i = ps.length := Nat.le_antisymm hi (by rw [← has]; simpa using hc)
          refine wpAny_pyNext_list_end rfl hit hla' hc fun h₂ he₂ => ?_
          refine ⟨rfl, m, R, D, ds, nd, vs, nr, old, h₂, _, st, rfl, frBut F he₂ hIL hI0, newsBut (newsTail N) he₂ hap1, ?_, hold, hds, hvs, hr, hap2, hap3, by omega, by omega⟩
          rw [hst, hsz, List.take_length]; rfl
        | some v =>
          have hiv : i < ps.length := by
            rw [← has]
            rcases Nat.lt_or_ge i as.size with h | h
            · exact h
            · rw [Array.getElem?_eq_none h] at hc; cases hc
          refine wpAny_pyNext_list_item hit hla' hc fun h₂ hit₂ hs₂ => ?_
          obtain ⟨oJ, ho1, ho2, ho3⟩ := hit₂
          have F₂ := frBut F hs₂.extBut hIL hI0
          have N₂ : News s.heap L h₂ ((I, oJ) :: (D, listOf ds nd) :: (R, listOf vs nr) :: old) := news1 ho1 hIL hI0 (newsBut (newsTail N) hs₂.extBut hap1)
          have F₃ := frPin F₂ hr
          clear F F₂ N hr hit hs₂ ho1 hla'
          obtain ⟨q, hq, hqv⟩ : ∃ q, ps[i]? = some q ∧ PairAt s.heap v q := by
            have := paired_get hps (i := i) (a := v) (by rw [← hc]; simp)
            exact this
          dsimp only
          refine stN F₃ N₂ fun h₃ F₄ N₄ => ?_
          clear F₃ N₂
          have hst' : (ps.take (i + 1)).foldl rstep ([], []) = rstep st q := by rw [List.take_add_one, hq, List.foldl_append, ← hst]; rfl
          obtain ⟨t, ti, ts, rfl, htup⟩ := id hqv
          have hvl : vs.size = old.length + 1 := by have := congrArg List.length hvs; simpa using this
          have hlast : vs[vs.size - 1]? = some (.ref D) := by
            rw [← Array.getElem?_toList, hvs, hvl]; simp
          have htup₃ : h₃.IsTuple t #[.int q.1 ti, .str (S q.2) ts] := by
            obtain ⟨o, ho, r⟩ := htup; exact ⟨o, F₄.keep _ _ ho, r⟩
          refine seq1 (fun s₃ => ∃ m, m < ps.length + 1 - i ∧ RInv s L R I a ps m s₃) (wpAny_If (condF (decide (q.1 = 12)) ?_ fun h₅ tk₅ htk₅ hk₅ => ?_)) (fun s' hI => wpAny_execs_nil ⟨.inl rfl, hI⟩)
          · k_steps
            refine ⟨?_, _, _, rfl, fun _ _ e => e⟩
            by_cases h12 : q.1 = 12
            · rw [h12]; rfl
            · simp [h12]
          · replace F₄ := frKept F₄ hk₅
            replace N₄ := newsKept N₄ hk₅
            by_cases h12 : q.1 = 12
            · rw [if_pos (decide_eq_true h12)]
              clear hk₅ htk₅ htup₃
              k_steps
              rename_i D' h₆ F₆ N₆ ap₆ _
              unfold Stop
              refine append_at (N₆.get (o := listOf vs nr) (by simp)) (fun h₇ hs₇ ho₇ => ?_) (by rw [sizeLine_eq, hvl]; omega)
              have hR := N₆ (R, listOf vs nr) (by simp)
              have F₇ := frBut F₆ hs₇.extBut hR.2.1 hR.2.2
              have N₇ : News s.heap L h₇ ((I, oJ) :: (D', listOf #[] 0) :: (R, listOf (vs.push (.ref D')) (nr + 1)) :: (old ++ [(D, listOf ds nd)])) := by
                intro p hp
                have hcases : p = (R, listOf (vs.push (.ref D')) (nr + 1)) ∨ (p ∈ ((D', listOf #[] 0) :: (I, oJ) :: (D, listOf ds nd) :: (R, listOf vs nr) :: old) ∧ p.1 ≠ R) := by
                  simp at hp
                  rcases hp with rfl | rfl | rfl | hp | rfl
                  · exact .inr ⟨by simp, fun e => hap1 (R, listOf vs nr) (by simp) e.symm⟩
                  · exact .inr ⟨by simp, fun e => ap₆ (R, listOf vs nr) (by simp) e.symm⟩
                  · exact .inl rfl
                  · exact .inr ⟨by simp [hp], hap3 p hp⟩
                  · exact .inr ⟨by simp, fun e => hap2 (R, listOf vs nr) (by simp) e.symm⟩
                rcases hcases with rfl | ⟨hp, hne⟩
                · exact ⟨ho₇, hR.2⟩
                · exact ⟨hs₇.extBut _ _ hne (N₆ p hp).1, (N₆ p hp).2⟩
              clear F₆ N₆ hs₇ ho₇
              k_steps
              refine ⟨rfl, ps.length + 1 - (i + 1), by omega, i + 1, _, D', #[], 0, vs.push (.ref D'), nr + 1, oJ, old ++ [(D, listOf ds nd)], h₇, _, (st.1 ++ [st.2], []), rfl, hiv, rfl, (by assumption), (by assumption), ho2, ho3, ?_, hold.snoc ⟨ds, nd, rfl, hds⟩, .nil, ?_, rfl, ?_, ?_, ?_, ?_, by simp⟩
              · rw [hst', rstep, if_pos h12]
              · rw [Array.toList_push, hvs]; simp
              · intro p hp
                simp at hp
                rcases hp with rfl | rfl | hp | rfl
                · exact fun e => ap₆ (I, oJ) (by simp) e.symm
                · exact hap1 (R, listOf vs nr) (by simp)
                · exact hap1 p (by simp [hp])
                · exact hap1 (D, listOf ds nd) (by simp)
              · intro p hp
                simp at hp
                rcases hp with rfl | hp | rfl
                · exact ap₆ (R, listOf vs nr) (by simp)
                · exact ap₆ p (by simp [hp])
                · exact ap₆ (D, listOf ds nd) (by simp)
              · intro p hp
                simp at hp
                rcases hp with hp | rfl
                · exact hap3 p hp
                · exact fun e => hap2 (R, listOf vs nr) (by simp) e.symm
              · simp; omega
            · rw [if_neg (by simpa using h12)]
              clear hk₅ htk₅ htup₃
              k_steps
              refine last_item (v := .ref D) ⟨_, (N₄.get (o := listOf vs nr) (by simp)), rfl, _, rfl⟩ (by rw [hvl]; omega) hlast ?_ (by with_unfolding_all rfl)
              k_steps
              unfold Stop
              refine append_at (N₄.get (o := listOf ds nd) (by simp)) (fun h₇ hs₇ ho₇ => ?_) (by rw [sizeLine_eq]; omega)
              have hD := N₄ (D, listOf ds nd) (by simp)
              have F₇ := frBut F₄ hs₇.extBut hD.2.1 hD.2.2
              have N₇ : News s.heap L h₇ ((I, oJ) :: (D, listOf (ds.push (.ref t)) (nd + 1)) :: (R, listOf vs nr) :: old) := by
                intro p hp
                have hcases : p = (D, listOf (ds.push (.ref t)) (nd + 1)) ∨ (p ∈ ((I, oJ) :: (D, listOf ds nd) :: (R, listOf vs nr) :: old) ∧ p.1 ≠ D) := by
                  simp at hp
                  rcases hp with rfl | rfl | rfl | hp
                  · exact .inr ⟨by simp, fun e => hap1 (D, listOf ds nd) (by simp) e.symm⟩
                  · exact .inl rfl
                  · exact .inr ⟨by simp, hap2 (R, listOf vs nr) (by simp)⟩
                  · exact .inr ⟨by simp [hp], hap2 p (by simp [hp])⟩
                rcases hcases with rfl | ⟨hp, hne⟩
                · exact ⟨ho₇, hD.2⟩
                · exact ⟨hs₇.extBut _ _ hne (N₄ p hp).1, (N₄ p hp).2⟩
              clear F₄ N₄ hs₇ ho₇
              k_steps
              refine ⟨rfl, ps.length + 1 - (i + 1), by omega, i + 1, _, D, ds.push (.ref t), nd + 1, vs, nr, oJ, old, h₇, _, (st.1, st.2 ++ [q]), rfl, hiv, rfl, (by assumption), (by assumption), ho2, ho3, ?_, hold, ?_, hvs, rfl, ?_, hap2, hap3, by omega, by rw [Array.size_push]; omega⟩
              · rw [hst', rstep, if_neg h12]
              · rw [Array.toList_push]; exact hds.snoc hqv
              · intro p hp
                simp at hp
                rcases hp with rfl | rfl | hp
                · exact hap1 (D, listOf ds nd) (by simp)
                · exact hap1 (R, listOf vs nr) (by simp)
                · exact hap1 p (by simp [hp])
      · refine ⟨0, m, D, #[], 0, #[.ref D], 0, { cls := .type "list_iterator", data := .fields #[.ref a, .int 0 0] }, [], _, _, ([], []), rfl, Nat.zero_le _, rfl, F.push _, ?_, rfl, rfl, rfl, .nil, .nil, rfl, hr, ?_, ?_, by simp, Nat.zero_le _, Nat.zero_le _⟩
        · have := N.push F { cls := .type "list_iterator", data := .fields #[.ref a, .int 0 0] }
          rw [hI] at this
          intro p hp; exact this p (by simp at hp; rcases hp with rfl | rfl | rfl <;> simp)
        · intro p hp
          simp at hp
          rcases hp with rfl | rfl
          · exact Nat.ne_of_lt hDI
          · exact Nat.ne_of_lt hRI
        · intro p hp
          simp at hp
          subst hp
          exact fun e => hDR e.symm
    · clear F N ht hr hDR
      rintro s' ⟨m, R, D, ds, nd, vs, nr, old, h', tk, st, rfl, F, N, hst, hold, hds, hvs, hr, hap2, hap3, hlo, hld⟩
      have F := frPin F hr
      have hvl : vs.size = old.length + 1 := by have := congrArg List.length hvs; simpa using this
      have hlast : vs[vs.size - 1]? = some (.ref D) := by
        rw [← Array.getElem?_toList, hvs, hvl]; simp
      have hrows : ∀ h'', Kept s.heap h'' → (∀ p ∈ old, h''.get? p.1 = some p.2) → Paired (RowAt h'') (old.map fun p => Value.ref p.1) st.1 := by
        intro h'' hk hg
        have : ∀ {old : List (Addr × Obj)} {rs : List Prs}, Paired (OldAt s.heap) old rs → (∀ p ∈ old, h''.get? p.1 = some p.2) → Paired (RowAt h'') (old.map fun p => Value.ref p.1) rs := by
          intro old rs hp
          induction hp with
          | nil => intro _; exact .nil
          | @cons p ps old rs h1 h2 ih =>
            intro hg
            obtain ⟨xs, n, e, hx⟩ := h1
            have hgp := hg p (List.mem_cons_self)
            rw [e] at hgp
            exact .cons ⟨_, xs, rfl, ⟨_, hgp, rfl, _, rfl⟩, Paired.mono' (fun _ _ q => PairAt.keep q hk) hx⟩ (ih fun p hp => hg p (List.mem_cons_of_mem _ hp))
        exact this hold hg
      refine seq1 (fun s' => ∃ m R vs h' tk, s' = { s with heap := h', toks := tk } ∧ Fr s.heap L h' m ∧ m (Str.ofString "rows") = some (.ref R) ∧ h'.IsList R vs ∧ Paired (RowAt h') vs.toList (rowsL ps) ∧ s.heap.get? R = none) (wpAny_If (condF (st.2.isEmpty) ?_ fun h₅ tk₅ htk₅ hk₅ => ?_)) ?_
      · k_steps
        refine last_item (v := .ref D) ⟨_, (N.get (o := listOf vs nr) (by simp)), rfl, _, rfl⟩ (by rw [hvl]; omega) hlast ?_ (by with_unfolding_all rfl)
        k_steps
        rename_i D' h₆ F₆ N₆ ap₆ hk₆
        unfold Stop
        obtain ⟨as1, ra⟩ := reads_row (h := h₆) (v := .ref D) (ps := st.2) ⟨D, ds, rfl, ⟨_, (N₆.get (o := listOf ds nd) (by simp)), rfl, _, rfl⟩, Paired.mono' (fun _ _ q => PairAt.keep q F₆.keep) hds⟩
        obtain ⟨as2, rb⟩ := reads_row (h := h₆) (v := .ref D') (ps := []) ⟨D', #[], rfl, ⟨_, (N₆.get (o := listOf #[] 0) (by simp)), rfl, _, rfl⟩, .nil⟩
        refine eq_dataH ra rb (shaped_row (hst ▸ rfold_low hlow)) (shaped_row (by simp)) (by show unt + 3 + 64 < 9900; omega) ?_
        k_steps
        exact ⟨eqv_row_nil _, _, _, rfl, hk₆⟩
      · replace F := frKept F hk₅
        replace N := newsKept N hk₅
        clear hk₅ htk₅
        by_cases hem : st.2.isEmpty = true
        · rw [if_pos hem]
          k_steps
          unfold Stop
          refine Copied.pop_at (N.get (o := listOf vs nr) (by simp)) hlast (fun h₇ hs₇ ho₇ => ?_) (by rw [sizeLine_eq, hvl]; omega)
          have hR := N (R, listOf vs nr) (by simp)
          have F₇ := frBut F hs₇.extBut hR.2.1 hR.2.2
          have hg : ∀ p ∈ old, h₇.get? p.1 = some p.2 := fun p hp => hs₇.extBut _ _ (hap3 p hp) (N p (by simp [hp])).1
          have N₇ := @News.nil s.heap h₇ L
          clear F N hs₇
          k_steps
          refine ⟨rfl, _, R, vs.pop, h₇, _, rfl, F₇, rfl, ⟨_, ho₇, rfl, _, rfl⟩, ?_, hR.2.2⟩
          unfold rowsL
          rw [← hst, if_pos hem, Array.toList_pop, hvs, List.dropLast_concat]
          exact hrows h₇ F₇.keep hg
        · rw [if_neg hem]
          refine wpAny_execs_nil ⟨rfl, _, R, vs, h₅, _, rfl, F, rfl, ⟨_, (N.get (o := listOf vs nr) (by simp)), rfl, _, rfl⟩, ?_, (N (R, listOf vs nr) (by simp)).2.2⟩
          unfold rowsL
          rw [← hst, if_neg hem, hvs]
          exact (hrows h₅ F.keep fun p hp => (N p (by simp [hp])).1).snoc ⟨D, ds, rfl, ⟨_, (N.get (o := listOf ds nd) (by simp)), rfl, _, rfl⟩, Paired.mono' (fun _ _ q => PairAt.keep q F.keep) hds⟩
      · clear F N hr
        rintro s' ⟨m, R, vs, h', tk, rfl, F, hr, hl, hp, hR⟩
        have F := frPin F hr
        have N := @News.nil s.heap h' L
        k_steps
        exact hret R vs _ _ hR F.keep hl hp
end

section
open PySem PySem.W PyProof.Rows PySem.Calls
set_option maxRecDepth 100000
set_option maxHeartbeats 8000000

def Okc (c : Nat) : Prop := c < 128 ∧ (Unicode.isSpace c = true → c = 32)

noncomputable def txt0 : List Nat := [97, 42, 42, 61, 55, 44, 34, 98, 44, 92, 34, 92, 34, 92, 99, 92, 92, 34, 44, 32, 47, 47, 61, 46, 46, 46, 45, 62, 33, 61]
theorem txt0_eq : S txt0 = Str.ofString "a**=7,\"b,\\\"\\\"\\c\\\\\", //=...->!=" := by decide +kernel
theorem txt0_ok : ∀ c ∈ txt0, Okc c := by unfold Okc; decide +kernel
theorem ok61 : Okc 61 := by unfold Okc; decide +kernel
theorem k_61 : Str.ofString "=" = S [61] := by decide +kernel
noncomputable def sg : List Nat := [33, 37, 38, 40, 41, 42, 43, 44, 45, 46, 47, 58, 59, 60, 61, 62, 64, 91, 93, 94, 123, 124, 125, 126, 44, 39, 32, 97, 55, 34, 34, 92]
theorem sg_eq : Str.ofString "!%&()*+,-./:;<=>\x40[]^{|}~,' a7\"\"\\" = S sg := by decide +kernel
theorem sg_ok : ∀ c ∈ sg, Okc c := by unfold Okc; decide +kernel
theorem sign_ok (x : Int) : ∃ c, Txt.item (Str.ofString "!%&()*+,-./:;<=>\x40[]^{|}~,' a7\"\"\\") (x.fmod 32) = S [c] ∧ Okc c := by
  have h0 : 0 ≤ x.fmod 32 := Int.fmod_nonneg_of_pos x (by decide)
  have h1 : x.fmod 32 < 32 := Int.fmod_lt_of_pos x (by decide)
  obtain ⟨k, hk⟩ := Int.eq_ofNat_of_zero_le h0
  rw [hk] at h1 ⊢
  have hk32 : k < sg.length := by show k < 32; omega
  refine ⟨sg[k], ?_, sg_ok _ (List.getElem_mem _)⟩
  rw [sg_eq]
  exact item_S sg k _ (List.getElem?_eq_getElem hk32)
def TInv (s : Shared) (L I a : Addr) (as : Array Value) (oa : Obj) (n : Nat) (s' : Shared) : Prop :=
  ∃ (i : Nat) (m : Str → Option Value) (oI : Obj) (h' : Heap) (tk : Nat) (l : List Nat) (t ts : Tok),
    n = as.size + 1 - i ∧ i ≤ as.size ∧ s' = { s with heap := h', toks := tk } ∧ Fr s.heap L h' m ∧ News s.heap L h' [(I, oI), (a, oa)] ∧
    oI.cls = .type "list_iterator" ∧ oI.data = .fields #[.ref a, .int i 0] ∧ m (Str.ofString "text") = some (.str (S l) t) ∧ m (Str.ofString "signs") = some (.str (Str.ofString "!%&()*+,-./:;<=>\x40[]^{|}~,' a7\"\"\\") ts) ∧
    l.length ≤ 40 + 4 * i ∧ (∀ c ∈ l, Okc c)

theorem c_text {w : World} {mean : ExcName → Option Value} {mg mb : Str → Option Value} {A : Around} {s : Shared} {sa : Addr} {svs : List Value} {ws : List Int} {Q E : Value → Shared → Prop}
   (X : (hd.heap_39 w.params).In s.heap) (T : TopAt mean mg mb s.heap) (hA : A.depth < 500) (hh : A.handled = none) (hsl : s.heap.IsList sa svs.toArray) (hsi : IntsAre svs ws) (hn : ws.length ≤ 63)
   (hret : ∀ l t h' tk, Kept s.heap h' → l.length ≤ 100 → (∀ c ∈ l, Okc c) → Q (.str (S l) t) { s with heap := h', toks := tk }) :
   wpAny (model PySem.Challenge.rw_mj0149_01.row.prog w) A (call (.ref 29) [.ref sa]) Q E s := by
  k_with_none
  obtain ⟨hdl, dp, fr, gd, unt⟩ := A
  have hh' : hdl = none := hh
  subst hh'
  have hA' : dp < 500 := hA
  revert X T; k_fill; intro X T
  refine' enter X T ?k6 ?k7 ?k8 ?k9 ?kB ?_ ?c2 ?c3 ?c4 ?c5
  (case k6 => k_is); (case k7 => k_is); (case k8 => simp only [recursionLimit]; omega); (case k9 => exact BindsTo.of_eq rfl); (case c5 => decide); (case kB => exact locs rfl); (case c2 => exact rfl); (case c3 => exact rfl); (case c4 => exact rfl)
  intro L h₁ m tk₁ htk₁ hm F
  have ht : m (Str.ofString "script") = some (.ref sa) := by rw [hm]; rfl
  clear hm
  have F := frPin F ht
  have N := @News.nil s.heap h₁ L
  refine seq (pre := [_, _]) (fun s' => ∃ m t ts h' tk, s' = { s with heap := h', toks := tk } ∧ Fr s.heap L h' m ∧ m (Str.ofString "script") = some (.ref sa) ∧
    m (Str.ofString "signs") = some (.str (Str.ofString "!%&()*+,-./:;<=>\x40[]^{|}~,' a7\"\"\\") ts) ∧ m (Str.ofString "text") = some (.str (Str.ofString "a**=7,\"b,\\\"\\\"\\c\\\\\", //=...->!=") t)) ?_ ?_
  · k_steps
    refine ⟨rfl, _, ?t1, ?t2, _, _, rfl, (by assumption), rfl, ?h1, ?h2⟩
    case h1 => exact rfl
    case h2 => exact rfl
  · clear F N ht
    rintro s' ⟨m, t, ts, h', tk, rfl, F, ht, hsg, htx⟩
    refine seq1 (fun s' => ∃ m t l h' tk, s' = { s with heap := h', toks := tk } ∧ Fr s.heap L h' m ∧ m (Str.ofString "text") = some (.str (S l) t) ∧ l.length ≤ 100 ∧ (∀ c ∈ l, Okc c)) ?_ ?_
    · have F := frPin3 F ht hsg htx
      have N := @News.nil s.heap h' L
      have hsl' : h'.IsList sa svs.toArray := hsl.at fun o e => F.keep _ o e
      refine wpAny_For ?_
      k_steps
      rename_i D vs h₂ F₂ N₂ hI₂ hC₂ hL₂ _
      skip
      have hvl : vs.length ≤ 12 := by rw [hI₂.length, hC₂]; omega
      have hlD : h₂.IsList D vs.toArray := ⟨_, N₂.get (.head _), rfl, _, rfl⟩
      refine wpAny_pyIter_list hlD ?_
      have hDI : D < h₂.objs.size := Heap.lt_size (N₂.get (.head _))
      have hIL : h₂.objs.size ≠ L := Nat.ne_of_gt F₂.ns.lt
      have hI0 : s.heap.get? h₂.objs.size = none := keptNone F₂.keep (sizeNone h₂)
      generalize hI : h₂.objs.size = I at *
      refine forF (TInv s L I D vs.toArray (listOf vs.toArray 0)) ?_ (vs.toArray.size + 1) ?_
      · clear F₂ N₂ ht hsg htx hI hlD hsl'
        rintro n s' ⟨i, m, oI, h', tk, l, t, ts, rfl, hi, rfl, F, N, hc1, hc2, htx, hsg, hll, hok⟩
        have hit : h'.IsListIter I D i := ⟨oI, N.get (.head _), hc1, hc2⟩
        have hlD : h'.IsList D vs.toArray := ⟨_, N.get (.tail _ (.head _)), rfl, _, rfl⟩
        cases hc : vs.toArray[i]? with
        | none =>
          refine wpAny_pyNext_list_end rfl hit hlD hc fun h₃ he₃ => ?_
          refine ⟨rfl, m, t, l, h₃, _, rfl, frBut F he₃ hIL hI0, htx, ?_, hok⟩
          have : vs.toArray.size ≤ 12 := by simpa using hvl
          omega
        | some v =>
          have hiv : i < vs.toArray.size := by
            rcases Nat.lt_or_ge i vs.toArray.size with h | h
            · exact h
            · rw [Array.getElem?_eq_none h] at hc; cases hc
          have hi12 : i < 12 := by
            have : vs.toArray.size ≤ 12 := by simpa using hvl
            omega
          refine wpAny_pyNext_list_item hit hlD hc fun h₃ hit₃ hs₃ => ?_
          obtain ⟨oJ, ho1, ho2, ho3⟩ := hit₃
          have F₃ := frBut F hs₃.extBut hIL hI0
          have N₃ : News s.heap L h₃ [(I, oJ), (D, listOf vs.toArray 0)] := news1 ho1 hIL hI0 (newsBut (newsTail N) hs₃.extBut (by simp; exact Nat.ne_of_lt hDI))
          have F₄ := frPin2 F₃ htx hsg
          clear F F₃ N htx hsg hit hs₃ ho1 hlD
          obtain ⟨x, u, rfl⟩ : ∃ x u, v = .int x u := hI₂.allInts v (Array.mem_of_getElem? hc)
          dsimp only
          refine stN F₄ N₃ fun h₅ F₅ N₅ => ?_
          clear F₄ N₃
          have hS1 : (S l).length ≤ 100 := by rw [S_length]; omega
          obtain ⟨cc, hcc, hcok⟩ := sign_ok x
          k_steps
          all_goals (clear X T)
          all_goals (simp only [hcc, k_61, S_append] at *)
          all_goals (refine ⟨.inl rfl, vs.toArray.size + 1 - (i + 1), by omega, i + 1, _, oJ, _, _, _, _, _, rfl, hiv, rfl, (by assumption), newsTail (by assumption), ho2, ho3, rfl, rfl, ?_, ?_⟩)
          all_goals first
            | (simp only [List.length_append, List.length_cons, List.length_nil]; omega)
            | (intro d hd; simp only [List.mem_append, List.mem_cons, List.not_mem_nil, or_false] at hd; rcases hd with hd | hd; · exact hok d hd
               · first | (subst hd; assumption) | (rcases hd with hd | hd <;> subst hd <;> first | assumption | exact ok61) | (rcases hd with (hd | hd) | hd <;> subst hd <;> first | assumption | exact ok61))
      · refine ⟨0, _, { cls := .type "list_iterator", data := .fields #[.ref D, .int 0 0] }, _, _, txt0, t, ts, rfl, Nat.zero_le _, rfl, F₂.push _, ?_, rfl, rfl, txt0_eq ▸ rfl, rfl, by decide, txt0_ok⟩
        have := N₂.push F₂ { cls := .type "list_iterator", data := .fields #[.ref D, .int 0 0] }
        rw [hI] at this
        exact this
    · rintro s' ⟨m, t, l, h', tk, rfl, F, ht, hl, hc⟩
      have F := frPin F ht
      have N := @News.nil s.heap h' L
      k_steps
      exact hret _ _ _ _ F.keep hl hc
end

section
open PySem PySem.W PyProof.Rows PySem.Calls
set_option maxRecDepth 100000
set_option maxHeartbeats 8000000

theorem tbl3 : ∀ p ∈ tbl, ∀ c b d, p.1 = [c, b, d] → (c = 46 ∧ b = 46 ∧ d = 46) ∨ (d = 61 ∧ b = c ∧ (c = 42 ∨ c = 47 ∨ c = 60 ∨ c = 62)) := by
  have : ∀ p ∈ tbl, p.1.length = 3 → (p.1 = [46, 46, 46]) ∨ p.1 = [42, 42, 61] ∨ p.1 = [47, 47, 61] ∨ p.1 = [60, 60, 61] ∨ p.1 = [62, 62, 61] := by decide +kernel
  intro p hp c b d e
  have h := this p hp (by rw [e]; rfl)
  rw [e] at h
  simp only [List.cons.injEq, and_true] at h
  rcases h with ⟨rfl, rfl, rfl⟩ | ⟨rfl, rfl, rfl⟩ | ⟨rfl, rfl, rfl⟩ | ⟨rfl, rfl, rfl⟩ | ⟨rfl, rfl, rfl⟩ <;> decide
theorem in3 (c b d : Nat) : inTbl [c, b, d] = decide ((c = 46 ∧ b = 46 ∧ d = 46) ∨ (d = 61 ∧ b = c ∧ (c = 42 ∨ c = 47 ∨ c = 60 ∨ c = 62))) := by
  rw [Bool.eq_iff_iff, decide_eq_true_eq]
  constructor
  · intro h
    obtain ⟨p, hp, e⟩ := List.any_eq_true.mp h
    exact tbl3 p hp c b d (of_decide_eq_true e).symm
  · rintro (⟨rfl, rfl, rfl⟩ | ⟨rfl, rfl, h⟩)
    · decide +kernel
    · rcases h with rfl | rfl | rfl | rfl <;> decide +kernel
noncomputable abbrev eqs : List Nat := [33, 37, 38, 42, 43, 45, 47, 58, 60, 61, 62, 64, 94, 124]
theorem tbl2 : ∀ p ∈ tbl, ∀ c b, p.1 = [c, b] → (b = 61 ∧ c ∈ eqs) ∨ (b = c ∧ (c = 42 ∨ c = 47 ∨ c = 60 ∨ c = 62)) ∨ (c = 45 ∧ b = 62) := by
  have : ∀ p ∈ tbl, p.1.length = 2 → (p.1 ∈ eqs.map fun c => [c, 61]) ∨ p.1 = [42, 42] ∨ p.1 = [47, 47] ∨ p.1 = [60, 60] ∨ p.1 = [62, 62] ∨ p.1 = [45, 62] := by decide +kernel
  intro p hp c b e
  have h := this p hp (by rw [e]; rfl)
  rw [e] at h
  rcases h with h | h | h | h | h | h
  · obtain ⟨q, hq, e2⟩ := List.mem_map.mp h
    simp only [List.cons.injEq, and_true] at e2
    obtain ⟨rfl, rfl⟩ := e2
    exact .inl ⟨rfl, hq⟩
  all_goals (simp only [List.cons.injEq, and_true] at h; obtain ⟨rfl, rfl⟩ := h; decide)
theorem in2 (c b : Nat) : inTbl [c, b] = decide ((b = 61 ∧ c ∈ eqs) ∨ (b = c ∧ (c = 42 ∨ c = 47 ∨ c = 60 ∨ c = 62)) ∨ (c = 45 ∧ b = 62)) := by
  rw [Bool.eq_iff_iff, decide_eq_true_eq]
  constructor
  · intro h
    obtain ⟨p, hp, e⟩ := List.any_eq_true.mp h
    exact tbl2 p hp c b (of_decide_eq_true e).symm
  · rintro (⟨rfl, h⟩ | ⟨rfl, h⟩ | ⟨rfl, rfl⟩)
    · have : ∀ c ∈ eqs, inTbl [c, 61] = true := by decide +kernel
      exact this c h
    · rcases h with rfl | rfl | rfl | rfl <;> decide +kernel
    · decide +kernel

/-- cutS by its first three signs -/
theorem cutS_1 (c : Nat) : cutS [c] = [c] := by simp [cutS]
theorem cutS_2 (c b : Nat) : cutS [c, b] = if c = 45 ∧ b = 62 then [45, 62] else if (c = 42 ∨ c = 47 ∨ c = 60 ∨ c = 62) ∧ b = c then [c, c] else if b = 61 ∧ c ∈ eqs then [c, 61] else [c] := by
  unfold cutS
  simp only [List.take_succ_cons, List.take_zero, List.take_nil, List.headD_cons, List.drop_succ_cons, List.drop_zero, List.cons.injEq, and_true, List.mem_cons, List.not_mem_nil, or_false, reduceCtorEq, and_false, if_false]
  by_cases h2 : c = 45 ∧ b = 62
  · rw [if_pos h2, if_pos h2]
  · rw [if_neg h2, if_neg h2]
    by_cases h3 : (c = 42 ∨ c = 47 ∨ c = 60 ∨ c = 62) ∧ b = c
    · rw [if_pos h3, if_pos h3]
      simp
    · rw [if_neg h3, if_neg h3]
      simp only [List.length_cons, List.length_nil, Nat.zero_add, List.drop_succ_cons, List.drop_zero, List.take_succ_cons, List.take_nil, List.take_zero, List.cons.injEq, and_true, List.cons_append, List.nil_append]
      by_cases h4 : b = 61
      · simp [h4]
      · simp [h4]
theorem cutS_3 (c b d : Nat) (t : List Nat) : cutS (c :: b :: d :: t) = if c = 46 ∧ b = 46 ∧ d = 46 then [46, 46, 46] else if c = 45 ∧ b = 62 then [45, 62] else
    if (c = 42 ∨ c = 47 ∨ c = 60 ∨ c = 62) ∧ b = c then (if d = 61 then [c, c, 61] else [c, c]) else if b = 61 ∧ c ∈ eqs then [c, 61] else [c] := by
  unfold cutS
  simp only [List.take_succ_cons, List.take_zero, List.headD_cons, List.drop_succ_cons, List.drop_zero, List.cons.injEq, and_true, List.mem_cons, List.not_mem_nil, or_false]
  by_cases h1 : c = 46 ∧ b = 46 ∧ d = 46
  · rw [if_pos h1, if_pos h1]
  · rw [if_neg h1, if_neg h1]
    by_cases h2 : c = 45 ∧ b = 62
    · rw [if_pos h2, if_pos h2]
    · rw [if_neg h2, if_neg h2]
      by_cases h3 : (c = 42 ∨ c = 47 ∨ c = 60 ∨ c = 62) ∧ b = c
      · rw [if_pos h3, if_pos h3]
        simp only [List.length_cons, List.length_nil, Nat.zero_add, Nat.reduceAdd, List.drop_succ_cons, List.drop_zero, List.take_succ_cons, List.take_zero, List.cons.injEq, and_true, List.cons_append, List.nil_append]
        by_cases h4 : d = 61
        · rw [if_pos h4, if_pos]
          refine ⟨?_, h4⟩
          rcases h3.1 with rfl | rfl | rfl | rfl <;> decide
        · rw [if_neg h4, if_neg (fun h => h4 h.2)]
      · rw [if_neg h3, if_neg h3]
        simp only [List.length_cons, List.length_nil, Nat.zero_add, List.drop_succ_cons, List.drop_zero, List.take_succ_cons, List.take_zero, List.cons.injEq, and_true, List.cons_append, List.nil_append]
        by_cases h4 : b = 61
        · simp [h4]
        · simp [h4]

theorem cutT_eq (c : Nat) (r : List Nat) : cutT (c :: r) = cutS (c :: r) := by
  match r with
  | [] =>
    have h1 : cutT [c] = [c] := by unfold cutT; (repeat' split) <;> simp
    rw [h1, cutS_1]
  | [b] =>
    have h1 : cutT [c, b] = if inTbl [c, b] then [c, b] else [c] := by
      unfold cutT
      simp only [List.take_succ_cons, List.take_nil, List.headD_cons]
      split <;> rfl
    rw [h1, in2, cutS_2]
    by_cases h2 : c = 45 ∧ b = 62
    · rw [if_pos h2, if_pos (decide_eq_true (.inr (.inr h2))), h2.1, h2.2]
    · rw [if_neg h2]
      by_cases h3 : (c = 42 ∨ c = 47 ∨ c = 60 ∨ c = 62) ∧ b = c
      · rw [if_pos h3, if_pos (decide_eq_true (.inr (.inl ⟨h3.2, h3.1⟩))), h3.2]
      · rw [if_neg h3]
        by_cases h4 : b = 61 ∧ c ∈ eqs
        · rw [if_pos h4, if_pos (decide_eq_true (.inl h4)), h4.1]
        · rw [if_neg h4, if_neg]
          rw [decide_eq_true_eq]
          rintro (h | h | h)
          · exact h4 h
          · exact h3 ⟨h.2, h.1⟩
          · exact h2 h
  | b :: d :: t =>
    have h1 : cutT (c :: b :: d :: t) = if inTbl [c, b, d] then [c, b, d] else if inTbl [c, b] then [c, b] else [c] := rfl
    rw [h1, in3, in2, cutS_3]
    by_cases h0 : c = 46 ∧ b = 46 ∧ d = 46
    · rw [if_pos h0, if_pos (decide_eq_true (.inl h0)), h0.1, h0.2.1, h0.2.2]
    · rw [if_neg h0]
      by_cases h2 : c = 45 ∧ b = 62
      · rw [if_pos h2, if_neg, if_pos (decide_eq_true (.inr (.inr h2))), h2.1, h2.2]
        rw [decide_eq_true_eq]
        rintro (h | h)
        · exact h0 h
        · omega
      · rw [if_neg h2]
        by_cases h3 : (c = 42 ∨ c = 47 ∨ c = 60 ∨ c = 62) ∧ b = c
        · rw [if_pos h3]
          by_cases h8 : d = 61
          · rw [if_pos h8, if_pos (decide_eq_true (.inr ⟨h8, h3.2, h3.1⟩)), h3.2, h8]
          · rw [if_neg h8, if_neg, if_pos (decide_eq_true (.inr (.inl ⟨h3.2, h3.1⟩))), h3.2]
            rw [decide_eq_true_eq]
            rintro (h | h)
            · exact h0 h
            · exact h8 h.1
        · rw [if_neg h3, if_neg]
          · by_cases h4 : b = 61 ∧ c ∈ eqs
            · rw [if_pos h4, if_pos (decide_eq_true (.inl h4)), h4.1]
            · rw [if_neg h4, if_neg]
              rw [decide_eq_true_eq]
              rintro (h | h | h)
              · exact h4 h
              · exact h3 ⟨h.2, h.1⟩
              · exact h2 h
          · rw [decide_eq_true_eq]
            rintro (h | h)
            · exact h0 h
            · exact h3 ⟨h.2.2, h.2.1⟩

theorem snum12 (w : List Nat) : snum w = 12 ↔ w = [44] := by
  unfold snum
  by_cases h : w ∈ rowL
  · rw [if_pos h]
    have : ∀ w ∈ rowL, ((7 : Int) + (rowL.idxOf w : Nat) = 12 ↔ w = [44]) := by decide +kernel
    exact this w h
  · rw [if_neg h]
    constructor
    · intro e; exact absurd e (by decide)
    · rintro rfl; exact absurd (by decide) h
theorem tnum_eq (w : List Nat) : tnum w = snum w := by
  unfold snum
  by_cases h : w ∈ rowL
  · rw [if_pos h]
    have : ∀ w ∈ rowL, tnum w = (7 : Int) + (rowL.idxOf w : Nat) := by decide +kernel
    exact this w h
  · rw [if_neg h]
    unfold tnum
    have : tbl.find? (fun p => decide (w = p.1)) = none := by
      rw [List.find?_eq_none]
      intro p hp
      have h2 : ∀ p ∈ tbl, p.1 ∈ rowL := by decide +kernel
      simp only [decide_eq_true_eq]
      intro e
      exact h (e ▸ h2 p hp)
    rw [this]
end

section
open PySem PySem.W PyProof.Rows PySem.Calls
set_option maxRecDepth 100000
set_option maxHeartbeats 8000000

theorem cutS_pre (c : Nat) (r : List Nat) : ∃ k, 1 ≤ k ∧ cutS (c :: r) = (c :: r).take k ∧ (cutS (c :: r)).length = k := by
  match r with
  | [] => exact ⟨1, by decide, by rw [cutS_1]; rfl, by rw [cutS_1]; rfl⟩
  | [b] =>
    rw [cutS_2]
    by_cases h2 : c = 45 ∧ b = 62
    · rw [if_pos h2]; exact ⟨2, by decide, by rw [h2.1, h2.2]; rfl, rfl⟩
    · rw [if_neg h2]
      by_cases h3 : (c = 42 ∨ c = 47 ∨ c = 60 ∨ c = 62) ∧ b = c
      · rw [if_pos h3]; exact ⟨2, by decide, by rw [h3.2]; rfl, rfl⟩
      · rw [if_neg h3]
        by_cases h4 : b = 61 ∧ c ∈ eqs
        · rw [if_pos h4]; exact ⟨2, by decide, by rw [h4.1]; rfl, rfl⟩
        · rw [if_neg h4]; exact ⟨1, by decide, rfl, rfl⟩
  | b :: d :: t =>
    rw [cutS_3]
    by_cases h0 : c = 46 ∧ b = 46 ∧ d = 46
    · rw [if_pos h0]; exact ⟨3, by decide, by rw [h0.1, h0.2.1, h0.2.2]; rfl, rfl⟩
    · rw [if_neg h0]
      by_cases h2 : c = 45 ∧ b = 62
      · rw [if_pos h2]; exact ⟨2, by decide, by rw [h2.1, h2.2]; rfl, rfl⟩
      · rw [if_neg h2]
        by_cases h3 : (c = 42 ∨ c = 47 ∨ c = 60 ∨ c = 62) ∧ b = c
        · rw [if_pos h3]
          by_cases h8 : d = 61
          · rw [if_pos h8]; exact ⟨3, by decide, by rw [h3.2, h8]; rfl, rfl⟩
          · rw [if_neg h8]; exact ⟨2, by decide, by rw [h3.2]; rfl, rfl⟩
        · rw [if_neg h3]
          by_cases h4 : b = 61 ∧ c ∈ eqs
          · rw [if_pos h4]; exact ⟨2, by decide, by rw [h4.1]; rfl, rfl⟩
          · rw [if_neg h4]; exact ⟨1, by decide, rfl, rfl⟩
theorem cutS_split (c : Nat) (r : List Nat) : c :: r = cutS (c :: r) ++ (c :: r).drop (cutS (c :: r)).length := by
  obtain ⟨k, _, h1, h2⟩ := cutS_pre c r
  rw [h2]
  conv => lhs; rw [← List.take_append_drop k (c :: r)]
  rw [← h1]
theorem cutS_ne (c : Nat) (r : List Nat) : cutS (c :: r) ≠ [] := by
  obtain ⟨k, hk, h1, h2⟩ := cutS_pre c r
  intro e
  rw [e] at h2
  simp at h2
  omega
theorem cutS_44 (r : List Nat) : cutS (44 :: r) = [44] := by
  match r with
  | [] => rfl
  | [b] => rw [cutS_2]; simp
  | b :: d :: t => rw [cutS_3]; simp
theorem cutS_32 (r : List Nat) : cutS (32 :: r) = [32] := by
  match r with
  | [] => rfl
  | [b] => rw [cutS_2]; simp
  | b :: d :: t => rw [cutS_3]; simp
theorem cutS_signs (c : Nat) (r : List Nat) (h1 : c ≠ 34) (h2 : c ≠ 44) : ∀ d ∈ cutS (c :: r), d ≠ 34 ∧ d ≠ 44 := by
  match r with
  | [] => rw [cutS_1]; simp [h1, h2]
  | [b] =>
    rw [cutS_2]
    (repeat' split) <;> simp [h1, h2]
  | b :: d :: t =>
    rw [cutS_3]
    (repeat' split) <;> simp [h1, h2]
/-- a comma or a blank behind a token changes nothing -/
theorem cutS_stop (e : Nat) (he : e = 44 ∨ e = 32) (t : List Nat) (c : Nat) (r : List Nat) : cutS (c :: r ++ e :: t) = cutS (c :: r) := by
  match r with
  | [] =>
    rw [cutS_1]
    have h2 : ¬ (c = 45 ∧ e = 62) := by omega
    have h3 : ¬ ((c = 42 ∨ c = 47 ∨ c = 60 ∨ c = 62) ∧ e = c) := by omega
    have h4 : ¬ (e = 61 ∧ c ∈ eqs) := fun h => by omega
    match t with
    | [] => show cutS [c, e] = _; rw [cutS_2, if_neg h2, if_neg h3, if_neg h4]
    | f :: t =>
      show cutS (c :: e :: f :: t) = _
      rw [cutS_3, if_neg (by omega), if_neg h2, if_neg h3, if_neg h4]
  | [b] =>
    show cutS (c :: b :: e :: t) = _
    rw [cutS_2, cutS_3, if_neg (by omega), if_neg (by omega : ¬ e = 61)]
  | b :: d :: r =>
    show cutS (c :: b :: d :: (r ++ e :: t)) = _
    rw [cutS_3, cutS_3]

theorem fuel (n : Nat) : ∀ (m : Nat) (y : List Nat), y.length ≤ n → y.length ≤ m → wordsGo cutS n y = wordsGo cutS m y := by
  induction n with
  | zero =>
    intro m y h1 h2
    have : y = [] := List.eq_nil_of_length_eq_zero (by omega)
    subst this
    cases m <;> rfl
  | succ n ih =>
    intro m y h1 h2
    match y, m with
    | [], 0 => rfl
    | [], m + 1 => rfl
    | c :: r, 0 => simp at h2
    | c :: r, m + 1 =>
      have hq := qscan_len r
      have hc := (cutS_len c r).1
      simp at h1 h2
      rw [wordsGo, wordsGo]
      rw [ih m (qscan r).2 (by omega) (by omega), ih m ((c :: r).drop (cutS (c :: r)).length) (by rw [List.length_drop, List.length_cons]; omega) (by rw [List.length_drop, List.length_cons]; omega)]
noncomputable abbrev W (y : List Nat) : List (List Nat) := wordsF cutS y
theorem W_nil : W [] = [] := rfl
theorem W_34 (r : List Nat) : W (34 :: r) = (34 :: (qscan r).1) :: W (qscan r).2 := by
  show wordsGo cutS (r.length + 1) (34 :: r) = _
  rw [wordsGo, if_pos rfl, fuel r.length (qscan r).2.length _ (by have := qscan_len r; omega) (Nat.le_refl _)]
  rfl
theorem W_cut (c : Nat) (r : List Nat) (h : c ≠ 34) : W (c :: r) = cutS (c :: r) :: W ((c :: r).drop (cutS (c :: r)).length) := by
  show wordsGo cutS (r.length + 1) (c :: r) = _
  have hc := (cutS_len c r).1
  rw [wordsGo, if_neg h, fuel r.length ((c :: r).drop (cutS (c :: r)).length).length _ (by rw [List.length_drop, List.length_cons]; omega) (Nat.le_refl _)]
  rfl
theorem W_ind {P : List Nat → Prop} (h0 : P []) (h34 : ∀ r, P (qscan r).2 → P (34 :: r)) (hc : ∀ c r, c ≠ 34 → P ((c :: r).drop (cutS (c :: r)).length) → P (c :: r)) : ∀ y, P y := by
  have : ∀ n (y : List Nat), y.length ≤ n → P y := by
    intro n
    induction n with
    | zero => intro y h; rw [List.eq_nil_of_length_eq_zero (Nat.le_zero.mp h)]; exact h0
    | succ n ih =>
      intro y h
      match y with
      | [] => exact h0
      | c :: r =>
        simp at h
        by_cases q : c = 34
        · subst q; exact h34 r (ih _ (by have := qscan_len r; omega))
        · have := (cutS_len c r).1
          exact hc c r q (ih _ (by rw [List.length_drop, List.length_cons]; omega))
  exact fun y => this _ y (Nat.le_refl _)

/-- words cut into rows at the commas -/
noncomputable def segW : List (List Nat) → List (List Nat) × List (List (List Nat))
  | [] => ([], [])
  | w :: r => if w = [44] then ([], (segW r).1 :: (segW r).2) else (w :: (segW r).1, (segW r).2)

theorem rows_seg (f : List Nat → Int × List Nat) (hf : ∀ w, (f w).1 = 12 ↔ w = [44]) : ∀ (ws : List (List Nat)) (d : List Prs) (c : Prs),
    ((ws.map f).foldl rstep (d, c)).1 ++ [((ws.map f).foldl rstep (d, c)).2] = d ++ (c ++ (segW ws).1.map f) :: (segW ws).2.map (·.map f)
  | [], d, c => by simp [segW]
  | w :: r, d, c => by
    rw [List.map_cons, List.foldl_cons, rstep, segW]
    by_cases h : w = [44]
    · rw [if_pos ((hf w).mpr h), if_pos h]
      have := rows_seg f hf r (d ++ [c]) []
      dsimp only at this ⊢
      rw [this]
      simp
    · rw [if_neg (fun e => h ((hf w).mp e)), if_neg h]
      have := rows_seg f hf r d (c ++ [f w])
      dsimp only at this ⊢
      rw [this]
      simp

theorem pq (r : List Nat) : ∀ (res : List (List Nat)) (part : List Nat), 
    (r.foldl pstep ⟨res, part, false, true⟩).res = ((qscan r).2.foldl pstep ⟨res, part ++ (qscan r).1, false, false⟩).res ∧
    (r.foldl pstep ⟨res, part, false, true⟩).part = ((qscan r).2.foldl pstep ⟨res, part ++ (qscan r).1, false, false⟩).part := by
  induction r using qscan.induct with
  | case1 => intro res part; simp [qscan]
  | case2 => intro res part; simp [qscan, pstep]
  | case3 => intro res part; simp [qscan, pstep]
  | case4 c h1 h2 => intro res part; simp [qscan, pstep, h1, h2]
  | case5 d r => intro res part; simp [qscan, pstep]
  | case6 d r h ih => intro res part; have := ih res (part ++ [d]); simp [qscan, pstep]; simpa using this
  | case7 c d r h1 h2 ih => intro res part; have := ih res (part ++ [c]); simp [qscan, h1, h2]; simpa [pstep, h1, h2] using this

theorem pplain (res : List (List Nat)) : ∀ (w part : List Nat), (∀ d ∈ w, d ≠ 34 ∧ d ≠ 44) → w.foldl pstep ⟨res, part, false, false⟩ = ⟨res, part ++ w, false, false⟩
  | [], part, _ => by simp
  | d :: w, part, h => by
    have hd := h d (List.mem_cons_self)
    have e : pstep ⟨res, part, false, false⟩ d = ⟨res, part ++ [d], false, false⟩ := by simp [pstep, hd.1, hd.2]
    rw [List.foldl_cons, e, pplain res w _ fun x hx => h x (List.mem_cons_of_mem _ hx)]
    simp

theorem parse_seg : ∀ (y : List Nat) (res : List (List Nat)) (part : List Nat),
    (y.foldl pstep ⟨res, part, false, false⟩).res ++ [(y.foldl pstep ⟨res, part, false, false⟩).part] = res ++ (part ++ (segW (W y)).1.flatten) :: (segW (W y)).2.map List.flatten := by
  refine W_ind ?_ ?_ ?_
  · intro res part; simp [W_nil, segW]
  · intro r ih res part
    have e : pstep ⟨res, part, false, false⟩ 34 = ⟨res, part ++ [34], false, true⟩ := by simp [pstep]
    rw [List.foldl_cons, e, (pq r _ _).1, (pq r _ _).2, ih, W_34, segW, if_neg (by simp)]
    simp
  · intro c r h34 ih res part
    rw [W_cut c r h34, segW]
    by_cases h44 : c = 44
    · subst h44
      rw [cutS_44] at ih ⊢
      rw [if_pos rfl, List.foldl_cons]
      have e : pstep ⟨res, part, false, false⟩ 44 = ⟨res ++ [part], [], false, false⟩ := by simp [pstep]
      rw [e]
      simp only [List.length_cons, List.length_nil, Nat.zero_add, List.drop_succ_cons, List.drop_zero] at ih ⊢
      rw [ih]
      simp
    · have hs := cutS_signs c r h34 h44
      have hne : cutS (c :: r) ≠ [44] := fun e => by rw [e] at hs; exact (hs 44 (by simp)).2 rfl
      rw [if_neg hne]
      have e2 := cutS_split c r
      generalize hw : cutS (c :: r) = w at *
      generalize hrest : (c :: r).drop w.length = rest at *
      rw [e2, List.foldl_append, pplain res w part hs, ih]
      simp
end

section
open PySem PySem.W PyProof.Rows PySem.Calls
set_option maxRecDepth 100000
set_option maxHeartbeats 8000000

theorem words_eq : ∀ (n : Nat) (y : List Nat), wordsGo cutT n y = wordsGo cutS n y
  | 0, _ => rfl
  | n + 1, [] => rfl
  | n + 1, c :: r => by rw [wordsGo, wordsGo, cutT_eq, words_eq n, words_eq n]
theorem byT_eq (y : List Nat) : byT y = byS y := by
  unfold byT byS wordsF
  rw [words_eq]
  exact List.map_congr_left fun w _ => by rw [tnum_eq]
noncomputable def fS (w : List Nat) : Int × List Nat := (snum w, w)
theorem byS_eq (y : List Nat) : byS y = (W y).map fS := rfl

theorem qscan_mem : ∀ r : List Nat, (∀ c ∈ (qscan r).1, c ∈ r) ∧ ∀ c ∈ (qscan r).2, c ∈ r := by
  intro r
  induction r using qscan.induct with
  | case1 => simp [qscan]
  | case2 => simp [qscan]
  | case3 => simp [qscan]
  | case4 c h1 h2 => simp [qscan, h1, h2]
  | case5 d r => simp [qscan]; intro c h; exact .inr (.inr h)
  | case6 d r h ih =>
    simp only [qscan, if_neg h, if_true]
    refine ⟨fun c hc => ?_, fun c hc => ?_⟩
    · rcases List.mem_cons.mp hc with rfl | hc
      · simp
      · simp [ih.1 c hc]
    · simp [ih.2 c hc]
  | case7 c d r h1 h2 ih =>
    simp only [qscan, if_neg h1, if_neg h2]
    refine ⟨fun e hc => ?_, fun e hc => ?_⟩
    · rcases List.mem_cons.mp hc with rfl | hc
      · simp
      · exact List.mem_cons_of_mem _ (ih.1 e hc)
    · exact List.mem_cons_of_mem _ (ih.2 e hc)
theorem W_mem : ∀ y : List Nat, ∀ w ∈ W y, w ≠ [] ∧ ∀ c ∈ w, c ∈ y := by
  refine W_ind ?_ ?_ ?_
  · intro w h; simp [W_nil] at h
  · intro r ih w hw
    rw [W_34] at hw
    have hq := qscan_mem r
    rcases List.mem_cons.mp hw with rfl | hw
    · refine ⟨by simp, fun c hc => ?_⟩
      rcases List.mem_cons.mp hc with rfl | hc
      · simp
      · exact List.mem_cons_of_mem _ (hq.1 c hc)
    · exact ⟨(ih w hw).1, fun c hc => List.mem_cons_of_mem _ (hq.2 c ((ih w hw).2 c hc))⟩
  · intro c r h34 ih w hw
    rw [W_cut c r h34] at hw
    have e2 := cutS_split c r
    rcases List.mem_cons.mp hw with rfl | hw
    · exact ⟨cutS_ne c r, fun d hd => by rw [e2]; exact List.mem_append_left _ hd⟩
    · exact ⟨(ih w hw).1, fun d hd => List.mem_of_mem_drop ((ih w hw).2 d hd)⟩
theorem segW_mem : ∀ ws : List (List Nat), (∀ w ∈ (segW ws).1, w ∈ ws) ∧ ∀ r ∈ (segW ws).2, ∀ w ∈ r, w ∈ ws
  | [] => by simp [segW]
  | w :: ws => by
    have ih := segW_mem ws
    rw [segW]
    split
    · refine ⟨by simp, fun r hr v hv => ?_⟩
      rcases List.mem_cons.mp hr with rfl | hr
      · exact List.mem_cons_of_mem _ (ih.1 v hv)
      · exact List.mem_cons_of_mem _ (ih.2 r hr v hv)
    · refine ⟨fun v hv => ?_, fun r hr v hv => List.mem_cons_of_mem _ (ih.2 r hr v hv)⟩
      rcases List.mem_cons.mp hv with rfl | hv
      · simp
      · exact List.mem_cons_of_mem _ (ih.1 v hv)

noncomputable abbrev allW (y : List Nat) : List (List (List Nat)) := (segW (W y)).1 :: (segW (W y)).2
theorem allW_mem (y : List Nat) : ∀ r ∈ allW y, ∀ w ∈ r, w ∈ W y := by
  intro r hr
  rcases List.mem_cons.mp hr with rfl | hr
  · exact (segW_mem _).1
  · exact (segW_mem _).2 r hr
noncomputable def dropE {α : Type} (L : List (List α)) : List (List α) := if (L.getLastD []).isEmpty then L.dropLast else L
theorem dropE_mem {α : Type} {L : List (List α)} : ∀ r ∈ dropE L, r ∈ L := by
  intro r hr
  unfold dropE at hr
  split at hr
  · exact List.dropLast_subset _ hr
  · exact hr
theorem dropE_map {α β : Type} (L : List (List α)) (g : List α → List β) (A : List (List β)) (b : List β) (hne : L ≠ []) (h : A ++ [b] = L.map g) (hg : ∀ r ∈ L, g r = [] ↔ r = []) :
    (if b.isEmpty then A else A ++ [b]) = (dropE L).map g := by
  obtain ⟨l, x, rfl⟩ : ∃ l x, L = l ++ [x] := ⟨L.dropLast, L.getLast hne, (List.dropLast_concat_getLast hne).symm⟩
  rw [List.map_append, List.map_cons, List.map_nil] at h
  obtain ⟨rfl, e⟩ := List.append_inj' h rfl
  simp only [List.cons.injEq, and_true] at e
  subst e
  unfold dropE
  have hx := hg x (by simp)
  have h1 : ((l ++ [x]).getLastD []).isEmpty = (g x).isEmpty := by
    rw [Bool.eq_iff_iff, List.isEmpty_iff, List.isEmpty_iff, hx]
    simp
  rw [h1]
  split
  · simp
  · simp
noncomputable abbrev rowsW (y : List Nat) : List (List (List Nat)) := dropE (allW y)
theorem rows_eq (y : List Nat) : rowsL (byS y) = (rowsW y).map (·.map fS) := by
  have h := rows_seg fS snum12 (W y) [] []
  refine dropE_map (allW y) (·.map fS) _ _ (by simp) ?_ (fun r _ => by simp)
  simpa [rfold, byS_eq] using h
theorem parse_eq (y : List Nat) : parseL y = (rowsW y).map List.flatten := by
  have h := parse_seg y [] []
  refine dropE_map (allW y) List.flatten _ _ (by simp) ?_ (fun r hr => ?_)
  · simpa [pinit] using h
  · constructor
    · intro e
      match r with
      | [] => rfl
      | w :: _ =>
        simp at e
        exact absurd e.1 (W_mem y w (allW_mem y _ hr w (by simp))).1
    · rintro rfl; rfl
theorem told_eq (y : List Nat) : (rowsL (byS y)).map (fun r => r.flatMap (·.2)) = parseL y := by
  rw [rows_eq, parse_eq, List.map_map]
  refine List.map_congr_left fun r _ => ?_
  show ((r.map fS).flatMap (·.2)) = r.flatten
  rw [List.flatMap_def, List.map_map]
  congr 1
  exact List.map_id r

theorem qscan_34 : ∀ l : List Nat, qscan (34 :: l) = ([34], l)
  | [] => by simp [qscan]
  | d :: r => by simp [qscan]
theorem qscan_cons (c : Nat) (h1 : c ≠ 34) (h2 : c ≠ 92) : ∀ l : List Nat, qscan (c :: l) = (c :: (qscan l).1, (qscan l).2)
  | [] => by simp [qscan, h1, h2]
  | d :: r => by rw [qscan, if_neg h1, if_neg h2]
theorem qs_un : ∀ l : List Nat, 34 ∉ l → 92 ∉ l → qscan l = (l, [])
  | [], _, _ => by simp [qscan]
  | c :: l, h1, h2 => by
    simp at h1 h2
    rw [qscan_cons c (fun e => h1.1 e.symm) (fun e => h2.1 e.symm), qs_un l h1.2 h2.2]
theorem qs_plain : ∀ r : List Nat, 92 ∉ r → (34 ∉ r ∧ qscan r = (r, [])) ∨ (r = (qscan r).1 ++ (qscan r).2 ∧ ∀ z, qscan ((qscan r).1 ++ z) = ((qscan r).1, z))
  | [], _ => .inl ⟨by simp, by simp [qscan]⟩
  | c :: l, h => by
    simp at h
    by_cases h1 : c = 34
    · subst h1
      right
      rw [qscan_34]
      exact ⟨rfl, fun z => qscan_34 z⟩
    · have h2 : c ≠ 92 := fun e => h.1 e.symm
      rw [qscan_cons c h1 h2]
      rcases qs_plain l h.2 with ⟨h3, h4⟩ | ⟨h3, h4⟩
      · left
        rw [h4]
        exact ⟨by simp; exact ⟨fun e => h1 e.symm, h3⟩, rfl⟩
      · right
        refine ⟨?_, fun z => ?_⟩
        · show c :: l = c :: ((qscan l).1 ++ (qscan l).2)
          rw [← h3]
        · show qscan (c :: ((qscan l).1 ++ z)) = _
          rw [qscan_cons c h1 h2, h4 z]

def RetOk (y : List Nat) : Prop := 92 ∉ y → (∃ t, y = (segW (W y)).1.flatten ++ t ∧ (t = [] ∨ ∃ u, t = 44 :: u)) ∧ W (segW (W y)).1.flatten = (segW (W y)).1 ∧ ∀ r ∈ (segW (W y)).2, W r.flatten = r
theorem retok : ∀ y, RetOk y := by
  refine W_ind ?_ ?_ ?_
  · intro _; exact ⟨⟨[], rfl, .inl rfl⟩, rfl, by simp [W_nil, segW]⟩
  · intro r ih h92
    simp at h92
    rw [W_34, segW, if_neg (by simp)]
    rcases qs_plain r h92 with ⟨h3, h4⟩ | ⟨h3, h4⟩
    · rw [h4]
      refine ⟨⟨[], by simp [W_nil, segW], .inl rfl⟩, ?_, by simp [W_nil, segW]⟩
      simp [W_nil, segW]
      rw [W_34, h4]; rfl
    · have h5 : 92 ∉ (qscan r).2 := fun h => h92 (by rw [h3]; exact List.mem_append_right _ h)
      obtain ⟨⟨t, h6, h7⟩, h8, h9⟩ := ih h5
      refine ⟨⟨t, ?_, h7⟩, ?_, h9⟩
      · show 34 :: r = (34 :: (qscan r).1) ++ (segW (W (qscan r).2)).1.flatten ++ t
        rw [List.append_assoc, ← h6]
        show 34 :: r = 34 :: ((qscan r).1 ++ (qscan r).2)
        rw [← h3]
      · show W (34 :: ((qscan r).1 ++ (segW (W (qscan r).2)).1.flatten)) = _
        rw [W_34, h4, h8]
  · intro c r h34 ih h92
    rw [W_cut c r h34, segW]
    by_cases h44 : c = 44
    · subst h44
      rw [cutS_44] at ih ⊢
      rw [if_pos rfl]
      simp only [List.length_cons, List.length_nil, Nat.zero_add, List.drop_succ_cons, List.drop_zero] at ih ⊢
      obtain ⟨_, h8, h9⟩ := ih (fun h => h92 (List.mem_cons_of_mem _ h))
      refine ⟨⟨44 :: r, rfl, .inr ⟨r, rfl⟩⟩, rfl, fun q hq => ?_⟩
      rcases List.mem_cons.mp hq with rfl | hq
      · exact h8
      · exact h9 q hq
    · have hs := cutS_signs c r h34 h44
      have hne : cutS (c :: r) ≠ [44] := fun e => by rw [e] at hs; exact (hs 44 (by simp)).2 rfl
      rw [if_neg hne]
      obtain ⟨⟨t, h6, h7⟩, h8, h9⟩ := ih (fun h => h92 (List.mem_of_mem_drop h))
      have e2 := cutS_split c r
      obtain ⟨w', hw'⟩ : ∃ w', cutS (c :: r) = c :: w' := by
        cases hq : cutS (c :: r) with
        | nil => exact absurd hq (cutS_ne c r)
        | cons d w' =>
          rw [hq] at e2
          injection e2 with e3 _
          exact ⟨w', by rw [e3]⟩
      refine ⟨⟨t, ?_, h7⟩, ?_, h9⟩
      · conv => lhs; rw [e2, h6]
        simp
      · show W (cutS (c :: r) ++ (segW (W ((c :: r).drop (cutS (c :: r)).length))).1.flatten) = _
        generalize hfl : (segW (W ((c :: r).drop (cutS (c :: r)).length))).1.flatten = fl at *
        have e3 : cutS (c :: (w' ++ fl)) = cutS (c :: r) := by
          have e4 : c :: r = c :: (w' ++ fl) ++ t := by
            conv => lhs; rw [e2, h6, hw']
            simp
          rcases h7 with rfl | ⟨u, rfl⟩
          · rw [e4, List.append_nil]
          · conv => rhs; rw [e4]
            rw [cutS_stop 44 (.inl rfl) u c (w' ++ fl)]
        have e5 : cutS (c :: r) ++ fl = c :: (w' ++ fl) := by rw [hw']; rfl
        rw [e5, W_cut c _ h34, e3]
        congr 1
        rw [← e5, List.drop_left, h8]
theorem row_retok (y : List Nat) (h : 92 ∉ y) : ∀ r ∈ rowsW y, W r.flatten = r := by
  intro r hr
  have h2 := retok y h
  rcases List.mem_cons.mp (dropE_mem r hr) with rfl | hr
  · exact h2.2.1
  · exact h2.2.2 r hr

noncomputable def bw (ws : List (List Nat)) : List (Int × List Nat) := bareL (ws.map fS)
theorem bw_32 (ws : List (List Nat)) : bw ([32] :: ws) = bw ws := by simp [bw, bareL, fS]
theorem bw_ne (w : List Nat) (h : w ≠ [32]) (ws : List (List Nat)) : bw (w :: ws) = (snum w, rdrop Unicode.isSpace w) :: bw ws := by
  simp [bw, bareL, fS, h]
theorem sp32 : Unicode.isSpace 32 = true := by decide +kernel
theorem lead (z : List Nat) (h : ∀ c ∈ z, Okc c) : bw (W (z.dropWhile Unicode.isSpace)) = bw (W z) := by
  induction z with
  | nil => rfl
  | cons c r ih =>
    rw [List.dropWhile_cons]
    by_cases q : Unicode.isSpace c = true
    · have hc := (h c (by simp)).2 q
      subst hc
      rw [if_pos q, W_cut 32 r (by decide), cutS_32, bw_32, ih fun c hc => h c (List.mem_cons_of_mem _ hc)]
      rfl
    · rw [if_neg q]
theorem rdrop_snoc (g : Nat → Bool) (z : List Nat) (c : Nat) : rdrop g (z ++ [c]) = if g c then rdrop g z else z ++ [c] := by
  unfold rdrop
  rw [List.reverse_append]
  simp only [List.reverse_cons, List.reverse_nil, List.nil_append, List.singleton_append, List.dropWhile_cons]
  split
  · rfl
  · simp
theorem snum34 (l : List Nat) : snum (34 :: l) = -1 := by
  unfold snum
  rw [if_neg]
  intro h
  have : ∀ w ∈ rowL, w.head? ≠ some 34 := by decide +kernel
  exact this _ h rfl
theorem trail1 : ∀ z : List Nat, 92 ∉ z → bw (W (z ++ [32])) = bw (W z) := by
  refine W_ind ?_ ?_ ?_
  · intro _; show bw (W [32]) = _; rw [W_cut 32 [] (by decide), cutS_32, bw_32]; rfl
  · intro r ih h92
    simp at h92
    show bw (W (34 :: (r ++ [32]))) = _
    rw [W_34, W_34]
    rcases qs_plain r h92 with ⟨h3, h4⟩ | ⟨h3, h4⟩
    · have h5 : qscan (r ++ [32]) = (r ++ [32], []) := qs_un _ (by simp; exact h3) (by simp; exact h92)
      rw [h5, h4, bw_ne _ (by simp), bw_ne _ (by simp), snum34, snum34]
      have := rdrop_snoc Unicode.isSpace (34 :: r) 32
      rw [if_pos sp32] at this
      show (-1, rdrop Unicode.isSpace (34 :: r ++ [32])) :: _ = _
      rw [this]
    · have h5 : 92 ∉ (qscan r).2 := fun h => h92 (by rw [h3]; exact List.mem_append_right _ h)
      have h6 : qscan (r ++ [32]) = ((qscan r).1, (qscan r).2 ++ [32]) := by
        conv => lhs; rw [h3, List.append_assoc]
        exact h4 _
      rw [h6, bw_ne _ (by simp), bw_ne _ (by simp), ih h5]
  · intro c r h34 ih h92
    have h5 : 92 ∉ (c :: r).drop (cutS (c :: r)).length := fun h => h92 (List.mem_of_mem_drop h)
    have h6 : cutS (c :: (r ++ [32])) = cutS (c :: r) := cutS_stop 32 (.inr rfl) [] c r
    have h7 : (c :: (r ++ [32])).drop (cutS (c :: r)).length = (c :: r).drop (cutS (c :: r)).length ++ [32] := by
      have h8 : (cutS (c :: r)).length ≤ (c :: r).length := by
        obtain ⟨k, _, h1, h2⟩ := cutS_pre c r
        rw [h1]; simp; omega
      exact List.drop_append_of_le_length h8
    show bw (W (c :: (r ++ [32]))) = _
    rw [W_cut c _ h34, W_cut c r h34, h6, h7]
    by_cases q : cutS (c :: r) = [32]
    · rw [q] at ih h5 ⊢
      rw [bw_32, bw_32, ih h5]
    · rw [bw_ne _ q, bw_ne _ q, ih h5]
theorem trail (z : List Nat) (h : ∀ c ∈ z, Okc c) (h92 : 92 ∉ z) : bw (W (rdrop Unicode.isSpace z)) = bw (W z) := by
  have : ∀ (r : List Nat), (∀ c ∈ r, Okc c) → 92 ∉ r → bw (W (rdrop Unicode.isSpace r.reverse)) = bw (W r.reverse) := by
    intro r
    induction r with
    | nil => intro _ _; rfl
    | cons c r ih =>
      intro h h92
      simp at h92
      rw [List.reverse_cons, rdrop_snoc]
      by_cases q : Unicode.isSpace c = true
      · have hc := (h c (by simp)).2 q
        subst hc
        rw [if_pos q, ih (fun c hc => h c (List.mem_cons_of_mem _ hc)) h92.2, trail1 _ (by simp; exact h92.2)]
      · rw [if_neg q]
  have h2 := this z.reverse (fun c hc => h c (by simpa using hc)) (by simpa using h92)
  simpa using h2
noncomputable def stripL (z : List Nat) : List Nat := rdrop Unicode.isSpace (z.dropWhile Unicode.isSpace)
theorem strip_words (z : List Nat) (h : ∀ c ∈ z, Okc c) (h92 : 92 ∉ z) : bw (W (stripL z)) = bw (W z) := by
  have hsub : ∀ c ∈ z.dropWhile Unicode.isSpace, c ∈ z := fun c hc => (List.dropWhile_suffix _).subset hc
  rw [stripL, trail _ (fun c hc => h c (hsub c hc)) (fun q => h92 (hsub 92 q)), lead z h]
theorem read_eq (y : List Nat) (h : ∀ c ∈ y, Okc c) (h92 : 92 ∉ y) : (parseL y).map (fun q => bareL (byT (stripL q))) = (rowsL (byS y)).map bareL := by
  rw [parse_eq, rows_eq, List.map_map, List.map_map]
  refine List.map_congr_left fun r hr => ?_
  have hm : ∀ c ∈ r.flatten, c ∈ y := by
    intro c hc
    obtain ⟨w, hw, hc⟩ := List.mem_flatten.mp hc
    exact (W_mem y w (allW_mem y r (dropE_mem r hr) w hw)).2 c hc
  show bareL (byT (stripL r.flatten)) = bareL (r.map fS)
  rw [byT_eq, byS_eq]
  show bw (W (stripL r.flatten)) = bw r
  rw [strip_words _ (fun c hc => h c (hm c hc)) (fun q => h92 (hm 92 q)), row_retok y h92 r hr]
end

section
open PySem PySem.W PyProof.Rows PySem.Calls
set_option maxRecDepth 100000
set_option maxHeartbeats 8000000

theorem IsList.uniq {h : Heap} {a : Addr} {vs ws : Array Value} (x : h.IsList a vs) (y : h.IsList a ws) : vs = ws := by
  obtain ⟨o, ho, _, n, hd⟩ := x
  obtain ⟨o', ho', _, n', hd'⟩ := y
  rw [ho] at ho'
  cases ho'
  rw [hd] at hd'
  injection hd'
theorem Paired.uniq {α β : Type} {F : α → β → Prop} (hu : ∀ a b c, F a b → F a c → b = c) : ∀ {l : List α} {l₁ l₂ : List β}, Paired F l l₁ → Paired F l l₂ → l₁ = l₂
  | _, _, _, .nil, .nil => rfl
  | _, _, _, .cons h₁ t, .cons g₁ u => by rw [hu _ _ _ h₁ g₁, Paired.uniq hu t u]
theorem RowAt.uniq {h : Heap} {v : Value} {p q : Prs} (x : RowAt h v p) (y : RowAt h v q) : p = q := by
  obtain ⟨a, vs, rfl, hl, hp⟩ := x
  obtain ⟨b, ws, e, hl', hq⟩ := y
  injection e with e
  subst e
  rw [IsList.uniq hl hl'] at hp
  exact Paired.uniq (F := PairAt h) (fun _ _ _ h1 h2 => PairAt.uniq h1 h2) hp hq

/-- what holds of every heap that keeps all but the frame -/
def Stays (L : Addr) (h : Heap) (Φ : Heap → Prop) : Prop := ∀ h'', (∀ b o, b ≠ L → h.get? b = some o → h''.get? b = some o) → Φ h''
theorem Stays.step {L : Addr} {h h₂ : Heap} {Φ : Heap → Prop} (x : Stays L h Φ) (k : ∀ b o, b ≠ L → h.get? b = some o → h₂.get? b = some o) : Stays L h₂ Φ :=
  fun h'' hk => x h'' fun b o hb e => hk b o hb (k b o hb e)
theorem Stays.now {L : Addr} {h : Heap} {Φ : Heap → Prop} (x : Stays L h Φ) : Φ h := x h fun _ _ _ e => e
theorem Stays.of_new {L : Addr} {h₁ h : Heap} {Φ : Heap → Prop} (hL : h₁.get? L ≠ none) (x : ∀ h'', NewIn h₁ h h'' → Φ h'') : Stays L h Φ :=
  fun h'' hk => x h'' fun b o h1 e => hk b o (fun q => hL (q ▸ h1)) e

theorem W_count (y : List Nat) : (byS y).length ≤ y.length := by
  rw [byS, List.length_map]
  exact (words_len cutS cutS_len y.length y).1
theorem byS_low {y : List Nat} (h : ∀ c ∈ y, Okc c) : LowRow (byS y) := by
  intro q hq
  obtain ⟨w, hw, rfl⟩ := List.mem_map.mp hq
  exact fun c hc => (h c ((W_mem y w hw).2 c hc)).1
theorem rowsL_mem (y : List Nat) : ∀ r ∈ rowsL (byS y), ∀ q ∈ r, q ∈ byS y := by
  rw [rows_eq]
  intro r hr q hq
  obtain ⟨ws, hws, rfl⟩ := List.mem_map.mp hr
  obtain ⟨w, hw, rfl⟩ := List.mem_map.mp hq
  exact List.mem_map_of_mem (allW_mem y ws (dropE_mem ws hws) w hw)
theorem rfold_count : ∀ (ps : Prs) (st : List Prs × Prs) (n : Nat), (∀ r ∈ st.1, r.length ≤ n) → st.2.length ≤ n → (∀ r ∈ (ps.foldl rstep st).1, r.length ≤ n + ps.length) ∧ (ps.foldl rstep st).2.length ≤ n + ps.length ∧ (ps.foldl rstep st).1.length ≤ st.1.length + ps.length
  | [], st, n, h1, h2 => ⟨h1, h2, Nat.le_refl _⟩
  | q :: ps, st, n, h1, h2 => by
    rw [List.foldl_cons]
    have h3 : (∀ r ∈ (rstep st q).1, r.length ≤ n + 1) ∧ (rstep st q).2.length ≤ n + 1 ∧ (rstep st q).1.length ≤ st.1.length + 1 := by
      unfold rstep
      split
      · refine ⟨fun r hr => ?_, by simp, by simp⟩
        rcases List.mem_append.mp hr with hr | hr
        · have := h1 r hr; omega
        · rw [List.mem_singleton.mp hr]; omega
      · refine ⟨fun r hr => ?_, by simp; omega, by simp⟩
        have := h1 r hr; omega
    have ih := rfold_count ps (rstep st q) (n + 1) h3.1 h3.2.1
    simp only [List.length_cons]
    refine ⟨fun r hr => ?_, ?_, ?_⟩
    · have := ih.1 r hr; omega
    · have := ih.2.1; omega
    · have := ih.2.2; have := h3.2.2; omega
theorem rowsL_count (ps : Prs) : (∀ r ∈ rowsL ps, r.length ≤ ps.length) ∧ (rowsL ps).length ≤ ps.length + 1 := by
  have h := rfold_count ps ([], []) 0 (by simp) (by simp)
  simp only [List.length_nil, Nat.zero_add] at h
  unfold rowsL rfold
  split
  · exact ⟨h.1, by have := h.2.2; omega⟩
  · refine ⟨fun r hr => ?_, by simp; exact h.2.2⟩
    rcases List.mem_append.mp hr with hr | hr
    · exact h.1 r hr
    · rw [List.mem_singleton.mp hr]; exact h.2.1
theorem byS_word {y : List Nat} : ∀ q ∈ byS y, q.2.length ≤ y.length + 3 := by
  intro q hq
  obtain ⟨w, hw, rfl⟩ := List.mem_map.mp hq
  exact (words_len cutS cutS_len y.length y).2 w hw
theorem bareL_low {ps : Prs} (h : LowRow ps) : LowRow (bareL ps) := by
  intro q hq
  obtain ⟨p, hp, rfl⟩ := List.mem_map.mp hq
  intro c hc
  have hp' := (List.mem_filter.mp hp).1
  refine h p hp' c ?_
  have hc' : c ∈ (p.2.reverse.dropWhile Unicode.isSpace).reverse := hc
  rw [List.mem_reverse] at hc'
  have := (List.dropWhile_suffix _).subset hc'
  simpa using this
theorem stripL_mem (z : List Nat) : ∀ c ∈ stripL z, c ∈ z := by
  intro c hc
  have hc' : c ∈ ((z.dropWhile Unicode.isSpace).reverse.dropWhile Unicode.isSpace).reverse := hc
  rw [List.mem_reverse] at hc'
  have h1 := (List.dropWhile_suffix _).subset hc'
  rw [List.mem_reverse] at h1
  exact (List.dropWhile_suffix _).subset h1
theorem stripL_len (z : List Nat) : (stripL z).length ≤ z.length := by
  unfold stripL rdrop
  rw [List.length_reverse]
  exact Nat.le_trans ((List.dropWhile_suffix _).length_le) (by rw [List.length_reverse]; exact (List.dropWhile_suffix _).length_le)
theorem parse_mem {y q : List Nat} (h : q ∈ parseL y) : ∀ c ∈ q, c ∈ y := by
  rw [parse_eq] at h
  obtain ⟨r, hr, rfl⟩ := List.mem_map.mp h
  intro c hc
  obtain ⟨w, hw, hc⟩ := List.mem_flatten.mp hc
  exact (W_mem y w (allW_mem y r (dropE_mem r hr) w hw)).2 c hc
theorem parse_count (y : List Nat) : (parseL y).length ≤ y.length + 1 := by
  rw [← told_eq, List.length_map]
  have := (rowsL_count (byS y)).2
  have := W_count y
  omega
theorem strip_eq (q : List Nat) : Txt.strip (S q) = S (stripL q) := strip_S q
def RowsIn (h : Heap) (D : Addr) (rs : List Prs) : Prop := ∃ vs, h.IsList D vs ∧ Paired (RowAt h) vs.toList rs
def TextsIn (h : Heap) (D : Addr) (zs : List Str) : Prop := ∃ vs, h.IsList D vs ∧ TextsAre vs.toList zs
theorem rowsL_small {y : List Nat} (h : y.length ≤ 100) : ∀ r ∈ rowsL (byS y), r.length ≤ 1000 ∧ ∀ q ∈ r, q.2.length ≤ 1010 := by
  intro r hr
  have h1 := (rowsL_count (byS y)).1 r hr
  have h2 := W_count y
  refine ⟨by omega, fun q hq => ?_⟩
  have := byS_word q (rowsL_mem y r hr q hq)
  omega
theorem rowsL_few {y : List Nat} (h : y.length ≤ 100) : (rowsL (byS y)).length ≤ 1000 := by
  have h1 := (rowsL_count (byS y)).2
  have h2 := W_count y
  omega
theorem ascii_S {y : List Nat} (h : ∀ c ∈ y, Okc c) : (S y).cps.all (· < 128) = true := by
  simp only [S]
  rw [List.all_toArray, List.all_eq_true]
  intro c hc
  exact decide_eq_true (h c hc).1
theorem frSome {h₀ h : Heap} {L : Addr} {m : Str → Option Value} (F : Fr h₀ L h m) : h.get? L ≠ none := by
  obtain ⟨o, _, _, ho, _⟩ := F.ns
  rw [ho]; intro q; cases q
end

section
open PySem PySem.W PyProof.Rows PySem.Calls
set_option maxRecDepth 100000
set_option maxHeartbeats 8000000

theorem fin : PySem.Challenge.rw_mj0149_01.Holds := hd (by
  k_with_none
  (k_with "call ref" => (refine Stop.mk ?_))
  (k_with "compareOp Eq ref ref" => (refine Stop.mk ?_))
  (k_with "eval Name" => ((with_reducible show wpAny _ _ (eval (PySem.Expr.Name _ _) (compEnv _ _ _)) _ _ _); first | (refine ldC (by assumption) (by assumption) ?_) | (refine ldCG (by assumption) (by assumption) (by k_is) ?_ rfl rfl rfl (by decide))))
  w_strict (
    k_go0
    (all_goals try k_fold)
    (rename Dflts _ _ _ _ _ _ => hD9); clear hD9
    (rename Fr _ _ _ _ => F); (rename News _ _ _ _ => N); (rename Frag.In _ _ => X); (rename Top _ _ _ _ _ _ => T); (rename IntsAre _ _ => hI); (rename Heap.IsList _ _ _ => hL)
    (rename ¬ _ => hcnt)
    (rename World => w); (rename Shared => s)
    (try dsimp only)
    have hsc := frPin F (x := Str.ofString "script") rfl
    clear F
    refine seq1T (fun s' => ∃ m l t h' tk, s' = { s with heap := h', toks := tk } ∧ Fr s.heap s.heap.objs.size h' m ∧ m (Str.ofString "text") = some (.str (S l) t) ∧ l.length ≤ 100 ∧ (∀ c ∈ l, Okc c)) ?_ ?_
    · k_steps
      unfold Stop
      refine c_text (X.keeps hsc.keep) (T.keeps hsc.keep) (by show callerA.depth + 1 < 500; decide) rfl (hL.at fun o e => hsc.keep _ o e) hI (by omega) ?_
      intro l t h' tk hk hl hok
      have F₂ := frKept hsc hk
      have N₂ := @News.nil s.heap h' s.heap.objs.size
      clear hsc N
      k_steps
      refine ⟨rfl, _, l, t, _, _, rfl, (by assumption), rfl, hl, hok⟩
    · clear hsc N hL hI hcnt
      rintro s' ⟨m, l, t, h', tk, rfl, F, ht, hl, hok⟩ hs'
      have htk : 0 < tk := Nat.lt_of_lt_of_le (Nat.succ_pos _) hs'
      clear hs'
      have F := frPin F ht
      have N := @News.nil s.heap h' s.heap.objs.size
      have hS1 : (S l).length ≤ 1000 := by rw [S_length]; omega
      refine seq1T (fun s' => ∃ m t t2 h' tk, s' = { s with heap := h', toks := tk } ∧ Fr s.heap s.heap.objs.size h' m ∧ m (Str.ofString "text") = some (.str (S l) t) ∧ m (Str.ofString "plain") = some (.str (S (l.filter (· != 92))) t2)) ?_ ?_
      · k_steps
        refine SC.replaceW (Nat.ne_of_gt htk) (Nat.succ_ne_zero _) (Nat.ne_of_lt (Nat.lt_succ_self _)) (by decide +kernel) (by omega) (by decide +kernel) ?_
        intro t' k'
        rw [k_92, k_nil, replace_S]
        k_steps
        exact ⟨rfl, _, t, t', _, _, rfl, (by assumption), rfl, rfl⟩
      · clear F N ht
        rintro s' ⟨m, t, t2, h', tk, rfl, F, ht, hp⟩ hs'
        replace htk : 0 < tk := Nat.lt_of_lt_of_le htk hs'
        clear hs'
        have hpl : (l.filter (· != 92)).length ≤ 100 := Nat.le_trans (List.length_filter_le _ _) hl
        have hpok : ∀ c ∈ l.filter (· != 92), Okc c := fun c hc => hok c (List.mem_filter.mp hc).1
        have hp92 : 92 ∉ l.filter (· != 92) := by simp
        generalize l.filter (· != 92) = y at *
        refine seq1T (fun s' => ∃ m D h' tk, s' = { s with heap := h', toks := tk } ∧ Fr s.heap s.heap.objs.size h' m ∧ m (Str.ofString "text") = some (.str (S l) t) ∧ m (Str.ofString "plain") = some (.str (S y) t2) ∧
          m (Str.ofString "told") = some (.ref D) ∧ Stays s.heap.objs.size h' (fun h => TextsIn h D ((rowsL (byS l)).map fun r => Txt.strip (S (r.flatMap (·.2)))))) ?_ ?_
        · refine compAssignG (fun _ => true) rfl rfl (by decide) (by decide) rfl (by decide) rfl rfl (valF (fun v s₂ => ∃ a vs h₂ tk, v = .ref a ∧ s₂ = { s with heap := h₂, toks := tk } ∧ Kept h' h₂ ∧ h₂.IsList a vs ∧ Paired (RowAt h₂) vs.toList (rowsL (byS l))) ?_ ?_)
          · have F := frPin2 F ht hp
            have N := @News.nil s.heap h' s.heap.objs.size
            k_steps
            unfold Stop
            refine c_shapes (X.keeps F.keep) (T.keeps F.keep) (by show callerA.depth + 1 < 390; decide) rfl (by omega) htk ?_
            intro a vs h₂ tk₂ ha hk₂ hP
            have F₂ := frKept F hk₂
            have N₂ := @News.nil s.heap h₂ s.heap.objs.size
            have hr₂ : RowAt h₂ (.ref a) (byS l) := ⟨a, vs, rfl, (hP h₂ fun _ _ _ e => e).1, (hP h₂ fun _ _ _ e => e).2⟩
            have hcl := W_count l
            clear F N
            k_steps
            unfold Stop
            refine c_rows (X.keeps F₂.keep) (T.keeps F₂.keep) (by show callerA.depth + 1 < 500; decide) rfl (by show callerA.units + 3 < 1000; decide) hr₂ (by omega) (byS_low hok) ?_
            intro a₃ vs₃ h₃ tk₃ ha₃ hk₃ hl₃ hP₃
            have F₃ := frKept F₂ hk₃
            have N₃ := @News.nil s.heap h₃ s.heap.objs.size
            clear F₂ N₂
            k_steps
            exact ⟨a₃, vs₃, h₃, _, rfl, rfl, fun b o e => hk₃ b o (hk₂ b o e), hl₃, hP₃⟩
          · rintro v s₂ ⟨a, vs, h₂, tk₂, rfl, rfl, hk₂, hla, hvs⟩ hs₂
            have F₂ := frKept F hk₂
            have hvl : vs.size = (rowsL (byS l)).length := by have := hvs.length; simpa using this
            have hfew := rowsL_few hl
            refine ⟨a, vs, s.heap, m, (fun _ v z => ∀ r, RowAt h₂ v r → IsText z (Txt.strip (S (r.flatMap (·.2))))), rfl, hla, by rw [sizeLine_eq]; omega, F₂, turnName rfl rfl ?_, ?_⟩
            · rintro C v s₃ m₃ hv hC hn hm hk₃ ⟨h₃, tk₃, rfl, htk₃⟩
              have X₃ := (X.keeps F₂.keep).keeps hk₃
              have T₃ := (T.keeps F₂.keep).keeps hk₃
              obtain ⟨r, hr, hrow⟩ := Paired.mem hvs v (by simpa using hv)
              have hsm := rowsL_small hl r hr
              clear F F₂
              k_steps
              unfold Stop
              refine c_joined X₃ T₃ (by show callerA.depth + 1 < 500; decide) rfl (hrow.keep hk₃) hsm.1 hsm.2 ?_
              intro t' h₅ tk₅ hk₅
              k_steps
              exact ⟨h₅, _, rfl, hk₅, fun _ _ r' hr' => by rw [← RowAt.uniq hrow hr']; exact ⟨_, rfl⟩⟩
            · intro D h₃ tk₃ ys hD F₃ hk₃ hP
              refine ⟨rfl, _, D, h₃, tk₃, rfl, F₃, ht, hp, rfl, Stays.of_new (frSome F₂) fun h'' hN => ⟨ys, (hP h'' hN).1, ?_⟩⟩
              have h5 := (hP h'' hN).2
              rw [List.filter_eq_self.mpr (fun _ _ => rfl)] at h5
              exact Paired.map (G := IsText) (f := fun r : Prs => Txt.strip (S (r.flatMap (·.2)))) (fun _ _ h => h) (Paired.comp (H := fun z (r : Prs) => IsText z (Txt.strip (S (r.flatMap (·.2))))) (fun _ _ r h1 h2 => h1 r h2) h5 hvs)
        · clear F ht hp
          rintro s' ⟨m, D, h', tk, rfl, F, ht, hp, hto, hSD⟩ hs'
          replace htk : 0 < tk := Nat.lt_of_lt_of_le htk hs'
          clear hs'
          refine seq1T (fun s' => ∃ m B h' tk, s' = { s with heap := h', toks := tk } ∧ Fr s.heap s.heap.objs.size h' m ∧ m (Str.ofString "text") = some (.str (S l) t) ∧ m (Str.ofString "plain") = some (.str (S y) t2) ∧
            m (Str.ofString "told") = some (.ref D) ∧ m (Str.ofString "shape") = some (.ref B) ∧ Stays s.heap.objs.size h' (fun h => TextsIn h D ((rowsL (byS l)).map fun r => Txt.strip (S (r.flatMap (·.2)))) ∧ RowsIn h B ((rowsL (byS y)).map bareL))) ?_ ?_
          · refine compAssignG (fun _ => true) rfl rfl (by decide) (by decide) rfl (by decide) rfl rfl (valF (fun v s₂ => ∃ a vs h₂ tk, v = .ref a ∧ s₂ = { s with heap := h₂, toks := tk } ∧ Kept h' h₂ ∧ h₂.IsList a vs ∧ Paired (RowAt h₂) vs.toList (rowsL (byS y))) ?_ ?_)
            · have F := frPin2 F ht hp
              have N := @News.nil s.heap h' s.heap.objs.size
              k_steps
              unfold Stop
              refine c_shapes (X.keeps F.keep) (T.keeps F.keep) (by show callerA.depth + 1 < 390; decide) rfl (by omega) htk ?_
              intro a vs h₂ tk₂ ha hk₂ hP
              have F₂ := frKept F hk₂
              have N₂ := @News.nil s.heap h₂ s.heap.objs.size
              have hr₂ : RowAt h₂ (.ref a) (byS y) := ⟨a, vs, rfl, (hP h₂ fun _ _ _ e => e).1, (hP h₂ fun _ _ _ e => e).2⟩
              have hcl := W_count y
              clear F N
              k_steps
              unfold Stop
              refine c_rows (X.keeps F₂.keep) (T.keeps F₂.keep) (by show callerA.depth + 1 < 500; decide) rfl (by show callerA.units + 3 < 1000; decide) hr₂ (by omega) (byS_low hpok) ?_
              intro a₃ vs₃ h₃ tk₃ ha₃ hk₃ hl₃ hP₃
              have F₃ := frKept F₂ hk₃
              have N₃ := @News.nil s.heap h₃ s.heap.objs.size
              clear F₂ N₂
              k_steps
              exact ⟨a₃, vs₃, h₃, _, rfl, rfl, fun b o e => hk₃ b o (hk₂ b o e), hl₃, hP₃⟩
            · rintro v s₂ ⟨a, vs, h₂, tk₂, rfl, rfl, hk₂, hla, hvs⟩ hs₂
              have F₂ := frKept F hk₂
              have hvl : vs.size = (rowsL (byS y)).length := by have := hvs.length; simpa using this
              have hfew := rowsL_few hpl
              refine ⟨a, vs, s.heap, m, (fun h v z => ∀ r, RowAt h₂ v r → RowAt h z (bareL r)), rfl, hla, by rw [sizeLine_eq]; omega, F₂, turnName rfl rfl ?_, ?_⟩
              · rintro C v s₃ m₃ hv hC hn hm hk₃ ⟨h₃, tk₃, rfl, htk₃⟩
                have X₃ := (X.keeps F₂.keep).keeps hk₃
                have T₃ := (T.keeps F₂.keep).keeps hk₃
                obtain ⟨r, hr, hrow⟩ := Paired.mem hvs v (by simpa using hv)
                have hsm := rowsL_small hpl r hr
                clear F F₂
                k_steps
                unfold Stop
                refine c_bare X₃ T₃ (by show callerA.depth + 1 < 500; decide) rfl (hrow.keep hk₃) hsm.1 hsm.2 ?_
                intro a₅ vs₅ h₅ tk₅ ha₅ hk₅ hP₅
                k_steps
                exact ⟨h₅, _, rfl, hk₅, fun h'' hN r' hr' => by rw [← RowAt.uniq hrow hr']; exact ⟨a₅, vs₅, rfl, (hP₅ h'' hN).1, (hP₅ h'' hN).2⟩⟩
              · intro B' h₃ tk₃ ys hD F₃ hk₃ hP
                refine ⟨rfl, _, B', h₃, tk₃, rfl, F₃, ht, hp, hto, rfl, fun h'' hh => ⟨hSD h'' fun b o hb e => hh b o hb (hk₃ b o hb (hk₂ b o e)), Stays.of_new (frSome F₂) (Φ := fun h => RowsIn h B' ((rowsL (byS y)).map bareL)) (fun h'' hN => ⟨ys, (hP h'' hN).1, ?_⟩) h'' hh⟩⟩
                have h5 := (hP h'' hN).2
                rw [List.filter_eq_self.mpr (fun _ _ => rfl)] at h5
                exact Paired.map (G := RowAt h'') (f := bareL) (fun _ _ h => h) (Paired.comp (H := fun z (r : Prs) => RowAt h'' z (bareL r)) (fun _ _ r h1 h2 => h1 r h2) h5 hvs)
          · clear F ht hp hto hSD
            rintro s' ⟨m, B, h', tk, rfl, F, ht, hp, hto, hsh, hSD⟩ hs'
            replace htk : 0 < tk := Nat.lt_of_lt_of_le htk hs'
            clear hs'
            refine seq1T (fun s' => ∃ m C h' tk, s' = { s with heap := h', toks := tk } ∧ Fr s.heap s.heap.objs.size h' m ∧ m (Str.ofString "text") = some (.str (S l) t) ∧ m (Str.ofString "plain") = some (.str (S y) t2) ∧
              m (Str.ofString "told") = some (.ref D) ∧ m (Str.ofString "shape") = some (.ref B) ∧ m (Str.ofString "table") = some (.ref C) ∧
              Stays s.heap.objs.size h' (fun h => (TextsIn h D ((rowsL (byS l)).map fun r => Txt.strip (S (r.flatMap (·.2)))) ∧ RowsIn h B ((rowsL (byS y)).map bareL)) ∧ RowsIn h C ((rowsL (byS y)).map bareL))) ?_ ?_
            · refine compAssignG (fun _ => true) rfl rfl (by decide) (by decide) rfl (by decide) rfl rfl (valF (fun v s₂ => ∃ a vs h₂ tk, v = .ref a ∧ s₂ = { s with heap := h₂, toks := tk } ∧ Kept h' h₂ ∧ h₂.IsList a vs ∧ Paired (RowAt h₂) vs.toList (rowsL (byS y))) ?_ ?_)
              · have F := frPin2 F ht hp
                have N := @News.nil s.heap h' s.heap.objs.size
                k_steps
                unfold Stop
                refine c_table (X.keeps F.keep) (T.keeps F.keep) (by show callerA.depth + 1 < 390; decide) rfl (by omega) htk ?_
                intro a vs h₂ tk₂ ha hk₂ hP
                rw [byT_eq] at hP
                have F₂ := frKept F hk₂
                have N₂ := @News.nil s.heap h₂ s.heap.objs.size
                have hr₂ : RowAt h₂ (.ref a) (byS y) := ⟨a, vs, rfl, (hP h₂ fun _ _ _ e => e).1, (hP h₂ fun _ _ _ e => e).2⟩
                have hcl := W_count y
                clear F N
                k_steps
                unfold Stop
                refine c_rows (X.keeps F₂.keep) (T.keeps F₂.keep) (by show callerA.depth + 1 < 500; decide) rfl (by show callerA.units + 3 < 1000; decide) hr₂ (by omega) (byS_low hpok) ?_
                intro a₃ vs₃ h₃ tk₃ ha₃ hk₃ hl₃ hP₃
                have F₃ := frKept F₂ hk₃
                have N₃ := @News.nil s.heap h₃ s.heap.objs.size
                clear F₂ N₂
                k_steps
                exact ⟨a₃, vs₃, h₃, _, rfl, rfl, fun b o e => hk₃ b o (hk₂ b o e), hl₃, hP₃⟩
              · rintro v s₂ ⟨a, vs, h₂, tk₂, rfl, rfl, hk₂, hla, hvs⟩ hs₂
                have F₂ := frKept F hk₂
                have hvl : vs.size = (rowsL (byS y)).length := by have := hvs.length; simpa using this
                have hfew := rowsL_few hpl
                refine ⟨a, vs, s.heap, m, (fun h v z => ∀ r, RowAt h₂ v r → RowAt h z (bareL r)), rfl, hla, by rw [sizeLine_eq]; omega, F₂, turnName rfl rfl ?_, ?_⟩
                · rintro C v s₃ m₃ hv hC hn hm hk₃ ⟨h₃, tk₃, rfl, htk₃⟩
                  have X₃ := (X.keeps F₂.keep).keeps hk₃
                  have T₃ := (T.keeps F₂.keep).keeps hk₃
                  obtain ⟨r, hr, hrow⟩ := Paired.mem hvs v (by simpa using hv)
                  have hsm := rowsL_small hpl r hr
                  clear F F₂
                  k_steps
                  unfold Stop
                  refine c_bare X₃ T₃ (by show callerA.depth + 1 < 500; decide) rfl (hrow.keep hk₃) hsm.1 hsm.2 ?_
                  intro a₅ vs₅ h₅ tk₅ ha₅ hk₅ hP₅
                  k_steps
                  exact ⟨h₅, _, rfl, hk₅, fun h'' hN r' hr' => by rw [← RowAt.uniq hrow hr']; exact ⟨a₅, vs₅, rfl, (hP₅ h'' hN).1, (hP₅ h'' hN).2⟩⟩
                · intro B' h₃ tk₃ ys hD F₃ hk₃ hP
                  refine ⟨rfl, _, B', h₃, tk₃, rfl, F₃, ht, hp, hto, hsh, rfl, fun h'' hh => ⟨hSD h'' fun b o hb e => hh b o hb (hk₃ b o hb (hk₂ b o e)), Stays.of_new (frSome F₂) (Φ := fun h => RowsIn h B' ((rowsL (byS y)).map bareL)) (fun h'' hN => ⟨ys, (hP h'' hN).1, ?_⟩) h'' hh⟩⟩
                  have h5 := (hP h'' hN).2
                  rw [List.filter_eq_self.mpr (fun _ _ => rfl)] at h5
                  exact Paired.map (G := RowAt h'') (f := bareL) (fun _ _ h => h) (Paired.comp (H := fun z (r : Prs) => RowAt h'' z (bareL r)) (fun _ _ r h1 h2 => h1 r h2) h5 hvs)
            · clear F ht hp hto hsh hSD
              rintro s' ⟨m, C, h', tk, rfl, F, ht, hp, hto, hsh, hta, hSD⟩ hs'
              replace htk : 0 < tk := Nat.lt_of_lt_of_le htk hs'
              clear hs'
              refine seq1T (fun s' => ∃ m R h' tk, s' = { s with heap := h', toks := tk } ∧ Fr s.heap s.heap.objs.size h' m ∧ m (Str.ofString "text") = some (.str (S l) t) ∧
                m (Str.ofString "told") = some (.ref D) ∧ m (Str.ofString "shape") = some (.ref B) ∧ m (Str.ofString "table") = some (.ref C) ∧ m (Str.ofString "read") = some (.ref R) ∧
                Stays s.heap.objs.size h' (fun h => ((TextsIn h D ((rowsL (byS l)).map fun r => Txt.strip (S (r.flatMap (·.2)))) ∧ RowsIn h B ((rowsL (byS y)).map bareL)) ∧ RowsIn h C ((rowsL (byS y)).map bareL)) ∧ RowsIn h R ((rowsL (byS y)).map bareL))) ?_ ?_
              · refine compAssignG (fun _ => true) rfl rfl (by decide) (by decide) rfl (by decide) rfl rfl (valF (fun v s₂ => ∃ a vs h₂ tk, v = .ref a ∧ s₂ = { s with heap := h₂, toks := tk } ∧ Kept h' h₂ ∧ h₂.IsList a vs ∧ StrsAre vs.toList ((parseL y).map stripL)) ?_ ?_)
                · have F := frPin2 F ht hp
                  have N := @News.nil s.heap h' s.heap.objs.size
                  k_steps
                  unfold Stop
                  refine c_parse (X.keeps F.keep) (T.keeps F.keep) (by show callerA.depth + 1 < 500; decide) rfl (by omega) (ascii_S hpok) ?_
                  intro a vs h₂ tk₂ ha hk₂ hP hvs
                  have F₂ := frKept F hk₂
                  have N₂ := @News.nil s.heap h₂ s.heap.objs.size
                  clear F N
                  k_steps
                  refine ⟨a, vs, h₂, _, rfl, rfl, hk₂, hP h₂ fun _ _ _ e => e, ?_⟩
                  have e1 : ((parseL y).map fun q => Txt.strip (S q)) = ((parseL y).map stripL).map S := by rw [List.map_map]; exact List.map_congr_left fun q _ => strip_eq q
                  rw [e1] at hvs
                  exact Paired.unmap (f := S) (fun _ _ h => h) hvs
                · rintro v s₂ ⟨a, vs, h₂, tk₂, rfl, rfl, hk₂, hla, hvs⟩ hs₂
                  have htk₂ : 0 < tk₂ := Nat.lt_of_lt_of_le htk hs₂
                  have F₂ := frKept F hk₂
                  have hvl : vs.size = (parseL y).length := by have := hvs.length; simpa using this
                  have hfew := parse_count y
                  refine ⟨a, vs, s.heap, m, (fun h v z => ∀ x, IsStr v x → RowAt h z (bareL (byT x))), rfl, hla, by rw [sizeLine_eq]; omega, F₂, turnName rfl rfl ?_, ?_⟩
                  · rintro C' v s₃ m₃ hv hC hn hm hk₃ ⟨h₃, tk₃, rfl, htk₃⟩
                    have X₃ := (X.keeps F₂.keep).keeps hk₃
                    have T₃ := (T.keeps F₂.keep).keeps hk₃
                    have htk₄ : 0 < tk₃ := Nat.lt_of_lt_of_le htk₂ htk₃
                    obtain ⟨x, hx, tx, rfl⟩ := Paired.mem hvs v (by simpa using hv)
                    have hxl : x.length ≤ 100 := by
                      obtain ⟨q, hq, rfl⟩ := List.mem_map.mp hx
                      exact Nat.le_trans (stripL_len q) (Nat.le_trans (parseL_len y q hq) hpl)
                    clear F F₂
                    k_steps
                    unfold Stop
                    refine c_table X₃ T₃ (by show callerA.depth + 1 < 390; decide) rfl (by omega) htk₄ ?_
                    intro a₄ vs₄ h₄ tk₄ ha₄ hk₄ hP₄
                    have X₄ := X₃.keeps hk₄
                    have T₄ := T₃.keeps hk₄
                    have hr₄ : RowAt h₄ (.ref a₄) (byT x) := ⟨a₄, vs₄, rfl, (hP₄ h₄ fun _ _ _ e => e).1, (hP₄ h₄ fun _ _ _ e => e).2⟩
                    have hcl := W_count x
                    clear X₃ T₃
                    k_steps
                    unfold Stop
                    refine c_bare X₄ T₄ (by show callerA.depth + 1 < 500; decide) rfl hr₄ (by rw [byT_eq]; omega) (fun q hq => by rw [byT_eq] at hq; have := byS_word q hq; omega) ?_
                    intro a₅ vs₅ h₅ tk₅ ha₅ hk₅ hP₅
                    k_steps
                    refine ⟨h₅, _, rfl, fun b o e => hk₅ b o (hk₄ b o e), fun h'' hN x' hx' => ?_⟩
                    obtain ⟨t', e⟩ := hx'
                    have hxx : x = x' := S_inj (by injection e)
                    rw [← hxx]
                    have hN' := newInKept hk₄ hN
                    exact ⟨a₅, vs₅, rfl, (hP₅ h'' hN').1, (hP₅ h'' hN').2⟩
                  · intro R h₃ tk₃ ys hD F₃ hk₃ hP
                    refine ⟨rfl, _, R, h₃, tk₃, rfl, F₃, ht, hto, hsh, hta, rfl, fun h'' hh => ⟨hSD h'' fun b o hb e => hh b o hb (hk₃ b o hb (hk₂ b o e)), Stays.of_new (frSome F₂) (Φ := fun h => RowsIn h R ((rowsL (byS y)).map bareL)) (fun h'' hN => ⟨ys, (hP h'' hN).1, ?_⟩) h'' hh⟩⟩
                    have h5 := (hP h'' hN).2
                    rw [List.filter_eq_self.mpr (fun _ _ => rfl)] at h5
                    rw [← read_eq y hpok hp92, show (fun q => bareL (byT (stripL q))) = (fun x => bareL (byT x)) ∘ stripL from rfl, ← List.map_map]
                    exact Paired.map (G := RowAt h'') (f := fun x => bareL (byT x)) (fun _ _ h => h) (Paired.comp (H := fun z (x : List Nat) => RowAt h'' z (bareL (byT x))) (fun _ _ r h1 h2 => h1 r h2) h5 hvs)
              · clear F ht hp hto hsh hta hSD
                rintro s' ⟨m, R, h', tk, rfl, F, ht, hto, hsh, hta, hre, hSD⟩ hs'
                clear hs'
                have F := frPin5 F ht hto hsh hta hre
                have N := @News.nil s.heap h' s.heap.objs.size
                k_steps
                unfold Stop
                refine c_parse (X.keeps F.keep) (T.keeps F.keep) (by show callerA.depth + 1 < 500; decide) rfl (by omega) (ascii_S hok) ?_
                intro a vs h₂ tk₂ ha hk₂ hP hvs
                obtain ⟨⟨⟨⟨v1, hl1, hp1⟩, ⟨v2, hl2, hp2⟩⟩, ⟨v3, hl3, hp3⟩⟩, ⟨v4, hl4, hp4⟩⟩ := hSD h₂ fun b o _ e => hk₂ b o e
                have F₂ := frKept F hk₂
                have N₂ := @News.nil s.heap h₂ s.heap.objs.size
                clear F N
                have e1 : ((rowsL (byS l)).map fun r => Txt.strip (S (r.flatMap (·.2)))) = (parseL l).map fun q => Txt.strip (S q) := by
                  rw [← told_eq, List.map_map]; rfl
                rw [e1] at hp1
                have hst : ∀ z ∈ (parseL l).map (fun q => Txt.strip (S q)), PyData.strOk z = true := by
                  intro z hz
                  obtain ⟨q, hq, rfl⟩ := List.mem_map.mp hz
                  show PyData.strOk (Txt.strip (S q)) = true
                  rw [strip_eq]
                  exact strOk_S fun c hc => (hok c (parse_mem hq c (stripL_mem q c hc))).1
                have hlow : ∀ ps ∈ (rowsL (byS y)).map bareL, LowRow ps := by
                  intro ps hps
                  obtain ⟨r, hr, rfl⟩ := List.mem_map.mp hps
                  exact bareL_low (rowsL_low (byS_low hpok) r hr)
                obtain ⟨as1, r1⟩ := reads_texts hl1 hp1
                obtain ⟨as0, r0⟩ := reads_texts (hP h₂ fun _ _ _ e => e) hvs
                obtain ⟨as2, r2⟩ := reads_rows hl2 hp2
                obtain ⟨as3, r3⟩ := reads_rows hl3 hp3
                obtain ⟨as4, r4⟩ := reads_rows hl4 hp4
                k_steps
                unfold Stop
                refine eq_dataH r0 r1 (shaped_texts hst) (shaped_texts hst) (by show callerA.units + 3 + 64 < 9900; decide) ?_
                rw [eqv_texts hst]
                k_steps
                unfold Stop
                refine eq_dataH r4 r2 (shaped_rows hlow) (shaped_rows hlow) (by show callerA.units + 3 + 64 < 9900; decide) ?_
                rw [eqv_rows hlow]
                k_steps
                unfold Stop
                refine eq_dataH r3 r2 (shaped_rows hlow) (shaped_rows hlow) (by show callerA.units + 3 + 64 < 9900; decide) ?_
                rw [eqv_rows hlow]
                k_steps))
end

end Mine

theorem PySem.Challenge.cw_mj0149_01_holds : PySem.Challenge.rw_mj0149_01.Holds :=
  Mine.fin
