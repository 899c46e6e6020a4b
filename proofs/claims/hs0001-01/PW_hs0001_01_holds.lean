import PyProof.Rows.All
import Wide.All
import OpenK.AllK
import Wide.FinOn
import Lean
import PySem.Challenge.RW_hs0001_01
set_option Elab.async false
set_option maxRecDepth 100000
set_option maxHeartbeats 8000000
set_option linter.all false
set_option genSizeOf false
section
open PySem
namespace Mine
/-! a run has one end: what each kind of step asks, read off the run once -/
def Behind (Md : Model) (Γ : PySem.Ctx) (s₁ : Shared) (F : Frame) (fs : List Frame) (e : End) (s' : Shared) : End → Prop
  | .ret r => match F with
    | .ret k _ _ _ c₁ p₁ _ => Runs Md (Γ.goto c₁) p₁ (k r) fs s₁ e s'
    | .gen g k _ c₁ p₁ => Runs Md (Γ.goto c₁) p₁ (k (End.ret r).result) fs (s₁.setGen g .finished) e s'
  | .susp v g₀ l₀ k₀ c₀ p₀ fs₀ => match splitAtGen (F :: fs) with
    | none => e = .susp v g₀ l₀ k₀ c₀ p₀ (fs₀ ++ F :: fs) ∧ s' = s₁
    | some (pre, (g, k, c₁, p₁), rest) => Runs Md (Γ.goto c₁) p₁ (k (.yielded v)) rest (s₁.setGen g (End.susp v g₀ l₀ k₀ c₀ p₀ (fs₀ ++ pre)).genState) e s'
def Called (Md : Model) (Γ : PySem.Ctx) (p : Pos) (h : Option Value) (g : Bool) (l : List Value) (k : Result → Sem Fin) (s₁ : Shared) (e : End) (s' : Shared) : End → Prop
  | .ret r => Runs Md Γ p (k r) [] s₁ e s'
  | .susp v g₀ l₀ k₀ c₀ p₀ fs => e = .susp v g₀ l₀ k₀ c₀ p₀ (fs ++ [.ret k h g l Γ.code p []]) ∧ s' = s₁
def Step (Md : Model) (Γ : PySem.Ctx) (p : Pos) (s : Shared) (e : End) (s' : Shared) : Sem Fin → Prop
  | .pure (.done f) => e = .ret (.ok f) ∧ s' = s
  | .pure (.again c) => Runs Md (Γ.goto c) p (Md.den c) [] s e s'
  | .raise x => e = .ret (.error x) ∧ s' = s
  | .rule _ k => Runs Md Γ p (k ()) [] s e s'
  | .at p' k => Runs Md Γ p' (k ()) [] s e s'
  | .load a _ k => ∃ o, s.heap.get? a = some o ∧ Runs Md Γ p (k o) [] s e s'
  | .update a _ f k => Runs Md Γ p (k ()) [] { s with heap := s.heap.update a f } e s'
  | .loadIfAlive a k => Runs Md Γ p (k (s.heap.get? a)) [] s e s'
  | .point _ k => Runs Md Γ p (k ()) [] s e s'
  | .alloc o k => Runs Md Γ p (k s.heap.objs.size) [] { s with heap := s.heap.push o } e s'
  | .fresh k => Runs Md Γ p (k s.toks) [] { s with toks := s.toks + 1 } e s'
  | .ask k => Runs Md Γ p (k ⟨Md.prog, Md.w.params⟩) [] s e s'
  | .choose src n k => Runs Md Γ p (k (Md.w.draws src (s.drawn.get src) % n)) [] { s with drawn := s.drawn.bump src } e s'
  | .os q _ k => Runs Md Γ p (k (Os.step s.os q).2) [] { s with os := (Os.step s.os q).1 } e s'
  | .handled own k => Runs Md Γ p (k (if own then Γ.own else Γ.handled)) [] s e s'
  | .genState g k => ∃ st, s.gens[g]? = some st ∧ Runs Md Γ p (k st.seen) [] s e s'
  | .stack k => Runs Md Γ p (k ((Γ.code, p) :: Γ.below)) [] s e s'
  | .thread k => Runs Md Γ p (k 0) [] s e s'
  | .newGen c k => Runs Md Γ p (k s.gens.size) [] { s with gens := s.gens.push (.fresh c) } e s'
  | .call c h g l k => ∃ e₁ s₁, Runs Md (Γ.enter c h p) p (Md.den c) [] s e₁ s₁ ∧ Called Md Γ p h g l k s₁ e s' e₁
  | .yield v g l k => e = .susp v g l k Γ.code p [] ∧ s' = s
  | .resume g r _ k => ∃ res s₁, Wakes Md Γ p g r s res s₁ ∧ Runs Md Γ p (k res) [] s₁ e s'
  | _ => False
def Inv0 (Md : Model) (Γ : PySem.Ctx) (p : Pos) (t : Sem Fin) (s : Shared) (e : End) (s' : Shared) : List Frame → Prop
  | [] => Step Md Γ p s e s' t
  | F :: fs => ∃ e₁ s₁, Runs Md (Γ.over (F :: fs)) p t [] s e₁ s₁ ∧ Behind Md Γ s₁ F fs e s' e₁
theorem wakes_just {Md : Model} {Γ : PySem.Ctx} {p : Pos} {g : Nat} {v : Value} {c : Code} {s : Shared} (hg : s.gens[g]? = some (.fresh c)) (n : v ≠ .none) : Wakes Md Γ p g (.send v) s .justStarted s := by
  unfold Wakes; rw [hg]
  cases v <;> first | exact ⟨rfl, rfl⟩ | exact absurd rfl n
theorem wakes_just_inv {Md : Model} {Γ : PySem.Ctx} {p : Pos} {g : Nat} {v : Value} {c : Code} {s s₃ : Shared} {res : GenResult} (hg : s.gens[g]? = some (.fresh c)) (n : v ≠ .none) (a : Wakes Md Γ p g (.send v) s res s₃) : res = .justStarted ∧ s₃ = s := by
  unfold Wakes at a; rw [hg] at a
  cases v <;> first | exact a | exact absurd rfl n
theorem runs_inv {Md : Model} {Γ : PySem.Ctx} {p : Pos} {t : Sem Fin} {fs : List Frame} {s s' : Shared} {e : End} (h : Runs Md Γ p t fs s e s') : Inv0 Md Γ p t s e s' fs := by
  cases h with
  | done => exact ⟨rfl, rfl⟩
  | raise => exact ⟨rfl, rfl⟩
  | again _ a => exact a
  | rule a => exact a
  | «at» a => exact a
  | load g a => exact ⟨_, g, a⟩
  | update _ a => exact a
  | loadIfAlive a => exact a
  | point a => exact a
  | alloc a => exact a
  | fresh a => exact a
  | ask a => exact a
  | choose _ a => exact a
  | os a => exact a
  | handled a => exact a
  | genState g a => exact ⟨_, g, a⟩
  | stack a => exact a
  | thread a => exact a
  | newGen a => exact a
  | call a b => exact ⟨_, _, a, b⟩
  | callSusp a => exact ⟨_, _, a, rfl, rfl⟩
  | yield => exact ⟨rfl, rfl⟩
  | resumeFresh g a q b => exact ⟨_, _, by unfold Wakes; rw [g]; exact ⟨_, _, a, q, rfl, rfl⟩, b⟩
  | resumeSuspended g a q b => exact ⟨_, _, by unfold Wakes; rw [g]; exact ⟨_, _, a, q, rfl, rfl⟩, b⟩
  | resumeJustStarted hg n b => exact ⟨_, _, wakes_just hg n, b⟩
  | resumeThrowFresh g b => exact ⟨_, _, by unfold Wakes; rw [g]; exact ⟨rfl, rfl⟩, b⟩
  | resumeRunning g b => exact ⟨_, _, by unfold Wakes; rw [g]; exact ⟨rfl, rfl⟩, b⟩
  | resumeFinished g b => exact ⟨_, _, by unfold Wakes; rw [g]; exact ⟨rfl, rfl⟩, b⟩
  | segRet a b => exact ⟨_, _, a, b⟩
  | segGen a b => exact ⟨_, _, a, b⟩
  | segSuspOut g a => exact ⟨_, _, a, by unfold Behind; rw [g]; exact ⟨rfl, rfl⟩⟩
  | segSuspGen g a q b => exact ⟨_, _, a, by unfold Behind; rw [g]; exact b⟩
def Det (Md : Model) (Γ : PySem.Ctx) (p : Pos) (t : Sem Fin) (fs : List Frame) (s : Shared) (e : End) (s' : Shared) : Prop := ∀ e₂ s₂, Runs Md Γ p t fs s e₂ s₂ → e = e₂ ∧ s' = s₂
theorem woke {Md : Model} {Γ Γ' : PySem.Ctx} {p p' : Pos} {t : Sem Fin} {fs : List Frame} {s₀ s₁ t₁ s' s₂ : Shared} {e₁ e e₂ : End} {g : Nat} {k : GenResult → Sem Fin} {res : GenResult}
    (ih1 : Det Md Γ' p' t fs s₀ e₁ s₁) (ih2 : Det Md Γ p (k e₁.result) [] (s₁.setGen g e₁.genState) e s')
    (hw : ∃ e₁ s₁, Runs Md Γ' p' t fs s₀ e₁ s₁ ∧ e₁.quiet = true ∧ res = e₁.result ∧ t₁ = s₁.setGen g e₁.genState) (hb : Runs Md Γ p (k res) [] t₁ e₂ s₂) : e = e₂ ∧ s' = s₂ := by
  obtain ⟨e₃, s₃, a, _, rfl, rfl⟩ := hw
  obtain ⟨rfl, rfl⟩ := ih1 _ _ a
  exact ih2 _ _ hb
theorem runs_det0 {Md : Model} {Γ : PySem.Ctx} {p : Pos} {t : Sem Fin} {fs : List Frame} {s s' : Shared} {e : End} (h : Runs Md Γ p t fs s e s') : Det Md Γ p t fs s e s' := by
  induction h with
  | done => intro e₂ s₂ h; obtain ⟨rfl, rfl⟩ := runs_inv h; exact ⟨rfl, rfl⟩
  | raise => intro e₂ s₂ h; obtain ⟨rfl, rfl⟩ := runs_inv h; exact ⟨rfl, rfl⟩
  | again _ _ ih => exact fun _ _ h => ih _ _ (runs_inv h)
  | rule _ ih => exact fun _ _ h => ih _ _ (runs_inv h)
  | «at» _ ih => exact fun _ _ h => ih _ _ (runs_inv h)
  | load g _ ih => intro e₂ s₂ h; obtain ⟨o, g', a⟩ := runs_inv h; cases g.symm.trans g'; exact ih _ _ a
  | update _ _ ih => exact fun _ _ h => ih _ _ (runs_inv h)
  | loadIfAlive _ ih => exact fun _ _ h => ih _ _ (runs_inv h)
  | point _ ih => exact fun _ _ h => ih _ _ (runs_inv h)
  | alloc _ ih => exact fun _ _ h => ih _ _ (runs_inv h)
  | fresh _ ih => exact fun _ _ h => ih _ _ (runs_inv h)
  | ask _ ih => exact fun _ _ h => ih _ _ (runs_inv h)
  | choose _ _ ih => exact fun _ _ h => ih _ _ (runs_inv h)
  | os _ ih => exact fun _ _ h => ih _ _ (runs_inv h)
  | handled _ ih => exact fun _ _ h => ih _ _ (runs_inv h)
  | genState g _ ih => intro e₂ s₂ h; obtain ⟨o, g', a⟩ := runs_inv h; cases g.symm.trans g'; exact ih _ _ a
  | stack _ ih => exact fun _ _ h => ih _ _ (runs_inv h)
  | thread _ ih => exact fun _ _ h => ih _ _ (runs_inv h)
  | newGen _ ih => exact fun _ _ h => ih _ _ (runs_inv h)
  | call _ _ ih1 ih2 =>
    intro e₂ s₂ h
    obtain ⟨e₁, s₁, a, b⟩ := runs_inv h
    obtain ⟨rfl, rfl⟩ := ih1 _ _ a
    exact ih2 _ _ b
  | callSusp _ ih1 =>
    intro e₂ s₂ h
    obtain ⟨e₁, s₁, a, b⟩ := runs_inv h
    obtain ⟨rfl, rfl⟩ := ih1 _ _ a
    obtain ⟨rfl, rfl⟩ := b
    exact ⟨rfl, rfl⟩
  | yield => intro e₂ s₂ h; obtain ⟨rfl, rfl⟩ := runs_inv h; exact ⟨rfl, rfl⟩
  | resumeFresh g _ _ _ ih1 ih2 =>
    intro e₂ s₂ h
    obtain ⟨res, s₃, a, b⟩ := runs_inv h
    unfold Wakes at a; rw [g] at a
    exact woke ih1 ih2 a b
  | resumeSuspended g _ _ _ ih1 ih2 =>
    intro e₂ s₂ h
    obtain ⟨res, s₃, a, b⟩ := runs_inv h
    unfold Wakes at a; rw [g] at a
    exact woke ih1 ih2 a b
  | resumeJustStarted hg n _ ih =>
    intro e₂ s₂ h
    obtain ⟨res, s₃, a, b⟩ := runs_inv h
    obtain ⟨rfl, rfl⟩ := wakes_just_inv hg n a
    exact ih _ _ b
  | resumeThrowFresh g _ ih =>
    intro e₂ s₂ h
    obtain ⟨res, s₃, a, b⟩ := runs_inv h
    unfold Wakes at a; rw [g] at a
    obtain ⟨rfl, rfl⟩ := a
    exact ih _ _ b
  | resumeRunning g _ ih =>
    intro e₂ s₂ h
    obtain ⟨res, s₃, a, b⟩ := runs_inv h
    unfold Wakes at a; rw [g] at a
    obtain ⟨rfl, rfl⟩ := a
    exact ih _ _ b
  | resumeFinished g _ ih =>
    intro e₂ s₂ h
    obtain ⟨res, s₃, a, b⟩ := runs_inv h
    unfold Wakes at a; rw [g] at a
    obtain ⟨rfl, rfl⟩ := a
    exact ih _ _ b
  | segRet _ _ ih1 ih2 =>
    intro e₂ s₂ h
    obtain ⟨e₁, s₁, a, b⟩ := runs_inv h
    obtain ⟨rfl, rfl⟩ := ih1 _ _ a
    exact ih2 _ _ b
  | segGen _ _ ih1 ih2 =>
    intro e₂ s₂ h
    obtain ⟨e₁, s₁, a, b⟩ := runs_inv h
    obtain ⟨rfl, rfl⟩ := ih1 _ _ a
    exact ih2 _ _ b
  | segSuspOut g _ ih1 =>
    intro e₂ s₂ h
    obtain ⟨e₁, s₁, a, b⟩ := runs_inv h
    obtain ⟨rfl, rfl⟩ := ih1 _ _ a
    unfold Behind at b; rw [g] at b
    obtain ⟨rfl, rfl⟩ := b
    exact ⟨rfl, rfl⟩
  | segSuspGen g _ _ _ ih1 ih2 =>
    intro e₂ s₂ h
    obtain ⟨e₁, s₁, a, b⟩ := runs_inv h
    obtain ⟨rfl, rfl⟩ := ih1 _ _ a
    unfold Behind at b; rw [g] at b
    exact ih2 _ _ b
theorem runs_det {M : Model} {Γ : PySem.Ctx} {p : Pos} {t : Sem Fin} {fs : List Frame} {s s' : Shared} {e : End} (h : Runs M Γ p t fs s e s') {e₂ : End} {s₂ : Shared} (h₂ : Runs M Γ p t fs s e₂ s₂) : e = e₂ ∧ s' = s₂ := runs_det0 h _ _ h₂
theorem wakes_det {M : Model} {Γ : PySem.Ctx} {p : Pos} {g : Nat} {r : Resume} {s s₁ s₂ : Shared} {r₁ r₂ : GenResult} (h₁ : Wakes M Γ p g r s r₁ s₁) (h₂ : Wakes M Γ p g r s r₂ s₂) : r₁ = r₂ ∧ s₁ = s₂ := by
  unfold Wakes at h₁ h₂
  split at h₁
  · exact h₁.elim
  · rename_i hg
    rw [hg] at h₂
    cases r with
    | throw x => obtain ⟨rfl, rfl⟩ := h₁; obtain ⟨rfl, rfl⟩ := h₂; exact ⟨rfl, rfl⟩
    | send v =>
      cases v
      case none =>
        obtain ⟨e, t, a, _, rfl, rfl⟩ := h₁
        obtain ⟨e', t', a', _, rfl, rfl⟩ := h₂
        obtain ⟨rfl, rfl⟩ := runs_det a a'
        exact ⟨rfl, rfl⟩
      all_goals (obtain ⟨rfl, rfl⟩ := h₁; obtain ⟨rfl, rfl⟩ := h₂; exact ⟨rfl, rfl⟩)
  · rename_i hg
    rw [hg] at h₂
    obtain ⟨e, t, a, _, rfl, rfl⟩ := h₁
    obtain ⟨e', t', a', _, rfl, rfl⟩ := h₂
    obtain ⟨rfl, rfl⟩ := runs_det a a'
    exact ⟨rfl, rfl⟩
  · rename_i hg
    rw [hg] at h₂
    obtain ⟨rfl, rfl⟩ := h₁; obtain ⟨rfl, rfl⟩ := h₂; exact ⟨rfl, rfl⟩
  · rename_i hg
    rw [hg] at h₂
    obtain ⟨rfl, rfl⟩ := h₁; obtain ⟨rfl, rfl⟩ := h₂; exact ⟨rfl, rfl⟩
theorem wp_both {α : Type} (M : Model) (Γ : PySem.Ctx) (t : Sem α) : ∀ (Q Q' : α → Pos → Shared → Prop) (E E' : Value → Pos → Shared → Prop) (p : Pos) (s : Shared), Sem.wp M Γ t Q E p s → Sem.wp M Γ t Q' E' p s →
    Sem.wp M Γ t (fun a p' s' => Q a p' s' ∧ Q' a p' s') (fun e p' s' => E e p' s' ∧ E' e p' s') p s := by
  induction t with
  | pure a => intro Q Q' E E' p s h h'; exact ⟨h, h'⟩
  | raise e => intro Q Q' E E' p s h h'; exact ⟨h, h'⟩
  | unsupported _ => intro Q Q' E E' p s h h'; exact h
  | finish _ => intro Q Q' E E' p s h h'; exact h
  | rule _ k ih => intro Q Q' E E' p s h h'; exact ih () Q Q' E E' p s h h'
  | «at» p' k ih => intro Q Q' E E' p s h h'; exact ih () Q Q' E E' p' s h h'
  | load a _ k ih =>
    intro Q Q' E E' p s h h'
    obtain ⟨o, ho, h⟩ := h
    obtain ⟨o', ho', h'⟩ := h'
    rw [ho] at ho'; cases ho'
    exact ⟨o, ho, ih o Q Q' E E' p s h h'⟩
  | update a _ f k ih => intro Q Q' E E' p s h h'; exact ⟨h.1, ih () Q Q' E E' p _ h.2 h'.2⟩
  | loadIfAlive a k ih => intro Q Q' E E' p s h h'; exact ih _ Q Q' E E' p s h h'
  | point _ k ih => intro Q Q' E E' p s h h'; exact ih () Q Q' E E' p s h h'
  | register _ _ => intro Q Q' E E' p s h h'; exact h
  | alloc o k ih => intro Q Q' E E' p s h h'; exact ih _ Q Q' E E' p _ h h'
  | fresh k ih => intro Q Q' E E' p s h h'; exact ih _ Q Q' E E' p _ h h'
  | ask k ih => intro Q Q' E E' p s h h'; exact ih _ Q Q' E E' p s h h'
  | choose src m k ih => intro Q Q' E E' p s h h'; exact ⟨h.1, ih _ Q Q' E E' p _ h.2 h'.2⟩
  | os q _ k ih => intro Q Q' E E' p s h h'; exact ih _ Q Q' E E' p _ h h'
  | call c hd _ _ k ih =>
    intro Q Q' E E' p s h h'
    obtain ⟨r, t, hr, h⟩ := h
    obtain ⟨r', t', hr', h'⟩ := h'
    obtain ⟨e1, e2⟩ := runs_det hr hr'
    cases e1; subst e2
    exact ⟨r, t, hr, ih r Q Q' E E' p t h h'⟩
  | handled own k ih => intro Q Q' E E' p s h h'; exact ih _ Q Q' E E' p s h h'
  | genState g k ih =>
    intro Q Q' E E' p s h h'
    obtain ⟨o, ho, h⟩ := h
    obtain ⟨o', ho', h'⟩ := h'
    rw [ho] at ho'; cases ho'
    exact ⟨o, ho, ih _ Q Q' E E' p s h h'⟩
  | newGen c k ih => intro Q Q' E E' p s h h'; exact ih _ Q Q' E E' p _ h h'
  | resume g r _ k ih =>
    intro Q Q' E E' p s h h'
    obtain ⟨r, t, hr, h⟩ := h
    obtain ⟨r', t', hr', h'⟩ := h'
    obtain ⟨rfl, rfl⟩ := wakes_det hr hr'
    exact ⟨r, t, hr, ih r Q Q' E E' p t h h'⟩
  | yield _ _ _ _ => intro Q Q' E E' p s h h'; exact h
  | stack k ih => intro Q Q' E E' p s h h'; exact ih _ Q Q' E E' p s h h'
  | fork _ _ => intro Q Q' E E' p s h h'; exact h
  | thread k ih => intro Q Q' E E' p s h h'; exact ih _ Q Q' E E' p s h h'
  | await _ _ _ _ _ => intro Q Q' E E' p s h h'; exact h
theorem wpAny_both {α : Type} {M : Model} {A : Around} {t : Sem α} {s : Shared} {Q Q' : α → Shared → Prop} {E E' : Value → Shared → Prop} (h : wpAny M A t Q E s) (h' : wpAny M A t Q' E' s) :
    wpAny M A t (fun a s' => Q a s' ∧ Q' a s') (fun e s' => E e s' ∧ E' e s') s := fun Γ p hΓ => wp_both M Γ t _ _ _ _ p s (h Γ p hΓ) (h' Γ p hΓ)
end Mine
end
section
open PySem PySem.W PySem.Calls PyProof.Rows
namespace Mine

/-! pure data, and how a heap holds it -/
inductive Atom where
  | int (i : Int)
  | str (s : Str)
  deriving DecidableEq

inductive D where
  | none
  | bool (b : Bool)
  | int (i : Int)
  | str (s : Str)
  | tup (ds : List D)
  | lst (ds : List D)
  | dic (es : List (List Atom × Int))
  | rng (a : Int) (n : Nat)
  | items (es : List (List Atom × Int))
  | vals (es : List (List Atom × Int))
  | ptr (a : Addr)

def Atom.isV : Atom → Value → Bool
  | .int i, .int j _ => i == j
  | .str s, .str t _ => s == t
  | _, _ => false

theorem Atom.shape {k : Atom} {v : Value} (h : k.isV v = true) : (∃ i t, k = .int i ∧ v = .int i t) ∨ (∃ x t, k = .str x ∧ v = .str x t) := by
  cases k with
  | int i => cases v <;> simp [Atom.isV] at h; subst h; exact .inl ⟨_, _, rfl, rfl⟩
  | str s => cases v <;> simp [Atom.isV] at h; subst h; exact .inr ⟨_, _, rfl, rfl⟩

def Atom.hash (w : World) : Atom → Int
  | .int i => hashInt i
  | .str s => hashStr w s

theorem eqBool_ints_strs {prog : Program} {w : World} {A : Around} {E : Value → Shared → Prop} {s : Shared} {i : Int} {t : Tok} {x : Str} {u : Tok} {Q : Bool → Shared → Prop} (h : Q false s) :
    wpAny (model prog w) A (PySem.eqBool (.int i t) (.str x u)) Q E s := by
  unfold PySem.eqBool
  refine wpAny_holding ?_
  rw [if_neg (by rw [show (Value.int i t == Value.str x u) = false from by simp]; exact Bool.false_ne_true)]
  refine wpAny_bind ?_
  exact PySem.EqMixed.eq_int_str (a := i) (t := t) (b := x) (u := u) (Q := fun v s' => wpAny (model prog w) A (truthOfDropped v) Q E s') (wpAny_truthy_bool h)

theorem eqBool_strs_ints {prog : Program} {w : World} {A : Around} {E : Value → Shared → Prop} {s : Shared} {i : Int} {t : Tok} {x : Str} {u : Tok} {Q : Bool → Shared → Prop} (h : Q false s) :
    wpAny (model prog w) A (PySem.eqBool (.str x u) (.int i t)) Q E s := by
  unfold PySem.eqBool
  refine wpAny_holding ?_
  rw [if_neg (by rw [show (Value.str x u == Value.int i t) = false from by simp]; exact Bool.false_ne_true)]
  refine wpAny_bind ?_
  exact PySem.EqMixed.eq_str_int (a := x) (t := u) (b := i) (u := t) (Q := fun v s' => wpAny (model prog w) A (truthOfDropped v) Q E s') (wpAny_truthy_bool h)

def atomKind (prog : Program) (w : World) : KeyKind prog w Atom where
  is := Atom.isV
  hash := Atom.hash w
  inj := fun v a b ha hb => by
    rcases Atom.shape ha with ⟨i, t, rfl, rfl⟩ | ⟨i, t, rfl, rfl⟩ <;> rcases Atom.shape hb with ⟨j, u, rfl, e⟩ | ⟨j, u, rfl, e⟩ <;> cases e <;> rfl
  byValue := fun k v h => by rcases Atom.shape h with ⟨i, t, rfl, rfl⟩ | ⟨i, t, rfl, rfl⟩ <;> rfl
  pyHash := fun hv h => by
    rcases Atom.shape hv with ⟨i, t, rfl, rfl⟩ | ⟨i, t, rfl, rfl⟩
    · exact wpAny_pyHash_int h
    · exact wpAny_pyHash_str h
  eqBool := fun hu hv h => by
    rcases Atom.shape hu with ⟨i, t, rfl, rfl⟩ | ⟨i, t, rfl, rfl⟩ <;> rcases Atom.shape hv with ⟨j, u, rfl, rfl⟩ | ⟨j, u, rfl, rfl⟩
    · exact wpAny_eqBool_int (by simpa [Bool.beq_eq_decide_eq] using h)
    · exact eqBool_ints_strs (by simpa using h)
    · exact eqBool_strs_ints (by simpa using h)
    · exact wpAny_eqBool_str (by simpa using h)
  «strs» := fun k x t v h => by
    rcases Atom.shape h with ⟨i, u, rfl, e⟩ | ⟨i, u, rfl, e⟩
    · cases e
    · cases e
      cases v <;> first
        | rfl
        | (rename_i y _
           show (x == y) = (y == x)
           by_cases e : x = y
           · subst e; rfl
           · rw [beq_eq_false_iff_ne.mpr e, beq_eq_false_iff_ne.mpr (Ne.symm e)])

abbrev tkind (prog : Program) (w : World) : HeapKind prog w (List Atom) := tupleKind (atomKind prog w)

set_option genInjectivity false in
/-- what stays fixed: the program, the world, the names' values, the written objects, the two tables of the nested defs -/
structure Cfg where
  prog : Program
  w : World
  mg : Str → Option Value
  mb : Str → Option Value
  K : Frag
  tabs : List (Addr × Addr × Pos × Str)
  ob : Obj

abbrev ASet := Addr → Prop
def Cfg.T (C : Cfg) : ASet := fun a => (∃ q ∈ C.tabs, q.2.1 = a) ∨ a = builtinsNs

def valOf (v : Value) : Int := match v with | .int i _ => i | _ => 0
/-- a dict of this law: keys are tuples of ints and texts, values are ints -/
def DictIs (C : Cfg) (h : Heap) (M : ASet) (a : Addr) (es : List (List Atom × Int)) : Prop :=
  ∃ xs : List (List Atom × Addr × Value), h.DictOfH (tkind C.prog C.w) a xs ∧ (∀ x ∈ xs, ¬ M x.2.1) ∧ (∀ x ∈ xs, ∃ i t, x.2.2 = .int i t ∧ True) ∧ xs.map (fun x => (x.1, valOf x.2.2)) = es

mutual
inductive Has (C : Cfg) (h : Heap) (M : ASet) : Value → D → Prop
  | none : Has C h M .none .none
  | bool (b : Bool) : Has C h M (.bool b) (.bool b)
  | int (i : Int) (t : Tok) : Has C h M (.int i t) (.int i)
  | str (s : Str) (t : Tok) : Has C h M (.str s t) (.str s)
  | ptr (a : Addr) : Has C h M (.ref a) (.ptr a)
  | tup {a : Addr} {items : Array Value} {ds : List D} : ¬ M a → h.IsTuple a items → HasL C h M items.toList ds → Has C h M (.ref a) (.tup ds)
  | lst {a : Addr} {items : Array Value} {ds : List D} : ¬ M a → h.IsList a items → HasL C h M items.toList ds → Has C h M (.ref a) (.lst ds)
  | dic {a : Addr} {es : List (List Atom × Int)} : ¬ M a → a ≠ sysModules → DictIs C h M a es → Has C h M (.ref a) (.dic es)
  | rng {a : Addr} {x : Int} {n : Nat} : ¬ M a → (∃ t u v, IsRange h a x (x + n) 1 t u v) → -(2 ^ 60) ≤ x → x + n < 2 ^ 60 → n ≤ 2 ^ 24 → Has C h M (.ref a) (.rng x n)
  | items {a d : Addr} {es : List (List Atom × Int)} : ¬ M a → h.IsItemsView a d → ¬ M d → DictIs C h M d es → Has C h M (.ref a) (.items es)
  | vals {a d : Addr} {es : List (List Atom × Int)} : ¬ M a → h.IsValuesView a d → ¬ M d → DictIs C h M d es → Has C h M (.ref a) (.vals es)
inductive HasL (C : Cfg) (h : Heap) (M : ASet) : List Value → List D → Prop
  | nil : HasL C h M [] []
  | cons {v : Value} {d : D} {vs : List Value} {ds : List D} : Has C h M v d → HasL C h M vs ds → HasL C h M (v :: vs) (d :: ds)
end


theorem DictIs.keep {C : Cfg} {h h' : Heap} {M : ASet} {a : Addr} {es : List (List Atom × Int)} (k : ∀ b o, ¬ M b → h.get? b = some o → h'.get? b = some o) (ha : ¬ M a) (x : DictIs C h M a es) : DictIs C h' M a es := by
  obtain ⟨xs, ⟨o, es', ep, ho, r1, r2, r3, r4, r5⟩, hM, hi, hm⟩ := x
  refine ⟨xs, ⟨o, es', ep, k _ _ ha ho, r1, r2, r3, fun y hy => ?_, r5⟩, hM, hi, hm⟩
  obtain ⟨o', items, n, ho', q⟩ := r4 y hy
  exact ⟨o', items, n, k _ _ (hM y hy) ho', q⟩

theorem DictIs.grow {C : Cfg} {h : Heap} {M M' : ASet} {a : Addr} {es : List (List Atom × Int)} (k : ∀ b o, M' b → ¬ M b → h.get? b = some o → False) (x : DictIs C h M a es) : DictIs C h M' a es := by
  obtain ⟨xs, hd, hM, hi, hm⟩ := x
  refine ⟨xs, hd, fun y hy hb => ?_, hi, hm⟩
  obtain ⟨o, es', ep, ho, r1, r2, r3, r4, r5⟩ := hd
  obtain ⟨o', items, n, ho', q⟩ := r4 y hy
  exact k _ _ hb (hM y hy) ho'

mutual
theorem Has.keep {C : Cfg} {h h' : Heap} {M : ASet} (k : ∀ b o, ¬ M b → h.get? b = some o → h'.get? b = some o) : ∀ {v : Value} {d : D}, Has C h M v d → Has C h' M v d
  | _, _, .none => .none
  | _, _, .bool b => .bool b
  | _, _, .int i t => .int i t
  | _, _, .str s t => .str s t
  | _, _, .ptr a => .ptr a
  | _, _, .tup ha ht hl => .tup ha (ht.at fun o e => k _ o ha e) (HasL.keep k hl)
  | _, _, .lst ha ht hl => .lst ha (ht.at fun o e => k _ o ha e) (HasL.keep k hl)
  | _, _, .dic ha hs hd => .dic ha hs (hd.keep k ha)
  | _, _, .rng ha ⟨t, u, v, hr⟩ h1 h2 h3 => .rng ha ⟨t, u, v, k _ _ ha hr⟩ h1 h2 h3
  | _, _, .items ha ⟨o, ho, r⟩ hd hD => .items ha ⟨o, k _ _ ha ho, r⟩ hd (hD.keep k hd)
  | _, _, .vals ha ⟨o, ho, r⟩ hd hD => .vals ha ⟨o, k _ _ ha ho, r⟩ hd (hD.keep k hd)
theorem HasL.keep {C : Cfg} {h h' : Heap} {M : ASet} (k : ∀ b o, ¬ M b → h.get? b = some o → h'.get? b = some o) : ∀ {vs : List Value} {ds : List D}, HasL C h M vs ds → HasL C h' M vs ds
  | _, _, .nil => .nil
  | _, _, .cons a b => .cons (Has.keep k a) (HasL.keep k b)
end

mutual
theorem Has.grow {C : Cfg} {h : Heap} {M M' : ASet} (k : ∀ b o, M' b → ¬ M b → h.get? b = some o → False) : ∀ {v : Value} {d : D}, Has C h M v d → Has C h M' v d
  | _, _, .none => .none
  | _, _, .bool b => .bool b
  | _, _, .int i t => .int i t
  | _, _, .str s t => .str s t
  | _, _, .ptr a => .ptr a
  | _, _, .tup ha ⟨o, ho, r⟩ hl => .tup (fun hb => k _ _ hb ha ho) ⟨o, ho, r⟩ (HasL.grow k hl)
  | _, _, .lst ha ⟨o, ho, r⟩ hl => .lst (fun hb => k _ _ hb ha ho) ⟨o, ho, r⟩ (HasL.grow k hl)
  | _, _, .dic ha hs hd => .dic (fun hb => by obtain ⟨xs, ⟨o, es', ep, ho, _⟩, _⟩ := hd; exact k _ _ hb ha ho) hs (hd.grow k)
  | _, _, .rng ha ⟨t, u, v, hr⟩ h1 h2 h3 => .rng (fun hb => k _ _ hb ha hr) ⟨t, u, v, hr⟩ h1 h2 h3
  | _, _, .items ha ⟨o, ho, r⟩ hd hD => .items (fun hb => k _ _ hb ha ho) ⟨o, ho, r⟩ (fun hb => by obtain ⟨xs, ⟨o, es', ep, ho, _⟩, _⟩ := hD; exact k _ _ hb hd ho) (hD.grow k)
  | _, _, .vals ha ⟨o, ho, r⟩ hd hD => .vals (fun hb => k _ _ hb ha ho) ⟨o, ho, r⟩ (fun hb => by obtain ⟨xs, ⟨o, es', ep, ho, _⟩, _⟩ := hD; exact k _ _ hb hd ho) (hD.grow k)
theorem HasL.grow {C : Cfg} {h : Heap} {M M' : ASet} (k : ∀ b o, M' b → ¬ M b → h.get? b = some o → False) : ∀ {vs : List Value} {ds : List D}, HasL C h M vs ds → HasL C h M' vs ds
  | _, _, .nil => .nil
  | _, _, .cons a b => .cons (Has.grow k a) (HasL.grow k b)
end

theorem DictIs.anti {C : Cfg} {h : Heap} {M M' : ASet} {a : Addr} {es : List (List Atom × Int)} (k : ∀ b, M b → M' b) (x : DictIs C h M' a es) : DictIs C h M a es :=
  let ⟨xs, hd, hM, hi, hm⟩ := x; ⟨xs, hd, fun y hy hb => hM y hy (k _ hb), hi, hm⟩
mutual
theorem Has.anti {C : Cfg} {h : Heap} {M M' : ASet} (k : ∀ b, M b → M' b) : ∀ {v : Value} {d : D}, Has C h M' v d → Has C h M v d
  | _, _, .none => .none
  | _, _, .bool b => .bool b
  | _, _, .int i t => .int i t
  | _, _, .str s t => .str s t
  | _, _, .ptr a => .ptr a
  | _, _, .tup ha ht hl => .tup (fun q => ha (k _ q)) ht (HasL.anti k hl)
  | _, _, .lst ha ht hl => .lst (fun q => ha (k _ q)) ht (HasL.anti k hl)
  | _, _, .dic ha hs hd => .dic (fun q => ha (k _ q)) hs (hd.anti k)
  | _, _, .rng ha hr h1 h2 h3 => .rng (fun q => ha (k _ q)) hr h1 h2 h3
  | _, _, .items ha ho hd hD => .items (fun q => ha (k _ q)) ho (fun q => hd (k _ q)) (hD.anti k)
  | _, _, .vals ha ho hd hD => .vals (fun q => ha (k _ q)) ho (fun q => hd (k _ q)) (hD.anti k)
theorem HasL.anti {C : Cfg} {h : Heap} {M M' : ASet} (k : ∀ b, M b → M' b) : ∀ {vs : List Value} {ds : List D}, HasL C h M' vs ds → HasL C h M vs ds
  | _, _, .nil => .nil
  | _, _, .cons a b => .cons (Has.anti k a) (HasL.anti k b)
end
theorem HasL.length {C : Cfg} {h : Heap} {M : ASet} : ∀ {vs : List Value} {ds : List D}, HasL C h M vs ds → vs.length = ds.length
  | _, _, .nil => rfl
  | _, _, .cons _ b => congrArg (· + 1) b.length
theorem HasL.get {C : Cfg} {h : Heap} {M : ASet} : ∀ {vs : List Value} {ds : List D}, HasL C h M vs ds → ∀ {i : Nat} {v : Value}, vs[i]? = some v → ∃ d, ds[i]? = some d ∧ Has C h M v d
  | _, _, .nil, i, v, e => by simp at e
  | _, _, .cons a b, 0, v, e => by simp at e; subst e; exact ⟨_, rfl, a⟩
  | _, _, .cons a b, i + 1, v, e => by
    obtain ⟨d, h1, h2⟩ := b.get (i := i) (v := v) (by simpa using e)
    exact ⟨d, by simpa using h1, h2⟩
theorem HasL.get' {C : Cfg} {h : Heap} {M : ASet} : ∀ {vs : List Value} {ds : List D}, HasL C h M vs ds → ∀ {i : Nat} {d : D}, ds[i]? = some d → ∃ v, vs[i]? = some v ∧ Has C h M v d
  | _, _, .nil, i, v, e => by simp at e
  | _, _, .cons a b, 0, v, e => by simp at e; subst e; exact ⟨_, rfl, a⟩
  | _, _, .cons a b, i + 1, v, e => by
    obtain ⟨d, h1, h2⟩ := b.get' (i := i) (d := v) (by simpa using e)
    exact ⟨d, by simpa using h1, h2⟩
theorem HasL.append {C : Cfg} {h : Heap} {M : ASet} : ∀ {vs ws : List Value} {ds es : List D}, HasL C h M vs ds → HasL C h M ws es → HasL C h M (vs ++ ws) (ds ++ es)
  | _, _, _, _, .nil, y => y
  | _, _, _, _, .cons a b, y => .cons a (b.append y)
theorem HasL.drop {C : Cfg} {h : Heap} {M : ASet} : ∀ {vs : List Value} {ds : List D} (n : Nat), HasL C h M vs ds → HasL C h M (vs.drop n) (ds.drop n)
  | _, _, 0, y => y
  | _, _, _ + 1, .nil => .nil
  | _, _, n + 1, .cons _ b => HasL.drop n b
theorem HasL.take {C : Cfg} {h : Heap} {M : ASet} : ∀ {vs : List Value} {ds : List D} (n : Nat), HasL C h M vs ds → HasL C h M (vs.take n) (ds.take n)
  | _, _, 0, _ => by simpa using .nil
  | _, _, _ + 1, .nil => .nil
  | _, _, n + 1, .cons a b => .cons a (HasL.take n b)
theorem HasL.ints {C : Cfg} {h : Heap} {M : ASet} : ∀ {vs : List Value} {ns : List Int}, IntsAre vs ns → HasL C h M vs (ns.map D.int)
  | _, _, .nil => .nil
  | _, _, .cons i t r => .cons (.int i t) (HasL.ints r)
theorem HasL.nil_inv {C : Cfg} {h : Heap} {M : ASet} {vs : List Value} (g : HasL C h M vs []) : vs = [] := by cases g; rfl
theorem HasL.cons_inv {C : Cfg} {h : Heap} {M : ASet} {vs : List Value} {d : D} {ds : List D} (g : HasL C h M vs (d :: ds)) : ∃ v us, vs = v :: us ∧ Has C h M v d ∧ HasL C h M us ds := by cases g with | cons a b => exact ⟨_, _, rfl, a, b⟩
theorem Has.int_inv {C : Cfg} {h : Heap} {M : ASet} {v : Value} {i : Int} (g : Has C h M v (.int i)) : ∃ t, v = .int i t := by cases g; exact ⟨_, rfl⟩
theorem Has.str_inv {C : Cfg} {h : Heap} {M : ASet} {v : Value} {s : Str} (g : Has C h M v (.str s)) : ∃ t, v = .str s t := by cases g; exact ⟨_, rfl⟩
theorem Has.bool_inv {C : Cfg} {h : Heap} {M : ASet} {v : Value} {b : Bool} (g : Has C h M v (.bool b)) : v = .bool b := by cases g; rfl
theorem Has.lst_inv {C : Cfg} {h : Heap} {M : ASet} {v : Value} {ds : List D} (g : Has C h M v (.lst ds)) : ∃ a items, v = .ref a ∧ ¬ M a ∧ h.IsList a items ∧ HasL C h M items.toList ds := by cases g with | lst a b c => exact ⟨_, _, rfl, a, b, c⟩
theorem Has.tup_inv {C : Cfg} {h : Heap} {M : ASet} {v : Value} {ds : List D} (g : Has C h M v (.tup ds)) : ∃ a items, v = .ref a ∧ ¬ M a ∧ h.IsTuple a items ∧ HasL C h M items.toList ds := by cases g with | tup a b c => exact ⟨_, _, rfl, a, b, c⟩
theorem Has.dic_inv {C : Cfg} {h : Heap} {M : ASet} {v : Value} {es : List (List Atom × Int)} (g : Has C h M v (.dic es)) : ∃ a, v = .ref a ∧ ¬ M a ∧ a ≠ sysModules ∧ DictIs C h M a es := by cases g with | dic a b c => exact ⟨_, rfl, a, b, c⟩
theorem Has.rng_inv {C : Cfg} {h : Heap} {M : ASet} {v : Value} {x : Int} {n : Nat} (g : Has C h M v (.rng x n)) : ∃ a, v = .ref a ∧ ¬ M a ∧ (∃ t u v, IsRange h a x (x + n) 1 t u v) ∧ -(2 ^ 60) ≤ x ∧ x + n < 2 ^ 60 ∧ n ≤ 2 ^ 24 := by cases g with | rng a b c d e => exact ⟨_, rfl, a, b, c, d, e⟩
theorem Has.items_inv {C : Cfg} {h : Heap} {M : ASet} {v : Value} {es : List (List Atom × Int)} (g : Has C h M v (.items es)) : ∃ a d, v = .ref a ∧ ¬ M a ∧ h.IsItemsView a d ∧ ¬ M d ∧ DictIs C h M d es := by cases g with | items a b c d => exact ⟨_, _, rfl, a, b, c, d⟩
theorem Has.vals_inv {C : Cfg} {h : Heap} {M : ASet} {v : Value} {es : List (List Atom × Int)} (g : Has C h M v (.vals es)) : ∃ a d, v = .ref a ∧ ¬ M a ∧ h.IsValuesView a d ∧ ¬ M d ∧ DictIs C h M d es := by cases g with | vals a b c d => exact ⟨_, _, rfl, a, b, c, d⟩
theorem Has.ptr_inv {C : Cfg} {h : Heap} {M : ASet} {v : Value} {a : Addr} (g : Has C h M v (.ptr a)) : v = .ref a := by cases g; rfl
theorem HasL.int_inv {C : Cfg} {h : Heap} {M : ASet} {vs : List Value} {i : Int} {ds : List D} (g : HasL C h M vs (.int i :: ds)) : ∃ t us, vs = .int i t :: us ∧ HasL C h M us ds := by
  obtain ⟨v, us, rfl, a, b⟩ := g.cons_inv
  obtain ⟨t, rfl⟩ := a.int_inv
  exact ⟨t, us, rfl, b⟩
theorem HasL.intsAre {C : Cfg} {h : Heap} {M : ASet} {ns : List Int} : ∀ {vs : List Value}, HasL C h M vs (ns.map D.int) → IntsAre vs ns := by
  induction ns with
  | nil => intro vs g; rw [g.nil_inv]; exact .nil
  | cons n ns ih => intro vs g; obtain ⟨t, us, rfl, r⟩ := HasL.int_inv g; exact .cons n t (ih r)
theorem HasL.reverse {C : Cfg} {h : Heap} {M : ASet} : ∀ {vs : List Value} {ds : List D}, HasL C h M vs ds → HasL C h M vs.reverse ds.reverse
  | _, _, .nil => .nil
  | _, _, .cons a b => by rw [List.reverse_cons, List.reverse_cons]; exact b.reverse.append (.cons a .nil)

end Mine
end
section
open PySem PySem.W PySem.Calls PyProof.Rows
namespace Mine

def Ext (W : ASet) (h h' : Heap) : Prop := ∀ b o, ¬ W b → h.get? b = some o → h'.get? b = some o
theorem Ext.refl (W : ASet) (h : Heap) : Ext W h h := fun _ _ _ e => e
theorem Ext.trans {W : ASet} {h₁ h₂ h₃ : Heap} (x : Ext W h₁ h₂) (y : Ext W h₂ h₃) : Ext W h₁ h₃ := fun b o hb e => y b o hb (x b o hb e)
theorem Ext.push (W : ASet) (h : Heap) (o : Obj) : Ext W h (h.push o) := fun _ _ _ e => Heap.get?_push_of_some _ e
theorem get_none_of_le {h : Heap} {a : Addr} (ha : h.objs.size ≤ a) : h.get? a = none := by
  cases e : h.get? a with
  | none => rfl
  | some o => exact absurd (Heap.lt_size e) (Nat.not_lt.mpr ha)

structure Wf (C : Cfg) (M : ASet) (h : Heap) : Prop where
  tM : ∀ a, C.T a → M a
  lt : ∀ a, M a → ∃ o, h.get? a = some o
  g : h.Ns mainGlobals C.mg
  gM : ¬ M mainGlobals
  b : h.Ns builtinsNs C.mb
  b0 : h.get? builtinsNs = some C.ob
  bi : ∀ x : Str, x ≠ "__name__" → C.mb x = bootBuiltins x
  nl : h.NoLimit
  nM : ¬ M cStatics
  k : ∀ a o, C.K.lookup a = some o → h.get? a = some o ∧ ¬ M a
  bt : ∃ bm o, C.mg "__builtins__" = some (.ref bm) ∧ bm ≠ builtinsNs ∧ bm ≠ mainGlobals ∧ h.get? bm = some o ∧ o.cls = .type "module" ∧ o.dict = some builtinsNs ∧ o.data = .plain ∧ ¬ M bm
  tab : ∀ q ∈ C.tabs, q.2.1 ≠ builtinsNs ∧ ¬ M q.1 ∧ CodeHd h q.1 q.2.1 ∧ (h.get? q.2.1 = some (tabObj #[]) ∨ ∃ c', ¬ M c' ∧ h.get? q.2.1 = some (tabObj #[rawInt q.2.2.1.line, rawInt q.2.2.1.col, .ref c']) ∧ h.CodeRec (.ref c') q.2.2.2)

theorem codeHd_at {h h' : Heap} {c P : Addr} (x : CodeHd h c P) (k : ∀ o, h.get? c = some o → h'.get? c = some o) : CodeHd h' c P :=
  let ⟨o, vs, file, tf, flags, tg, inF, text, tt, e, r⟩ := x; ⟨o, vs, file, tf, flags, tg, inF, text, tt, k _ e, r⟩
theorem CodeRec_at {h h' : Heap} {c : Addr} {q : Str} (x : h.CodeRec (.ref c) q) (k : ∀ o, h.get? c = some o → h'.get? c = some o) : h'.CodeRec (.ref c) q := by
  obtain ⟨c', o, vs, t, e, g, r⟩ := x
  cases e
  exact ⟨c, o, vs, t, rfl, k _ g, r⟩

theorem Wf.step {C : Cfg} {M : ASet} {h h' : Heap} (w : Wf C M h) (lv : ∀ a, M a → ¬ C.T a → ∃ o, h'.get? a = some o) (k : ∀ b o, (¬ M b ∨ C.T b) → h.get? b = some o → h'.get? b = some o) : Wf C M h' where
  tM := w.tM
  lt := fun a ha => by
    by_cases hT : C.T a
    · obtain ⟨o, ho⟩ := w.lt a ha; exact ⟨o, k _ _ (.inr hT) ho⟩
    · exact lv a ha hT
  g := w.g.at fun o e => k _ o (.inl w.gM) e
  gM := w.gM
  b := w.b.at fun o e => k _ o (.inr (.inr rfl)) e
  b0 := k _ _ (.inr (.inr rfl)) w.b0
  bi := w.bi
  nl := let ⟨mc, x, y⟩ := w.nl; ⟨mc, x.at fun o e => k _ o (.inl w.nM) e, y⟩
  nM := w.nM
  k := fun a o e => ⟨k _ _ (.inl (w.k a o e).2) (w.k a o e).1, (w.k a o e).2⟩
  bt := let ⟨bm, o, a1, a2, a3, a4, a5, a6, a7, a8⟩ := w.bt; ⟨bm, o, a1, a2, a3, k _ _ (.inl a8) a4, a5, a6, a7, a8⟩
  tab := fun q hq => by
    obtain ⟨h0, h1, h2, h3⟩ := w.tab q hq
    refine ⟨h0, h1, codeHd_at h2 fun o e => k _ o (.inl h1) e, ?_⟩
    have hT : C.T q.2.1 := .inl ⟨q, hq, rfl⟩
    rcases h3 with h3 | ⟨c', n1, n2, n3⟩
    · exact .inl (k _ _ (.inr hT) h3)
    · exact .inr ⟨c', n1, k _ _ (.inr hT) n2, CodeRec_at n3 fun o e => k _ o (.inl n1) e⟩
theorem Wf.keep {C : Cfg} {M : ASet} {h h' : Heap} (w : Wf C M h) (k : ∀ b o, h.get? b = some o → h'.get? b = some o) : Wf C M h' := w.step (fun a ha _ => let ⟨o, ho⟩ := w.lt a ha; ⟨o, k _ _ ho⟩) fun b o _ e => k b o e
theorem Wf.push {C : Cfg} {M : ASet} {h : Heap} (w : Wf C M h) (o : Obj) : Wf C M (h.push o) := w.keep fun b o' e => Heap.get?_push_of_some _ e
theorem Wf.same {C : Cfg} {M : ASet} {h h' : Heap} {a : Addr} (w : Wf C M h) (x : Heap.SameBut a h h') (ha : M a) (hT : ¬ C.T a) (lv : ∃ o, h'.get? a = some o) : Wf C M h' :=
  w.step (fun b hb hT' => if e : b = a then e ▸ lv else let ⟨o, ho⟩ := w.lt b hb; ⟨o, (x.2 b e).trans ho⟩) fun b o hb e => (x.2 b (fun q => by subst q; exact hb.elim (fun n => n ha) hT)).trans e
/-- addresses that were not there join the set of what may turn -/
theorem Wf.more {C : Cfg} {M M' : ASet} {h₀ h : Heap} (w₀ : Wf C M h₀) (w : Wf C M h) (kT : ∀ b o, C.T b → h₀.get? b = some o → h.get? b = some o) (sub : ∀ a, M a → M' a) (new : ∀ a, M' a → M a ∨ (h₀.get? a = none ∧ ∃ o, h.get? a = some o)) : Wf C M' h := by
  have no : ∀ {a o}, h₀.get? a = some o → ¬ M a → ¬ M' a := fun e hn hm => (new _ hm).elim hn fun q => by rw [q.1] at e; cases e
  have nsno : ∀ {a m}, h₀.Ns a m → ¬ M a → ¬ M' a := fun ⟨o, _, _, ho, _⟩ hn => no ho hn
  refine { tM := fun a ha => sub a (w.tM a ha), lt := fun a ha => (new a ha).elim (w.lt a) (·.2), g := w.g, gM := nsno w₀.g w.gM, b := w.b, b0 := w.b0, bi := w.bi, nl := w.nl,
           nM := let ⟨_, x, _⟩ := w₀.nl; nsno x w.nM, k := fun a o e => ⟨(w.k a o e).1, no (w₀.k a o e).1 (w.k a o e).2⟩, bt := ?_, tab := ?_ }
  · obtain ⟨bm, o, a1, a2, a3, a4, a5, a6, a7, a8⟩ := w.bt
    obtain ⟨bm', o', b1, b2, b3, b4, b5, b6, b7, b8⟩ := w₀.bt
    rw [a1] at b1; cases b1
    exact ⟨bm, o, a1, a2, a3, a4, a5, a6, a7, no b4 a8⟩
  · intro q hq
    obtain ⟨h0, h1, h2, h3⟩ := w.tab q hq
    obtain ⟨g0, g1, g2, g3⟩ := w₀.tab q hq
    refine ⟨h0, by obtain ⟨o, _, _, _, _, _, _, _, _, e, _⟩ := g2; exact no e h1, h2, ?_⟩
    rcases h3 with h3 | ⟨c', n1, n2, n3⟩
    · exact .inl h3
    · refine .inr ⟨c', fun hm => ?_, n2, n3⟩
      rcases g3 with g3 | ⟨c₂, m1, m2, m3⟩
      · have e := kT _ _ (.inl ⟨q, hq, rfl⟩) g3
        rw [n2] at e
        simp [tabObj] at e
      · have e := kT _ _ (.inl ⟨q, hq, rfl⟩) m2
        rw [n2] at e
        have e2 : c' = c₂ := by
          have := congrArg Obj.data (Option.some.inj e)
          simp [tabObj] at this
          exact this
        subst e2
        obtain ⟨c₃, o, _, _, e3, e4, _⟩ := m3
        cases e3
        exact no e4 m1 hm
theorem Wf.less {C : Cfg} {M M' : ASet} {h : Heap} (w : Wf C M' h) (sub : ∀ a, M a → M' a) (hT : ∀ a, C.T a → M a) : Wf C M h where
  tM := hT
  lt := fun a ha => w.lt a (sub a ha)
  g := w.g
  gM := fun q => w.gM (sub _ q)
  b := w.b
  b0 := w.b0
  bi := w.bi
  nl := w.nl
  nM := fun q => w.nM (sub _ q)
  k := fun a o e => ⟨(w.k a o e).1, fun q => (w.k a o e).2 (sub _ q)⟩
  bt := let ⟨bm, o, a1, a2, a3, a4, a5, a6, a7, a8⟩ := w.bt; ⟨bm, o, a1, a2, a3, a4, a5, a6, a7, fun q => a8 (sub _ q)⟩
  tab := fun q hq => by
    obtain ⟨h0, h1, h2, h3⟩ := w.tab q hq
    refine ⟨h0, fun z => h1 (sub _ z), h2, ?_⟩
    rcases h3 with h3 | ⟨c', n1, n2, n3⟩
    · exact .inl h3
    · exact .inr ⟨c', fun z => n1 (sub _ z), n2, n3⟩
/-- the table of a nested def has been written for the first time -/
theorem Wf.table {C : Cfg} {M : ASet} {h h' : Heap} (w : Wf C M h) (q : Addr × Addr × Pos × Str) (hq : q ∈ C.tabs) (hd : ∀ r ∈ C.tabs, r.2.1 = q.2.1 → r = q) (k : Heap.ExtBut q.2.1 h h') (c' : Addr) (hc : h.objs.size ≤ c')
    (ht : h'.get? q.2.1 = some (tabObj #[rawInt q.2.2.1.line, rawInt q.2.2.1.col, .ref c'])) (hr : h'.CodeRec (.ref c') q.2.2.2) : Wf C M h' where
  tM := w.tM
  lt := fun a ha => if e : a = q.2.1 then e ▸ ⟨_, ht⟩ else let ⟨o, ho⟩ := w.lt a ha; ⟨o, k _ _ e ho⟩
  g := w.g.at fun o e => k _ o (fun z => w.gM (w.tM _ (.inl ⟨q, hq, z.symm⟩))) e
  gM := w.gM
  b := w.b.at fun o e => k _ o (Ne.symm (w.tab q hq).1) e
  b0 := k _ _ (Ne.symm (w.tab q hq).1) w.b0
  bi := w.bi
  nl := let ⟨mc, x, y⟩ := w.nl; ⟨mc, x.at fun o e => k _ o (fun z => w.nM (w.tM _ (.inl ⟨q, hq, z.symm⟩))) e, y⟩
  nM := w.nM
  k := fun a o e => ⟨k _ _ (fun z => (w.k a o e).2 (w.tM _ (.inl ⟨q, hq, z.symm⟩))) (w.k a o e).1, (w.k a o e).2⟩
  bt := let ⟨bm, o, a1, a2, a3, a4, a5, a6, a7, a8⟩ := w.bt; ⟨bm, o, a1, a2, a3, k _ _ (fun z => a8 (w.tM _ (.inl ⟨q, hq, z.symm⟩))) a4, a5, a6, a7, a8⟩
  tab := fun r hr' => by
    obtain ⟨h0, h1, h2, h3⟩ := w.tab r hr'
    have ne1 : r.1 ≠ q.2.1 := fun z => h1 (w.tM _ (.inl ⟨q, hq, z.symm⟩))
    refine ⟨h0, h1, codeHd_at h2 fun o e => k _ o ne1 e, ?_⟩
    by_cases e : r.2.1 = q.2.1
    · have := hd r hr' e
      subst this
      exact .inr ⟨c', fun hm => by obtain ⟨o, ho⟩ := w.lt _ hm; exact Nat.lt_irrefl _ (Nat.lt_of_lt_of_le (Heap.lt_size ho) hc), ht, hr⟩
    · rcases h3 with h3 | ⟨c₂, n1, n2, n3⟩
      · exact .inl (k _ _ e h3)
      · exact .inr ⟨c₂, n1, k _ _ e n2, CodeRec_at n3 fun o e' => k _ o (fun z => n1 (w.tM _ (.inl ⟨q, hq, z.symm⟩))) e'⟩


theorem Wf.fresh {C : Cfg} {M : ASet} {h : Heap} (w : Wf C M h) : ¬ M h.objs.size := fun hm => by obtain ⟨o, ho⟩ := w.lt _ hm; exact Nat.lt_irrefl _ (Heap.lt_size ho)

/-! the library's rows speak of a frame and a ledger: one object with names serves as the frame, all else is the ledger; done for two frames nothing is left out -/
def allOf (L : Addr) (h : Heap) : List (Addr × Obj) := (List.range h.objs.size).filterMap fun b => if b = L then none else (h.get? b).map fun o => (b, o)
theorem mem_allOf {L : Addr} {h : Heap} {b : Addr} {o : Obj} (hb : b ≠ L) (e : h.get? b = some o) : (b, o) ∈ allOf L h := by
  unfold allOf
  rw [List.mem_filterMap]
  exact ⟨b, List.mem_range.mpr (Heap.lt_size e), by rw [if_neg hb, e]; rfl⟩
theorem of_mem_allOf {L : Addr} {h : Heap} {p : Addr × Obj} (hp : p ∈ allOf L h) : p.1 ≠ L ∧ h.get? p.1 = some p.2 := by
  unfold allOf at hp
  obtain ⟨b, _, e⟩ := List.mem_filterMap.mp hp
  by_cases hb : b = L
  · rw [if_pos hb] at e; cases e
  · rw [if_neg hb] at e
    cases g : h.get? b with
    | none => rw [g] at e; cases e
    | some o => rw [g] at e; cases e; exact ⟨hb, g⟩
def h00 : Heap := {}
theorem h00_get (a : Addr) : h00.get? a = none := by
  cases e : h00.get? a with
  | none => rfl
  | some o => exact absurd (Heap.lt_size e) (Nat.not_lt_zero _)
theorem fr_all {L : Addr} {h : Heap} {m : Str → Option Value} (n : h.Ns L m) : Fr h00 L h m := ⟨n, fun b o e => (by rw [h00_get] at e; cases e), Nat.zero_le _⟩
theorem news_all {L : Addr} {h : Heap} : News h00 L h (allOf L h) := fun p hp => ⟨(of_mem_allOf hp).2, (of_mem_allOf hp).1, h00_get _⟩
def Kept (L : Addr) (h h' : Heap) : Prop := ∀ b o, b ≠ L → h.get? b = some o → h'.get? b = some o
theorem kept_of_news {L : Addr} {h h' : Heap} {l : List (Addr × Obj)} (N : News h00 L h' l) (sub : ∀ p ∈ allOf L h, p ∈ l) : Kept L h h' := fun b o hb e => (N _ (sub _ (mem_allOf hb e))).1
theorem kept_of_news1 {L : Addr} {h h' : Heap} {p : Addr × Obj} (N : News h00 L h' (p :: allOf L h)) : Kept L h h' ∧ h'.get? p.1 = some p.2 := ⟨kept_of_news N fun _ hp => .tail _ hp, (N _ (.head _)).1⟩
theorem wp_twice {α : Type} {Md : Model} {A : Around} {t : Sem α} {s : Shared} {Q : α → Shared → Prop} {E : Value → Shared → Prop} {R : α → Shared → Prop} {L₁ L₂ : Addr} (hne : L₁ ≠ L₂)
    (h1 : wpAny Md A t (fun v s' => Kept L₁ s.heap s'.heap ∧ R v s') E s) (h2 : wpAny Md A t (fun v s' => Kept L₂ s.heap s'.heap ∧ R v s') E s)
    (hQ : ∀ v s', (∀ b o, s.heap.get? b = some o → s'.heap.get? b = some o) → R v s' → Q v s') : wpAny Md A t Q E s := by
  refine wpAny_mono (wpAny_both h1 h2) (fun v s' hq => hQ v s' (fun b o e => ?_) hq.1.2) (fun v s' he => he.1)
  by_cases hb : b = L₁
  · exact hq.2.1 b o (fun q => hne (hb.symm.trans q)) e
  · exact hq.1.1 b o hb e

/-! a name's value in an activation -/
def Bound (h : Heap) (env : Env) (x : Str) (v : Value) : Prop :=
  (env.kindOf x = some .local ∧ ∃ m, h.Ns env.locals m ∧ m x = some v) ∨ ((env.kindOf x = some .cell ∨ env.kindOf x = some .free) ∧ ∃ c, env.cells.lookup x = some c ∧ h.IsCell c (some v))

def Vars (C : Cfg) (h : Heap) (M : ASet) (env : Env) (G : List (Str × D)) : Prop := ∀ x d, G.lookup x = some d → ∃ v, Bound h env x v ∧ Has C h M v d

structure At (C : Cfg) (M : ASet) (env : Env) (G : List (Str × D)) (h : Heap) : Prop where
  wf : Wf C M h
  kind : env.scope.kind = .function
  gl : env.globals = mainGlobals
  bn : env.builtins = builtinsNs
  ns : ∃ m, h.Ns env.locals m
  fM : M env.locals
  fT : ¬ C.T env.locals
  cM : ∀ x c, env.cells.lookup x = some c → M c ∧ ¬ C.T c ∧ c ≠ env.locals
  cA : ∀ x y c, env.cells.lookup x = some c → env.cells.lookup y = some c → x = y
  cC : ∀ x c, env.cells.lookup x = some c → ∃ v, h.IsCell c v
  vars : Vars C h M env G

theorem Bound.at {h h' : Heap} {env : Env} {x : Str} {v : Value} (b : Bound h env x v) (k1 : ∀ o, h.get? env.locals = some o → h'.get? env.locals = some o) (k2 : ∀ c, env.cells.lookup x = some c → ∀ o, h.get? c = some o → h'.get? c = some o) : Bound h' env x v := by
  rcases b with ⟨e, m, hn, hm⟩ | ⟨e, c, hc, o, ho, hv⟩
  · exact .inl ⟨e, m, hn.at k1, hm⟩
  · exact .inr ⟨e, c, hc, o, k2 c hc o ho, hv⟩
theorem At.ext {C : Cfg} {M : ASet} {env : Env} {G : List (Str × D)} {h h' : Heap} (a : At C M env G h) (x : Ext C.T h h') (w : Wf C M h') : At C M env G h' where
  wf := w
  kind := a.kind
  gl := a.gl
  bn := a.bn
  ns := let ⟨m, hn⟩ := a.ns; ⟨m, hn.at fun o e => x _ o a.fT e⟩
  fM := a.fM
  fT := a.fT
  cM := a.cM
  cA := a.cA
  cC := fun y b e => let ⟨v, o, ho, hd⟩ := a.cC y b e; ⟨v, o, x _ _ (a.cM y b e).2.1 ho, hd⟩
  vars := fun y d e => let ⟨v, b, hv⟩ := a.vars y d e; ⟨v, b.at (fun o e => x _ o a.fT e) (fun c hc o e => x _ o (a.cM y c hc).2.1 e), hv.keep fun b o hb e => x b o (fun q => hb (w.tM b q)) e⟩
set_option genInjectivity false in
/-- the state in which an expression is evaluated: the activation, its names, and what else is known -/
structure Inv (C : Cfg) where
  N : ASet
  X : ASet → Heap → Prop
  keep : ∀ {M : ASet} {h h' : Heap}, X M h → (∀ b, C.T b → M b) → (∀ b o, ¬ C.T b → (¬ M b ∨ N b) → h.get? b = some o → h'.get? b = some o) → X M h'
  grow : ∀ {M M' : ASet} {h : Heap}, X M h → (∀ b, C.T b → M b) → (∀ b o, M' b → ¬ M b → h.get? b = some o → False) → X M' h
  anti : ∀ {M M' : ASet} {h : Heap}, X M' h → (∀ b, M b → M' b) → X M h

/-- what an activation owns: lists and dicts of its own that it still writes -/
def Owns (C : Cfg) (h : Heap) (M : ASet) (a : Addr) : D → Prop
  | .lst ds => ∃ items, h.PlainList a items ∧ HasL C h M items.toList ds
  | .dic es => DictIs C h M a es ∧ a ≠ sysModules
  | _ => False
theorem Owns.keep {C : Cfg} {h h' : Heap} {M : ASet} {a : Addr} {d : D} (x : Owns C h M a d) (ka : ∀ o, h.get? a = some o → h'.get? a = some o) (k : ∀ b o, ¬ M b → h.get? b = some o → h'.get? b = some o) : Owns C h' M a d := by
  cases d <;> try exact x.elim
  case lst ds => obtain ⟨items, hp, hl⟩ := x; exact ⟨items, hp.at ka, hl.keep k⟩
  case dic es =>
    obtain ⟨⟨xs, ⟨o, es', ep, ho, r1, r2, r3, r4, r5⟩, hM, hi, hm⟩, hs⟩ := x
    refine ⟨⟨xs, ⟨o, es', ep, ka _ ho, r1, r2, r3, fun y hy => ?_, r5⟩, hM, hi, hm⟩, hs⟩
    obtain ⟨o', items, n, ho', q⟩ := r4 y hy
    exact ⟨o', items, n, k _ _ (hM y hy) ho', q⟩
theorem Owns.anti {C : Cfg} {h : Heap} {M M' : ASet} {a : Addr} {d : D} (x : Owns C h M' a d) (k : ∀ b, M b → M' b) : Owns C h M a d := by
  cases d <;> try exact x.elim
  case lst ds => obtain ⟨items, hp, hl⟩ := x; exact ⟨items, hp, hl.anti k⟩
  case dic es => exact ⟨x.1.anti k, x.2⟩
theorem Owns.grow {C : Cfg} {h : Heap} {M M' : ASet} {a : Addr} {d : D} (x : Owns C h M a d) (k : ∀ b o, M' b → ¬ M b → h.get? b = some o → False) : Owns C h M' a d := by
  cases d <;> try exact x.elim
  case lst ds => obtain ⟨items, hp, hl⟩ := x; exact ⟨items, hp, hl.grow k⟩
  case dic es => exact ⟨x.1.grow k, x.2⟩
theorem Owns.has {C : Cfg} {h : Heap} {M : ASet} {a : Addr} {d : D} (x : Owns C h M a d) (ha : ¬ M a) : Has C h M (.ref a) d := by
  cases d <;> try exact x.elim
  case lst ds => obtain ⟨items, hp, hl⟩ := x; exact .lst ha hp.isList hl
  case dic es => exact .dic ha x.2 x.1
theorem Owns.live {C : Cfg} {h : Heap} {M : ASet} {a : Addr} {d : D} (x : Owns C h M a d) : ∃ o, h.get? a = some o := by
  cases d <;> try exact x.elim
  case lst ds => obtain ⟨items, ⟨n, hp⟩, hl⟩ := x; exact ⟨_, hp⟩
  case dic es => obtain ⟨⟨xs, ⟨o, es', ep, ho, _⟩, _⟩, hs⟩ := x; exact ⟨_, ho⟩

set_option genInjectivity false in
structure Ctx (C : Cfg) where
  k : Nat
  M : ASet
  env : Env
  G : List (Str × D)
  O : List (Addr × D)
  cw : Str → Bool
  I : Inv C
structure OAt (C : Cfg) (c : Ctx C) (h : Heap) (p : Addr × D) : Prop where
  own : Owns C h c.M p.1 p.2
  m : c.M p.1
  t : ¬ C.T p.1
  n : ¬ c.I.N p.1
  l : p.1 ≠ c.env.locals
  c : ∀ x b, c.env.cells.lookup x = some b → p.1 ≠ b
set_option genInjectivity false in
structure Ctx.P {C : Cfg} (c : Ctx C) (h : Heap) : Prop where
  at_ : At C c.M c.env c.G h
  loc : ¬ c.I.N c.env.locals
  cel : ∀ x, c.cw x = true → ∀ b, c.env.cells.lookup x = some b → ¬ c.I.N b
  o : ∀ p ∈ c.O, OAt C c h p
  nd : (c.O.map (·.1)).Nodup
  nM : ∀ b, c.I.N b → c.M b
  x : c.I.X c.M h
theorem Ctx.P.ext {C : Cfg} {c : Ctx C} {h h' : Heap} (p : c.P h) (x : Ext C.T h h') (w : Wf C c.M h') : c.P h' where
  at_ := p.at_.ext x w
  loc := p.loc
  cel := p.cel
  o := fun q hq => { p.o q hq with own := (p.o q hq).own.keep (fun o e => x _ o (p.o q hq).t e) fun b o hb e => x b o (fun t => hb (w.tM b t)) e }
  nd := p.nd
  nM := p.nM
  x := c.I.keep p.x w.tM fun b o hT _ e => x b o hT e
theorem Ctx.P.wf {C : Cfg} {c : Ctx C} {h : Heap} (p : c.P h) : Wf C c.M h := p.at_.wf

structure Room (k : Nat) (A : Around) : Prop where
  hh : A.handled = none
  dp : A.depth + k < recursionLimit
  un : A.units + 8 * k + 8 < cLine
theorem Room.less {k j : Nat} {A : Around} (r : Room k A) (h : j ≤ k) : Room j A := ⟨r.hh, by have := r.dp; omega, by have := r.un; omega⟩
theorem Room.in1 {k : Nat} {A : Around} (r : Room k A) : A.in1.units < cLine := by have := r.un; simp only [Around.in1_units]; omega
theorem Room.u {k : Nat} {A : Around} (r : Room k A) : A.units < cLine := by have := r.un; omega

abbrev NoE : Value → Shared → Prop := fun _ _ => False

def Ev {C : Cfg} (c : Ctx C) (e : Expr) (d : D) : Prop :=
  ∀ (A : Around) (s : Shared) (Q : Value → Shared → Prop) (E : Value → Shared → Prop), Room c.k A → c.P s.heap →
    (∀ v h' tk, Ext C.T s.heap h' → Wf C c.M h' → Has C h' c.M v d → Q v { s with heap := h', toks := tk }) → wpAny (model C.prog C.w) A (eval e c.env) Q E s
def EvL {C : Cfg} (c : Ctx C) (es : List Expr) (ds : List D) : Prop :=
  ∀ (A : Around) (s : Shared) (Q : List Value → Shared → Prop) (E : Value → Shared → Prop) (pos : Pos), Room c.k A → c.P s.heap →
    (∀ vs h' tk, Ext C.T s.heap h' → Wf C c.M h' → HasL C h' c.M vs ds → Q vs { s with heap := h', toks := tk }) → wpAny (model C.prog C.w) A (spliced (backTo pos (starEach es c.env))) Q E s
def EvB {C : Cfg} (c : Ctx C) (e : Expr) (b : Bool) : Prop :=
  ∀ (A : Around) (s : Shared) (Q : Bool → Shared → Prop) (E : Value → Shared → Prop), Room c.k A → c.P s.heap →
    (∀ h' tk, Ext C.T s.heap h' → Wf C c.M h' → Q b { s with heap := h', toks := tk }) → wpAny (model C.prog C.w) A (isTrue e c.env (eval e c.env)) Q E s

section
variable {C : Cfg} {c : Ctx C}

theorem Ev.name {x : Str} {pos : Pos} {d : D} (hx : c.G.lookup x = some d) (hd : (x == ("__debug__" : Str)) = false := by decide) (hn : (x == ("__classdict__" : Str)) = false := by decide) : Ev c (.Name x pos) d := by
  intro A s Q E r p h
  obtain ⟨v, b, hv⟩ := p.at_.vars x d hx
  refine wpAny_Name ?_ hd
  have q := h v s.heap s.toks (Ext.refl _ _) p.at_.wf hv
  rcases b with ⟨e, m, hm, hv'⟩ | ⟨e, cc, hc, ho⟩
  · exact wpAny_loadName_local p.at_.kind e hm hv' q
  · rcases e with e | e
    · exact wpAny_loadName_cell p.at_.kind e hc ho q
    · exact wpAny_loadName_free p.at_.kind e hc ho q hn
theorem Ev.int {i : Int} {k pos} : Ev c (.Constant (.int i) k pos) (.int i) := fun A s Q E r p h => wpAny_Constant_int (h _ _ _ (Ext.refl _ _) p.at_.wf (.int i _))
theorem Ev.str {x : Str} {k pos} : Ev c (.Constant (.str x) k pos) (.str x) := fun A s Q E r p h => wpAny_Constant_str (h _ _ _ (Ext.refl _ _) p.at_.wf (.str x _))
theorem EvL.nil : EvL c [] [] := fun A s Q E pos r p h => wpAny_items_nil (h _ _ s.toks (Ext.refl _ _) p.at_.wf .nil)
theorem Has.ext {C : Cfg} {M : ASet} {h h' : Heap} {v : Value} {d : D} (x : Has C h M v d) (e : Ext C.T h h') (w : Wf C M h') : Has C h' M v d := x.keep fun b o hb g => e b o (fun q => hb (w.tM b q)) g
theorem HasL.ext {C : Cfg} {M : ASet} {h h' : Heap} {v : List Value} {d : List D} (x : HasL C h M v d) (e : Ext C.T h h') (w : Wf C M h') : HasL C h' M v d := x.keep fun b o hb g => e b o (fun q => hb (w.tM b q)) g

theorem EvL.cons {e : Expr} {es : List Expr} {d : D} {ds : List D} (he : Ev c e d) (hes : EvL c es ds) (hs : starEach (e :: es) c.env = (false, eval e c.env) :: starEach es c.env := by rfl) : EvL c (e :: es) (d :: ds) := by
  intro A s Q E pos r p h
  refine wpAny_items_cons (he A s _ E r p fun v h₁ tk₁ x₁ w₁ g₁ => ?_) hs
  refine hes A _ _ E pos r (p.ext x₁ w₁) fun vs h₂ tk₂ x₂ w₂ g₂ => ?_
  exact h _ _ _ (x₁.trans x₂) w₂ (.cons (g₁.ext x₂ w₂) g₂)

theorem Ev.tuple {es : List Expr} {ds : List D} {k : Nat} {pos : Pos} (hes : EvL c es ds) (hsz : ds.length ≤ sizeLine := by decide) : Ev c (.Tuple es k pos) (.tup ds) := by
  intro A s Q E r p h
  refine wpAny_Tuple (hes A s _ E pos r p fun vs h₁ tk₁ x₁ w₁ g₁ => ⟨g₁.length ▸ hsz, ?_⟩)
  have w₂ : Wf C c.M (h₁.push { cls := .type "tuple", data := .seq vs.toArray }) := w₁.push _
  refine h _ _ _ (x₁.trans (Ext.push _ _ _)) w₂ (.tup w₁.fresh ⟨_, Heap.get?_push_size _ rfl, rfl, _, rfl⟩ ?_)
  simpa using g₁.ext (Ext.push C.T h₁ _) w₂
theorem Ev.list {es : List Expr} {ds : List D} {pos : Pos} (hes : EvL c es ds) (hsz : ds.length ≤ sizeLine := by decide) : Ev c (.List es pos) (.lst ds) := by
  intro A s Q E r p h
  refine wpAny_List (hes A s _ E pos r p fun vs h₁ tk₁ x₁ w₁ g₁ => ⟨g₁.length ▸ hsz, ?_⟩)
  have w₂ : Wf C c.M (h₁.push { cls := .type "list", data := .seq vs.toArray }) := w₁.push _
  refine h _ _ _ (x₁.trans (Ext.push _ _ _)) w₂ (.lst w₁.fresh ⟨_, Heap.get?_push_size _ rfl, rfl, _, rfl⟩ ?_)
  simpa using g₁.ext (Ext.push C.T h₁ _) w₂

/-- an operation on values that are in hand -/
def Op {C : Cfg} (c : Ctx C) (x y : D) (t : Value → Value → Sem Value) (d : D) : Prop :=
  ∀ (A : Around) (s : Shared) (Q : Value → Shared → Prop) (E : Value → Shared → Prop) (vx vy : Value), Room c.k A → c.P s.heap → Has C s.heap c.M vx x → Has C s.heap c.M vy y →
    (∀ v h' tk, Ext C.T s.heap h' → Wf C c.M h' → Has C h' c.M v d → Q v { s with heap := h', toks := tk }) → wpAny (model C.prog C.w) A (t vx vy) Q E s

theorem Ev.bin {l r : Expr} {op : Operator} {pos : Pos} {x y d : D} (hl : Ev c l x) (hr : Ev c r y) (ho : Op c x y (binaryOp op) d) : Ev c (.BinOp l op r pos) d := by
  intro A s Q E rm p h
  refine wpAny_BinOp (hl A s _ E rm p fun vx h₁ tk₁ x₁ w₁ g₁ => ?_)
  refine hr A _ _ E rm (p.ext x₁ w₁) fun vy h₂ tk₂ x₂ w₂ g₂ => ?_
  exact ho A _ _ E vx vy rm ((p.ext x₁ w₁).ext x₂ w₂) (g₁.ext x₂ w₂) g₂ fun v h₃ tk₃ x₃ w₃ g₃ => h _ _ _ (x₁.trans (x₂.trans x₃)) w₃ g₃
theorem Ev.cmp {l r : Expr} {op : CmpOp} {pos : Pos} {x y d : D} (hl : Ev c l x) (hr : Ev c r y) (ho : Op c x y (compareOp op) d) (hm : behindInMarks op r = false := by rfl) : Ev c (.Compare l [op] [r] pos) d := by
  intro A s Q E rm p h
  refine wpAny_Compare1 (hl A s _ E rm p fun vx h₁ tk₁ x₁ w₁ g₁ => ?_) hm
  refine hr A _ _ E rm (p.ext x₁ w₁) fun vy h₂ tk₂ x₂ w₂ g₂ => ?_
  exact ho A _ _ E vx vy rm ((p.ext x₁ w₁).ext x₂ w₂) (g₁.ext x₂ w₂) g₂ fun v h₃ tk₃ x₃ w₃ g₃ => h _ _ _ (x₁.trans (x₂.trans x₃)) w₃ g₃
theorem EvB.cmp {l r : Expr} {op : CmpOp} {pos : Pos} {x y : D} {b : Bool} (hl : Ev c l x) (hr : Ev c r y) (ho : Op c x y (compareOp op) (.bool b)) (hm : behindInMarks op r = false := by rfl) : EvB c (.Compare l [op] [r] pos) b := by
  intro A s Q E rm p h
  refine wpAny_isTrue_Compare1 (hl A s _ E rm p fun vx h₁ tk₁ x₁ w₁ g₁ => ?_) hm
  refine hr A _ _ E rm (p.ext x₁ w₁) fun vy h₂ tk₂ x₂ w₂ g₂ => ?_
  refine ho A _ _ E vx vy rm ((p.ext x₁ w₁).ext x₂ w₂) (g₁.ext x₂ w₂) g₂ fun v h₃ tk₃ x₃ w₃ g₃ => ?_
  (first | obtain ⟨_, rfl⟩ := Has.int_inv g₃ | obtain rfl := Has.bool_inv g₃ | obtain rfl := Has.ptr_inv g₃ | obtain rfl := HasL.nil_inv g₃ | obtain rfl := Has.none_inv g₃ | cases g₃)
  exact wpAny_truthy_bool (h _ _ (x₁.trans (x₂.trans x₃)) w₃)

theorem Op.add {a b : Int} : Op c (.int a) (.int b) (binaryOp .Add) (.int (a + b)) := by
  intro A s Q E vx vy rm p hx hy h
  (first | obtain ⟨_, rfl⟩ := Has.int_inv hx | obtain rfl := Has.bool_inv hx | obtain rfl := Has.ptr_inv hx | obtain rfl := HasL.nil_inv hx | obtain rfl := Has.none_inv hx | cases hx); (first | obtain ⟨_, rfl⟩ := Has.int_inv hy | obtain rfl := Has.bool_inv hy | obtain rfl := Has.ptr_inv hy | obtain rfl := HasL.nil_inv hy | obtain rfl := Has.none_inv hy | cases hy)
  exact PyProof.Rows.add_int (h _ _ _ (Ext.refl _ _) p.at_.wf (.int _ _))
end
end Mine
end
section
open PySem PySem.W PySem.Calls PyProof.Rows
namespace Mine
section
variable {C : Cfg} {c : Ctx C}

/-! ints -/
theorem Op.int2 {t : Value → Value → Sem Value} {a b r : Int}
    (k : ∀ (A : Around) (s : Shared) (Q : Value → Shared → Prop) (E : Value → Shared → Prop) (ta tb : Tok), Room c.k A → s.heap.NoLimit → (∀ tr tk, Q (.int r tr) { s with toks := tk }) → wpAny (model C.prog C.w) A (t (.int a ta) (.int b tb)) Q E s) :
    Op c (.int a) (.int b) t (.int r) := by
  intro A s Q E vx vy rm p hx hy h
  (first | obtain ⟨_, rfl⟩ := Has.int_inv hx | obtain rfl := Has.bool_inv hx | obtain rfl := Has.ptr_inv hx | obtain rfl := HasL.nil_inv hx | obtain rfl := Has.none_inv hx | cases hx); (first | obtain ⟨_, rfl⟩ := Has.int_inv hy | obtain rfl := Has.bool_inv hy | obtain rfl := Has.ptr_inv hy | obtain rfl := HasL.nil_inv hy | obtain rfl := Has.none_inv hy | cases hy)
  exact k A s Q E _ _ rm p.at_.wf.nl fun tr tk => h _ _ tk (Ext.refl _ _) p.at_.wf (.int _ _)
theorem Op.sub {a b : Int} : Op c (.int a) (.int b) (binaryOp .Sub) (.int (a - b)) := .int2 fun A s Q E ta tb rm nl k => PyProof.Rows.sub_int (k _ _)
theorem Op.mul {a b : Int} (ha : -(2 ^ 64) < b) (hb : b < 2 ^ 64) : Op c (.int a) (.int b) (binaryOp .Mult) (.int (a * b)) := .int2 fun A s Q E ta tb rm nl k => PyProof.Rows.mul_int (k _ _) (IntMulOk.of_right (intBits_le_64 ha hb))
theorem Op.mod {a b : Int} (hb : b ≠ 0) : Op c (.int a) (.int b) (binaryOp .Mod) (.int (a.fmod b)) := .int2 fun A s Q E ta tb rm nl k => PyProof.Rows.mod_int' hb (k _ _)
theorem Op.fdiv {a b : Int} (hb : b ≠ 0) (hs : b.natAbs < 1073741824) : Op c (.int a) (.int b) (binaryOp .FloorDiv) (.int (a.fdiv b)) := .int2 fun A s Q E ta tb rm nl k => PyProof.Rows.floordiv_int hb (k _ _) (.inl (PyProof.noPylong_small hs))
theorem Op.pow {a n : Int} (hn : 0 ≤ n) (hn2 : n ≤ 1000000) (ha : a.natAbs < 2 ^ 64) : Op c (.int a) (.int n) (binaryOp .Pow) (.int (a ^ n.toNat)) := .int2 fun A s Q E ta tb rm nl k => PyProof.Rows.pow_int_small hn hn2 ha (k _ _)
theorem Op.shl {a n : Int} (hn : 0 ≤ n) (hn2 : n ≤ 1000000) (ha : a.natAbs < 2 ^ 64) : Op c (.int a) (.int n) (binaryOp .LShift) (.int (a * 2 ^ n.toNat)) := .int2 fun A s Q E ta tb rm nl k => PyProof.Rows.lshift_int_small hn hn2 ha (k _ _)
theorem Op.shr {a n : Int} (hn : 0 ≤ n) : Op c (.int a) (.int n) (binaryOp .RShift) (.int (a.fdiv (2 ^ n.toNat))) := .int2 fun A s Q E ta tb rm nl k => PyProof.Rows.rshift_int hn (k _ _)
theorem Op.xor {a b : Int} : Op c (.int a) (.int b) (binaryOp .BitXor) (.int (Builtin.bitXor a b)) := .int2 fun A s Q E ta tb rm nl k => PyProof.Rows.xor_int (k _ _)

theorem Op.bool2 {t : Value → Value → Sem Value} {a b : Int} {r : Bool}
    (k : ∀ (A : Around) (s : Shared) (Q : Value → Shared → Prop) (E : Value → Shared → Prop) (ta tb : Tok), Q (.bool r) s → wpAny (model C.prog C.w) A (t (.int a ta) (.int b tb)) Q E s) :
    Op c (.int a) (.int b) t (.bool r) := by
  intro A s Q E vx vy rm p hx hy h
  (first | obtain ⟨_, rfl⟩ := Has.int_inv hx | obtain rfl := Has.bool_inv hx | obtain rfl := Has.ptr_inv hx | obtain rfl := HasL.nil_inv hx | obtain rfl := Has.none_inv hx | cases hx); (first | obtain ⟨_, rfl⟩ := Has.int_inv hy | obtain rfl := Has.bool_inv hy | obtain rfl := Has.ptr_inv hy | obtain rfl := HasL.nil_inv hy | obtain rfl := Has.none_inv hy | cases hy)
  exact k A s Q E _ _ (h _ _ s.toks (Ext.refl _ _) p.at_.wf (.bool _))
theorem Op.lt {a b : Int} : Op c (.int a) (.int b) (compareOp .Lt) (.bool (decide (a < b))) := .bool2 fun A s Q E ta tb k => PyProof.Rows.lt_int k
theorem Op.le {a b : Int} : Op c (.int a) (.int b) (compareOp .LtE) (.bool (decide (a ≤ b))) := .bool2 fun A s Q E ta tb k => PyProof.Rows.le_int k
theorem Op.eq {a b : Int} : Op c (.int a) (.int b) (compareOp .Eq) (.bool (a == b)) := .bool2 fun A s Q E ta tb k => PyProof.Rows.eq_int k
theorem Op.ne {a b : Int} : Op c (.int a) (.int b) (compareOp .NotEq) (.bool (a != b)) := .bool2 fun A s Q E ta tb k => PyProof.Rows.ne_int k

/-! truth -/
def EvAll {C : Cfg} (c : Ctx C) (op : BoolOp) (es : List Expr) (b : Bool) : Prop :=
  ∀ (A : Around) (s : Shared) (Q : Bool → Shared → Prop) (E : Value → Shared → Prop), Room c.k A → c.P s.heap →
    (∀ h' tk, Ext C.T s.heap h' → Wf C c.M h' → Q b { s with heap := h', toks := tk }) → wpAny (model C.prog C.w) A (allTrue op es c.env) Q E s
theorem EvAll.or_nil : EvAll c .Or [] false := fun A s Q E rm p h => wpAny_allTrue_Or_nil (h _ s.toks (Ext.refl _ _) p.at_.wf)
theorem EvAll.or_false {x : Expr} {es : List Expr} {b : Bool} (hx : EvB c x false) (hes : EvAll c .Or es b) : EvAll c .Or (x :: es) b := fun A s Q E rm p h =>
  wpAny_allTrue_Or_cons (hx A s _ E rm p fun h' tk x w => by
    simp only [Bool.false_eq_true, if_false]
    exact hes A _ _ E rm (p.ext x w) fun h₂ tk₂ x₂ w₂ => h _ _ (x.trans x₂) w₂)
theorem EvB.boolop {op : BoolOp} {es : List Expr} {pos : Pos} {b : Bool} (h : EvAll c op es b) : EvB c (.BoolOp op es pos) b := fun A s Q E rm p k => wpAny_isTrue_BoolOp (h A s Q E rm p k)
theorem EvB.not {x : Expr} {pos : Pos} {b : Bool} (hx : EvB c x b) : EvB c (.UnaryOp .Not x pos) (!b) := fun A s Q E rm p k => wpAny_isTrue_Not (hx A s _ E rm p k)
theorem EvB.chain {l m r : Expr} {o1 o2 : CmpOp} {pos : Pos} {x y z : D} {b1 b2 : Bool} (hl : Ev c l x) (hm : Ev c m y) (hr : Ev c r z) (h1 : Op c x y (compareOp o1) (.bool b1)) (h2 : Op c y z (compareOp o2) (.bool b2))
    (k1 : behindInMarks o2 r = false := by rfl) : EvB c (.Compare l [o1, o2] [m, r] pos) (b1 && b2) := by
  intro A s Q E rm p h
  have e : isTrue (.Compare l [o1, o2] [m, r] pos) c.env (eval (.Compare l [o1, o2] [m, r] pos) c.env) = (do testChain pos (← eval l c.env) [o1, o2] [eval m c.env, markedBehindIn o2 r (eval r c.env)]) := rfl
  rw [e, markedBehindIn_of_false k1]
  refine wpAny_bind (hl A s _ E rm p fun vx h₁ tk₁ x₁ w₁ g₁ => ?_)
  unfold testChain
  refine wpAny_bind (wpAny_holding (hm A _ _ E rm (p.ext x₁ w₁) fun vy h₂ tk₂ x₂ w₂ g₂ => ?_))
  refine wpAny_bind (wpAny_standAt (wpAny_bind (wpAny_holding (h1 A _ _ E vx vy rm ((p.ext x₁ w₁).ext x₂ w₂) (g₁.ext x₂ w₂) g₂ fun v h₃ tk₃ x₃ w₃ g₃ => ?_))))
  (first | obtain ⟨_, rfl⟩ := Has.int_inv g₃ | obtain rfl := Has.bool_inv g₃ | obtain rfl := Has.ptr_inv g₃ | obtain rfl := HasL.nil_inv g₃ | obtain rfl := Has.none_inv g₃ | cases g₃)
  refine wpAny_bind (wpAny_release ?_)
  refine wpAny_bind (wpAny_holding (wpAny_truthy_bool ?_))
  cases b1 with
  | false =>
    simp only [Bool.false_eq_true, if_false, Bool.false_and] at h ⊢
    exact wpAny_pure (h _ _ (x₁.trans (x₂.trans x₃)) w₃)
  | true =>
    simp only [if_true, Bool.true_and] at h ⊢
    unfold testChain
    have p₃ := ((p.ext x₁ w₁).ext x₂ w₂).ext x₃ w₃
    refine wpAny_bind (wpAny_holding (hr A _ _ E rm p₃ fun vz h₄ tk₄ x₄ w₄ g₄ => ?_))
    refine wpAny_bind (wpAny_standAt (wpAny_bind (wpAny_operating (h2 A _ _ E vy vz rm (p₃.ext x₄ w₄) ((g₂.ext x₃ w₃).ext x₄ w₄) g₄ fun v h₅ tk₅ x₅ w₅ g₅ => ?_))))
    (first | obtain ⟨_, rfl⟩ := Has.int_inv g₅ | obtain rfl := Has.bool_inv g₅ | obtain rfl := Has.ptr_inv g₅ | obtain rfl := HasL.nil_inv g₅ | obtain rfl := Has.none_inv g₅ | cases g₅)
    exact wpAny_holding (wpAny_truthy_bool (h _ _ (x₁.trans (x₂.trans (x₃.trans (x₄.trans x₅)))) w₅))
end
end Mine
end
section
open PySem PySem.W PySem.Calls PyProof.Rows
namespace Mine
section
variable {C : Cfg} {c : Ctx C}

/-! items and slices -/
def Item {C : Cfg} (c : Ctx C) (x y : D) (d : D) : Prop :=
  ∀ (A : Around) (s : Shared) (Q : Value → Shared → Prop) (E : Value → Shared → Prop) (value slice : Expr) (vx vy : Value), Room c.k A → c.P s.heap → Has C s.heap c.M vx x → Has C s.heap c.M vy y →
    subscripted slice false vx vy = operate [vx, vy] (getItem vx vy) →
    (∀ v h' tk, Ext C.T s.heap h' → Wf C c.M h' → Has C h' c.M v d → Q v { s with heap := h', toks := tk }) → wpAny (model C.prog C.w) A (subscriptTail value slice vx vy) Q E s
theorem Ev.sub {value slice : Expr} {pos : Pos} {x y d : D} (hv : Ev c value x) (hs : Ev c slice y) (hi : Item c x y d) (he : ∀ o i, subscripted slice false o i = operate [o, i] (getItem o i) := by intros; rfl) : Ev c (.Subscript value slice pos) d := by
  intro A s Q E rm p h
  refine PyProof.Rows.Subscript_ (hv A s _ E rm p fun vx h₁ tk₁ x₁ w₁ g₁ => ?_)
  refine hs A _ _ E rm (p.ext x₁ w₁) fun vy h₂ tk₂ x₂ w₂ g₂ => ?_
  exact hi A _ _ E value slice vx vy rm ((p.ext x₁ w₁).ext x₂ w₂) (g₁.ext x₂ w₂) g₂ (he _ _) fun v h₃ tk₃ x₃ w₃ g₃ => h _ _ _ (x₁.trans (x₂.trans x₃)) w₃ g₃
theorem arr_get {items : Array Value} {i : Nat} {v : Value} (e : items.toList[i]? = some v) : items[i]? = some v := by rwa [Array.getElem?_toList] at e
theorem Item.lst {ds : List D} {i : Int} {d : D} (h0 : 0 ≤ i) (h1 : i < 2 ^ 63) (hd : ds[i.toNat]? = some d) : Item c (.lst ds) (.int i) d := by
  intro A s Q E value slice vx vy rm p hx hy he h
  (first | obtain ⟨_, rfl⟩ := Has.int_inv hy | obtain rfl := Has.bool_inv hy | obtain rfl := Has.ptr_inv hy | obtain rfl := HasL.nil_inv hy | obtain rfl := Has.none_inv hy | cases hy)
  have q9 := Has.lst_inv hx; clear hx; obtain ⟨_, _, rfl, ha, hl, hg⟩ := q9
  obtain ⟨v, e, g⟩ := hg.get' hd
  exact tail_any hl.typeIs slot_list_getitem.lookup (wpAny_getItem_list hl h0 h1 (arr_get e) (h _ _ s.toks (Ext.refl _ _) p.at_.wf g)) he
theorem Item.tup {ds : List D} {i : Int} {d : D} (h0 : 0 ≤ i) (h1 : i < 2 ^ 63) (hd : ds[i.toNat]? = some d) : Item c (.tup ds) (.int i) d := by
  intro A s Q E value slice vx vy rm p hx hy he h
  (first | obtain ⟨_, rfl⟩ := Has.int_inv hy | obtain rfl := Has.bool_inv hy | obtain rfl := Has.ptr_inv hy | obtain rfl := HasL.nil_inv hy | obtain rfl := Has.none_inv hy | cases hy)
  have q9 := Has.tup_inv hx; clear hx; obtain ⟨_, _, rfl, ha, ht, hg⟩ := q9
  obtain ⟨v, e, g⟩ := hg.get' hd
  have hlt : i.toNat < ds.length := (List.getElem?_eq_some_iff.mp hd).1
  have hsz := hg.length
  refine item_tupleT (j := i.toNat) ht (by omega) h1 ?_ e (h _ _ s.toks (Ext.refl _ _) p.at_.wf g) he
  unfold seqIndex?
  rw [if_neg (show ¬ i < 0 by omega), if_pos (by rw [Bool.and_eq_true, decide_eq_true_eq, decide_eq_true_eq]; omega)]

def EvP {C : Cfg} (c : Ctx C) (x : Option Expr) (o : Option Int) : Prop :=
  ∀ (A : Around) (s : Shared) (Q : Value → Shared → Prop) (E : Value → Shared → Prop), Room c.k A → c.P s.heap →
    (∀ v h' tk, Ext C.T s.heap h' → Wf C c.M h' → IsPart v o → Q v { s with heap := h', toks := tk }) → wpAny (model C.prog C.w) A (evalPart x c.env) Q E s
theorem EvP.none : EvP c none none := fun A s Q E rm p h => wpAny_pure (h _ _ s.toks (Ext.refl _ _) p.at_.wf .none)
theorem EvP.int {e : Expr} {i : Int} (he : Ev c e (.int i)) : EvP c (some e) (some i) := fun A s Q E rm p h => he A s Q E rm p fun v h' tk x w g => by cases g; exact h _ _ _ x w (.int _ _)
theorem HasL.slice {h : Heap} {M : ASet} {items : Array Value} {ds : List D} {lo hi : Option Int} (g : HasL C h M items.toList ds) :
    HasL C h M (slicePick items lo hi none).toList ((ds.drop (lo.elim 0 (clipAt ds.length))).take (hi.elim ds.length (clipAt ds.length) - lo.elim 0 (clipAt ds.length))) := by
  rw [slicePick_plain]
  have e : items.size = ds.length := by rw [← g.length]; simp
  rw [e]
  simpa using (g.drop _).take _
theorem Ev.slice {value : Expr} {lower upper : Option Expr} {p pos : Pos} {ds : List D} {lo hi : Option Int} (hv : Ev c value (.lst ds)) (hl : EvP c lower lo) (hu : EvP c upper hi) (hsz : ds.length ≤ sizeLine) :
    Ev c (.Subscript value (.Slice lower upper none p) pos) (.lst ((ds.drop (lo.elim 0 (clipAt ds.length))).take (hi.elim ds.length (clipAt ds.length) - lo.elim 0 (clipAt ds.length)))) := by
  intro A s Q E rm p h
  refine PyProof.Rows.Subscript_ (hv A s _ E rm p fun vx h₁ tk₁ x₁ w₁ g₁ => ?_)
  refine wpAny_Slice (hl A _ _ E rm (p.ext x₁ w₁) fun vl h₂ tk₂ x₂ w₂ g₂ => ?_)
  refine hu A _ _ E rm ((p.ext x₁ w₁).ext x₂ w₂) fun vu h₃ tk₃ x₃ w₃ g₃ => ?_
  rw [evalPart_none]
  refine wpAny_pure ?_
  have gx := (g₁.ext x₂ w₂).ext x₃ w₃
  have q9 := Has.lst_inv gx; clear gx; obtain ⟨_, _, rfl, ha, hl', hg⟩ := q9
  have hsz' : ∀ {its : Array Value}, HasL C h₃ c.M its.toList ds → its.size ≤ sizeLine := fun q => by have := q.length; simp at this; omega
  have w₄ := w₃.push { cls := .type "slice", data := .fields #[vl, vu, .none] }
  rename_i its
  refine tail_any (Heap.IsList.typeIs (hl'.push _)) slot_list_getitem.lookup (wpAny_getItem_list_slice (hl'.push _) (Heap.IsSliceOf.new ..) g₂ g₃ .none (by simp) ?_ (hsz' hg)) rfl
  have w₅ := w₄.push { cls := .type "list", data := .seq (slicePick its lo hi none) }
  refine h _ _ _ (x₁.trans (x₂.trans (x₃.trans ((Ext.push _ _ _).trans (Ext.push _ _ _))))) w₅ (.lst w₄.fresh ⟨_, Heap.get?_push_size _ rfl, rfl, _, rfl⟩ ?_)
  exact HasL.slice ((hg.ext (Ext.push C.T h₃ _) w₄).ext (Ext.push C.T _ _) w₅)

/-! lists put together -/
theorem catL_one {s : Shared} {A : Around} {E : Value → Shared → Prop} {L a b : Addr} {m : Str → Option Value} {xs ys : Array Value} (n : s.heap.Ns L m) (hx : s.heap.IsList a xs) (hy : s.heap.IsList b ys) (hz : xs.size + ys.size ≤ sizeLine) :
    wpAny (model C.prog C.w) A (binaryOp .Add (.ref a) (.ref b)) (fun v s' => Kept L s.heap s'.heap ∧ ∃ h' tk l, s' = { s with heap := h', toks := tk } ∧ s.heap.objs.size ≤ l ∧ v = .ref l ∧ h'.IsList l (xs ++ ys)) E s := by
  refine add_arrays (fr_all n) news_all hx hy (fun h' F N => ?_) hz
  obtain ⟨k, e⟩ := kept_of_news1 N
  exact ⟨k, h', s.toks, _, rfl, Nat.le_refl _, rfl, _, e, rfl, 0, by simp⟩
theorem Op.catL {ds es : List D} (hsz : ds.length + es.length ≤ sizeLine) : Op c (.lst ds) (.lst es) (binaryOp .Add) (.lst (ds ++ es)) := by
  intro A s Q E vx vy rm p hx hy h
  have q9 := Has.lst_inv hx; clear hx; obtain ⟨_, _, rfl, ha, hl, hg⟩ := q9
  have q9 := Has.lst_inv hy; clear hy; obtain ⟨_, _, rfl, hb, hm, hk⟩ := q9
  obtain ⟨m, hn⟩ := p.at_.ns
  have hz := hg.length; have hz' := hk.length; simp at hz hz'
  refine wp_twice (L₁ := builtinsNs) (L₂ := c.env.locals) (fun q => p.at_.fT (.inr q.symm)) (catL_one p.wf.b hl hm (by omega)) (catL_one hn hl hm (by omega)) ?_
  rintro v s' k ⟨h', tk, l, rfl, hle, rfl, hr⟩
  have w := p.wf.keep k
  have x : Ext C.T s.heap h' := fun b o _ e => k b o e
  refine h _ _ _ x w (.lst (fun q => ?_) hr ?_)
  · obtain ⟨o, e⟩ := p.wf.lt _ q; exact Nat.lt_irrefl _ (Nat.lt_of_lt_of_le (Heap.lt_size e) hle)
  · simpa using (hg.ext x w).append (hk.ext x w)
theorem HasL.rep {h : Heap} {M : ASet} {vs : List Value} {ds : List D} (g : HasL C h M vs ds) : ∀ n : Nat, HasL C h M (List.replicate n vs).flatten (List.replicate n ds).flatten
  | 0 => .nil
  | n + 1 => by rw [List.replicate_succ, List.replicate_succ, List.flatten_cons, List.flatten_cons]; exact g.append (g.rep n)
theorem Op.repL {ds : List D} {x : Int} (h0 : -(2 ^ 63 : Int) ≤ x) (h1 : x < 2 ^ 63) (hsz : ds.length * x.toNat ≤ 2 ^ 24) : Op c (.lst ds) (.int x) (binaryOp .Mult) (.lst (List.replicate x.toNat ds).flatten) := by
  intro A s Q E vx vy rm p hx hy h
  (first | obtain ⟨_, rfl⟩ := Has.int_inv hy | obtain rfl := Has.bool_inv hy | obtain rfl := Has.ptr_inv hy | obtain rfl := HasL.nil_inv hy | obtain rfl := Has.none_inv hy | cases hy)
  rename_i u
  have q9 := Has.lst_inv hx; clear hx; obtain ⟨l, items, rfl, ha, hl, hg⟩ := q9
  obtain ⟨⟨cls, d, data, sl⟩, ho, hcl, k, hd⟩ := id hl
  simp only at hcl hd
  subst hcl hd
  have hz := hg.length
  have hsz' : items.size * x.toNat ≤ 2 ^ 24 := by simp at hz; rw [hz]; exact hsz
  refine wpAny_binaryOp_repeat_ref (T := "list") (U := "int") (by decide) ⟨_, ho, rfl⟩ (fun s' => typeIs_int s' x u) noFill_list_mul F.fills_int_mul F.slot_int_rmul repeat_list F.slot_int_index.lookup
    (call_meets F.slot_int_rmul (typeIs_int s x u) F.entry_int_rmul (F.args_int_rmul_2 _ _) (lm_int_rmul_list_any x u l items k d sl)
      ⟨ho, rfl, ⟨_, ho, rfl⟩, call_meets F.slot_list_mul ⟨_, ho, rfl⟩ F.entry_list_mul (F.args_list_mul_2 _ _)
        (lm_list_mul_any l items k d sl x u (by simp [Builtin.List.listFitsIndex]; omega) (by omega) (by simp [Builtin.List.listTooLong, sizeLine]; omega))
        ⟨ho, ?_⟩⟩)
  have w := p.at_.wf.push { cls := Value.type "list", data := Data.seq (List.foldl (fun x1 x2 => x1 ++ x2) #[] (List.replicate (if items.isEmpty = true then 0 else x.toNat) items)) }
  refine h _ _ _ (Ext.push _ _ _) w (.lst p.at_.wf.fresh ⟨_, Heap.get?_push_size _ rfl, rfl, _, rfl⟩ ?_)
  rw [show (List.foldl (fun x1 x2 => x1 ++ x2) #[] (List.replicate (if items.isEmpty = true then 0 else x.toNat) items)).toList = (List.replicate x.toNat items.toList).flatten from by rw [listMul_foldl_if]]
  exact (hg.ext (Ext.push C.T s.heap _) w).rep x.toNat

/-! calls of what the interpreter brings -/
def OpL {C : Cfg} (c : Ctx C) (ds : List D) (t : List Value → Sem Value) (d : D) : Prop :=
  ∀ (A : Around) (s : Shared) (Q : Value → Shared → Prop) (E : Value → Shared → Prop) (vs : List Value), Room c.k A → c.P s.heap → HasL C s.heap c.M vs ds →
    (∀ v h' tk, Ext C.T s.heap h' → Wf C c.M h' → Has C h' c.M v d → Q v { s with heap := h', toks := tk }) → wpAny (model C.prog C.w) A (t vs) Q E s
theorem Wf.kIn {M : ASet} {h : Heap} (w : Wf C M h) : C.K.In h := fun a o e => (w.k a o e).1
theorem Wf.glob {M : ASet} {h : Heap} (w : Wf C M h) {x : Str} {v : Value} (e : nsIn C.K mainGlobals x = some (some v)) : C.mg x = some v := mg_of w.kIn w.g e
theorem Wf.noGlob {M : ASet} {h : Heap} (w : Wf C M h) {x : Str} (e : nsIn C.K mainGlobals x = some none) : C.mg x = none := mg_none_of w.kIn w.g e

/-- a name of the interpreter's, bound by no line of the text -/
def Bi (C : Cfg) (env : Env) (x : Str) (v : Value) : Prop := nsIn C.K mainGlobals x = some none ∧ bootBuiltins x = some v ∧ env.kindOf x = some .globalImplicit ∧ x ≠ "__name__" ∧ (x == ("__debug__" : Str)) = false
theorem wpAny_bi {A : Around} {s : Shared} {Q : Value → Shared → Prop} {E : Value → Shared → Prop} {x : Str} {v : Value} {pos : Pos} (p : c.P s.heap) (b : Bi C c.env x v) (h : Q v s) : wpAny (model C.prog C.w) A (eval (.Name x pos) c.env) Q E s := by
  obtain ⟨b1, b2, b3, b4, b5⟩ := b
  exact Calls.Name_function_global p.at_.kind b3 (Calls.loadGlobal_builtin (by rw [p.at_.gl]; exact p.at_.wf.g) (p.at_.wf.noGlob b1) (by rw [p.at_.bn]; exact p.at_.wf.b) ((p.at_.wf.bi x b4).trans b2) h) b5

theorem Ev.callB {x : Str} {np pos : Pos} {id : String} {e : Expr} {es : List Expr} {ds : List D} {d : D} (b : Bi C c.env x (.builtin id)) (hes : EvL c (e :: es) ds) (ho : OpL c ds (fun vs => call (.builtin id) vs) d)
    (he : starEach (e :: es) c.env = (false, eval e c.env) :: starEach es c.env := by rfl) (hp : (backTo pos (starEach es c.env)).any (·.1) = false := by rfl) : Ev c (.Call (.Name x np) (e :: es) [] pos) d := by
  intro A s Q E rm p h
  show wpAny _ A (do callWith pos (← eval (.Name x np) c.env) [] (backTo pos (starEach (e :: es) c.env)) []) Q E s
  refine wpAny_bind (wpAny_bi p b ?_)
  refine PyProof.Rows.callWith_builtin1 (hes A s _ E pos rm p fun vs h₁ tk₁ x₁ w₁ g₁ => ?_) he hp
  exact ho A _ _ E vs rm (p.ext x₁ w₁) g₁ fun v h₂ tk₂ x₂ w₂ g₂ => h _ _ _ (x₁.trans x₂) w₂ g₂
theorem Ev.callT {x : Str} {np pos : Pos} {T : String} {e : Expr} {es : List Expr} {ds : List D} {d : D} (b : Bi C c.env x (.type T)) (hes : EvL c (e :: es) ds) (ho : OpL c ds (fun vs => call (.type T) vs) d)
    (he : starEach (e :: es) c.env = (false, eval e c.env) :: starEach es c.env := by rfl) (hp : (backTo pos (starEach es c.env)).any (·.1) = false := by rfl) : Ev c (.Call (.Name x np) (e :: es) [] pos) d := by
  intro A s Q E rm p h
  show wpAny _ A (do callWith pos (← eval (.Name x np) c.env) [] (backTo pos (starEach (e :: es) c.env)) []) Q E s
  refine wpAny_bind (wpAny_bi p b ?_)
  refine PyProof.Rows.callWith_type1 (hes A s _ E pos rm p fun vs h₁ tk₁ x₁ w₁ g₁ => ?_) he hp
  exact ho A _ _ E vs rm (p.ext x₁ w₁) g₁ fun v h₂ tk₂ x₂ w₂ g₂ => h _ _ _ (x₁.trans x₂) w₂ g₂
end
end Mine
end
section
open PySem PySem.W PySem.Calls PyProof.Rows
namespace Mine

theorem Ns.uniq {h : Heap} {a : Addr} {m m' : Str → Option Value} (x : h.Ns a m) (y : h.Ns a m') : m = m' := x.eq_nsMap.trans y.eq_nsMap.symm

/-! names get values -/
def Ctx.set {C : Cfg} (c : Ctx C) (x : Str) (d : D) : Ctx C := { c with G := (x, d) :: c.G }
def Wr {C : Cfg} (c : Ctx C) (x : Str) : Prop := c.env.kindOf x = some .local ∨ (c.env.kindOf x = some .cell ∧ c.cw x = true ∧ (c.env.cells.lookup x).isSome = true)

section
variable {C : Cfg} {c : Ctx C} {h h' : Heap}

theorem lookup_cons_if {x y : Str} {d : D} {G : List (Str × D)} : ((x, d) :: G).lookup y = if y = x then some d else G.lookup y := by
  rw [List.lookup_cons]
  by_cases e : y = x
  · subst e; simp
  · rw [beq_eq_false_iff_ne.mpr e, if_neg e]

theorem Ctx.P.write (p : c.P h) {a : Addr} (sb : Heap.SameBut a h h') (ha : c.M a) (hT : ¬ C.T a) (hN : ¬ c.I.N a) (lv : ∃ o, h'.get? a = some o) {G : List (Str × D)} {O : List (Addr × D)}
    (hns : ∃ m, h'.Ns c.env.locals m) (hcc : ∀ x b, c.env.cells.lookup x = some b → ∃ v, h'.IsCell b v) (hv : Vars C h' c.M c.env G)
    (hO : ∀ q ∈ O, OAt C c h' q) (nd : (O.map (·.1)).Nodup) : ({ c with G := G, O := O } : Ctx C).P h' where
  at_ := { p.at_ with wf := p.wf.same sb ha hT lv, ns := hns, cC := hcc, vars := hv }
  loc := p.loc
  cel := p.cel
  o := fun q hq => let z := hO q hq; ⟨z.own, z.m, z.t, z.n, z.l, z.c⟩
  nd := nd
  nM := p.nM
  x := c.I.keep p.x p.wf.tM fun b o hT' hb e => (sb.2 b (fun q => by subst q; exact hb.elim (fun n => n ha) hN)).trans e
theorem Ctx.P.oKeep (p : c.P h) {a : Addr} (sb : Heap.SameBut a h h') (ha : c.M a) {q : Addr × D} (hq : q ∈ c.O) (hne : q.1 ≠ a) : OAt C c h' q :=
  { p.o q hq with own := (p.o q hq).own.keep (fun o e => (sb.2 _ hne).trans e) fun b o hb e => (sb.2 b (fun t => hb (t ▸ ha))).trans e }
theorem kept_of {a : Addr} {M : ASet} (sb : Heap.SameBut a h h') (ha : M a) : ∀ b o, ¬ M b → h.get? b = some o → h'.get? b = some o := fun b o hb e => (sb.2 b (fun t => hb (t ▸ ha))).trans e

theorem wpAny_storeN {A : Around} {s : Shared} {Q : Unit → Shared → Prop} {E : Value → Shared → Prop} {x : Str} {v : Value} {d : D} (p : c.P s.heap) (w : Wr c x) (hv : Has C s.heap c.M v d)
    (hQ : ∀ h' tk, (c.set x d).P h' → (∀ b o, (¬ c.M b ∨ c.I.N b) → s.heap.get? b = some o → h'.get? b = some o) → Q () { s with heap := h', toks := tk }) : wpAny (model C.prog C.w) A (storeName c.env x v) Q E s := by
  rcases w with w | ⟨w, cw, hb⟩
  · obtain ⟨m, hn⟩ := p.at_.ns
    refine wpAny_storeName_local w hn (fun h' hn' sb => ?_) (by rw [p.at_.kind]; rfl)
    have k := kept_of sb p.at_.fM
    refine hQ h' _ (p.write sb p.at_.fM p.at_.fT p.loc ⟨_, hn'.choose_spec.choose_spec.choose_spec.1⟩ ⟨_, hn'⟩ (fun y b e => let ⟨v, hc⟩ := p.at_.cC y b e; ⟨v, hc.sameBut sb (p.at_.cM y b e).2.2⟩) ?_ (fun q hq => p.oKeep sb p.at_.fM hq (p.o q hq).l) p.nd) (fun b o hb e => (sb.2 b fun q => by subst q; exact hb.elim (fun n => n p.at_.fM) p.loc).trans e)
    intro y dy hy
    rw [lookup_cons_if] at hy
    by_cases e : y = x
    · rw [if_pos e] at hy; cases hy; subst e
      exact ⟨v, .inl ⟨w, _, hn', if_pos rfl⟩, hv.keep k⟩
    · rw [if_neg e] at hy
      obtain ⟨u, b, hu⟩ := p.at_.vars y dy hy
      refine ⟨u, ?_, hu.keep k⟩
      rcases b with ⟨e1, m₁, hm₁, e2⟩ | ⟨e1, b, e2, e3⟩
      · exact .inl ⟨e1, _, hn', by rw [if_neg e]; rw [Ns.uniq hn hm₁]; exact e2⟩
      · exact .inr ⟨e1, b, e2, e3.sameBut sb (p.at_.cM y b e2).2.2⟩
  · obtain ⟨b, hb⟩ := Option.isSome_iff_exists.mp hb
    obtain ⟨v₀, hc⟩ := p.at_.cC x b hb
    refine wpAny_storeName_cell p.at_.kind w hb hc (fun h' hc' sb => ?_)
    obtain ⟨hM, hT, hL⟩ := p.at_.cM x b hb
    have k := kept_of sb hM
    obtain ⟨m, hn⟩ := p.at_.ns
    refine hQ h' s.toks (p.write sb hM hT (p.cel x cw b hb) ⟨_, hc'.choose_spec.1⟩ ⟨m, hn.sameBut sb (Ne.symm hL)⟩ (fun y b' e => ?_) ?_ (fun q hq => p.oKeep sb hM hq ((p.o q hq).c x b hb)) p.nd) (fun b' o hb' e => (sb.2 b' fun q => by subst q; exact hb'.elim (fun n => n hM) (p.cel x cw _ hb)).trans e)
    · by_cases e' : b' = b
      · subst e'; exact ⟨_, hc'⟩
      · obtain ⟨v, hv⟩ := p.at_.cC y b' e; exact ⟨v, hv.sameBut sb e'⟩
    intro y dy hy
    rw [lookup_cons_if] at hy
    by_cases e : y = x
    · rw [if_pos e] at hy; cases hy; subst e
      exact ⟨v, .inr ⟨.inl w, b, hb, hc'⟩, hv.keep k⟩
    · rw [if_neg e] at hy
      obtain ⟨u, bd, hu⟩ := p.at_.vars y dy hy
      refine ⟨u, ?_, hu.keep k⟩
      rcases bd with ⟨e1, m₁, hm₁, e2⟩ | ⟨e1, b', e2, e3⟩
      · exact .inl ⟨e1, _, hm₁.sameBut sb (Ne.symm hL), e2⟩
      · exact .inr ⟨e1, b', e2, e3.sameBut sb (fun q => e (p.at_.cA y x b (q ▸ e2) hb))⟩

theorem wpAny_store {A : Around} {s : Shared} {Q : Unit → Shared → Prop} {E : Value → Shared → Prop} {x : Str} {v : Value} {d : D} (p : c.P s.heap) (w : Wr c x) (hv : Has C s.heap c.M v d)
    (hQ : ∀ h' tk, (c.set x d).P h' → (∀ b o, ¬ c.M b → s.heap.get? b = some o → h'.get? b = some o) → Q () { s with heap := h', toks := tk }) : wpAny (model C.prog C.w) A (storeName c.env x v) Q E s :=
  wpAny_storeN p w hv fun h' tk p' k => hQ h' tk p' fun b o hb e => k b o (.inl hb) e

/-! targets -/
def Tg {C : Cfg} (c : Ctx C) (t : Expr) (d : D) (c' : Ctx C) : Prop :=
  ∀ (A : Around) (s : Shared) (Q : Unit → Shared → Prop) (E : Value → Shared → Prop) (v : Value), Room c.k A → c.P s.heap → Has C s.heap c.M v d →
    (∀ h' tk, c'.P h' → (∀ b o, ¬ c.M b → s.heap.get? b = some o → h'.get? b = some o) → Q () { s with heap := h', toks := tk }) → wpAny (model C.prog C.w) A (assign t c.env v) Q E s
def TgL {C : Cfg} (c : Ctx C) (ts : List Expr) (ds : List D) (c' : Ctx C) : Prop :=
  ∀ (A : Around) (s : Shared) (Q : Unit → Shared → Prop) (E : Value → Shared → Prop) (vs : List Value), Room c.k A → c.P s.heap → HasL C s.heap c.M vs ds →
    (∀ h' tk, c'.P h' → (∀ b o, ¬ c.M b → s.heap.get? b = some o → h'.get? b = some o) → Q () { s with heap := h', toks := tk }) → wpAny (model C.prog C.w) A (assignInOrder ((assignEach ts c.env).map (·.2)) vs) Q E s
theorem Tg.name {x : Str} {pos : Pos} {d : D} (w : Wr c x) : Tg c (.Name x pos) d (c.set x d) := fun A s Q E v rm p hv hQ => wpAny_assign_Name (wpAny_store p w hv hQ)
theorem TgL.nil : TgL c [] [] c := fun A s Q E vs rm p hv hQ => by
  (first | obtain ⟨_, rfl⟩ := Has.int_inv hv | obtain rfl := Has.bool_inv hv | obtain rfl := Has.ptr_inv hv | obtain rfl := HasL.nil_inv hv | obtain rfl := Has.none_inv hv | cases hv)
  exact wpAny_pure (hQ _ s.toks p fun _ _ _ e => e)
theorem TgL.cons {t : Expr} {ts : List Expr} {d : D} {ds : List D} {c₁ c₂ : Ctx C} (ht : Tg c t d c₁) (hts : TgL c₁ ts ds c₂) (hM : c₁.M = c.M := by rfl) (hE : c₁.env = c.env := by rfl) (hk : c₁.k = c.k := by rfl)
    (hs : assignEach (t :: ts) c.env = (false, assign t c.env) :: assignEach ts c.env := by rfl) : TgL c (t :: ts) (d :: ds) c₂ := by
  intro A s Q E vs rm p hv hQ
  have q9 := HasL.cons_inv hv; clear hv; obtain ⟨_, _, rfl, hv, hvs⟩ := q9
  rw [hs]
  refine wpAny_bind (wpAny_holding (ht A s _ E _ rm p hv fun h₁ tk₁ p₁ k₁ => ?_))
  have := hts A { s with heap := h₁, toks := tk₁ } Q E _ (hk ▸ rm) p₁ (hM ▸ hvs.keep k₁) fun h₂ tk₂ p₂ k₂ => hQ h₂ tk₂ p₂ fun b o hb e => k₂ b o (hM ▸ hb) (k₁ b o hb e)
  rw [hE] at this
  exact this
theorem assignEach_length (ts : List Expr) (env : Env) : (assignEach ts env).length = ts.length := by
  induction ts with
  | nil => rfl
  | cons t ts ih => cases t <;> simpa [assignEach] using ih
theorem Tg.tuple {ts : List Expr} {k : Nat} {pos : Pos} {ds : List D} {c' : Ctx C} (ht : TgL c ts ds c') (hl : ts.length = ds.length) (hstar : (assignEach ts c.env).findIdx? (·.1) = none := by rfl) : Tg c (.Tuple ts k pos) (.tup ds) c' := by
  intro A s Q E v rm p hv hQ
  have q9 := Has.tup_inv hv; clear hv; obtain ⟨_, _, rfl, ha, hi, hg⟩ := q9
  refine wpAny_assign_Tuple rm.hh hi (by rw [assignEach_length, hl, ← hg.length]; simp) hstar fun h' he => ?_
  have k : ∀ b o, s.heap.get? b = some o → h'.get? b = some o := fun b o e => he b o (Nat.ne_of_lt (Heap.lt_size e)) e
  have x : Ext C.T s.heap h' := fun b o _ e => k b o e
  have w := p.wf.keep k
  exact ht A { s with heap := h' } Q E _ rm (p.ext x w) (hg.ext x w) fun h₂ tk₂ p₂ k₂ => hQ h₂ tk₂ p₂ fun b o hb e => k₂ b o hb (k b o e)

/-! statements -/
def Ex {C : Cfg} (c : Ctx C) (ss : List Stmt) (R : Flow → Heap → Prop) : Prop :=
  ∀ (A : Around) (s : Shared) (Q : Flow → Shared → Prop) (E : Value → Shared → Prop), Room c.k A → c.P s.heap → (∀ f h' tk, R f h' → Q f { s with heap := h', toks := tk }) → wpAny (model C.prog C.w) A (execs ss c.env) Q E s
def Ex1 {C : Cfg} (c : Ctx C) (st : Stmt) (R : Flow → Heap → Prop) : Prop :=
  ∀ (A : Around) (s : Shared) (Q : Flow → Shared → Prop) (E : Value → Shared → Prop), Room c.k A → c.P s.heap → (∀ f h' tk, R f h' → Q f { s with heap := h', toks := tk }) → wpAny (model C.prog C.w) A (exec st c.env) Q E s
/-- what follows a statement -/
def Then {C : Cfg} (c : Ctx C) (rest : List Stmt) (R : Flow → Heap → Prop) : Flow → Heap → Prop := fun f h => match f with
  | .next => ∃ c' : Ctx C, c'.env = c.env ∧ c'.k = c.k ∧ c'.P h ∧ Ex c' rest R
  | f => R f h
variable {rest : List Stmt} {R : Flow → Heap → Prop}
theorem Ex.seq {st : Stmt} (hx : Ex1 c st (Then c rest R)) : Ex c (st :: rest) R := by
  intro A s Q E rm p hQ
  refine wpAny_execs_cons (hx A s _ E rm p fun f h' tk hr => ?_)
  cases f with
  | next =>
    obtain ⟨c', e1, e2, p', hx'⟩ := hr
    have := hx' A { s with heap := h', toks := tk } Q E (e2 ▸ rm) p' hQ
    rw [e1] at this; exact this
  | cont => exact hQ _ _ _ hr
  | brk => exact hQ _ _ _ hr
  | ret v => exact hQ _ _ _ hr
theorem Ex.nil (hr : ∀ h, c.P h → R .next h) : Ex c [] R := fun A s Q E rm p hQ => wpAny_execs_nil (hQ _ _ s.toks (hr _ p))
theorem Ex.weak {c' : Ctx C} (hx : Ex c' rest R) (hp : ∀ h, c.P h → c'.P h) (hE : c'.env = c.env := by rfl) (hk : c'.k = c.k := by rfl) : Ex c rest R := fun A s Q E rm p hQ => by
  have := hx A s Q E (hk ▸ rm) (hp _ p) hQ
  rw [hE] at this; exact this
theorem Ex1.assign {x : Str} {px pos : Pos} {e : Expr} {d : D} (he : Ev c e d) (w : Wr c x) (hr : ∀ h, (c.set x d).P h → R .next h) (hs : swapsWith e (some (.Name x px)) pos.line c.env = pure false := by rfl) :
    Ex1 c (.Assign [.Name x px] e pos) R := by
  intro A s Q E rm p hQ
  refine wpAny_Assign_Name (he A s _ E rm p fun v h₁ tk₁ x₁ w₁ g₁ => ?_) hs
  exact wpAny_store (s := { s with heap := h₁, toks := tk₁ }) (p.ext x₁ w₁) w g₁ fun h₂ tk₂ p₂ k₂ => hQ _ _ _ (hr _ p₂)
theorem Ex.assign {x : Str} {px pos : Pos} {e : Expr} {d : D} (he : Ev c e d) (w : Wr c x) (hr : Ex (c.set x d) rest R) (hs : swapsWith e (some (.Name x px)) pos.line c.env = pure false := by rfl) :
    Ex c (.Assign [.Name x px] e pos :: rest) R := .seq (.assign he w (fun h p => ⟨c.set x d, rfl, rfl, p, hr⟩) hs)
theorem Ex1.aug {x : Str} {px pos : Pos} {op : Operator} {e : Expr} {d₀ d₁ d : D} (hx : c.G.lookup x = some d₀) (he : Ev c e d₁) (ho : Op c d₀ d₁ (inplaceOp op) d) (w : Wr c x) (hr : ∀ h, (c.set x d).P h → R .next h) :
    Ex1 c (.AugAssign (.Name x px) op e pos) R := by
  intro A s Q E rm p hQ
  have hn : wpAny (model C.prog C.w) A (loadName c.env x) (fun old s₁ => wpAny (model C.prog C.w) A (eval e c.env) (fun v s₂ => wpAny (model C.prog C.w) A (inplaceOp op old v)
      (fun r s₃ => wpAny (model C.prog C.w) A (storeName c.env x r) (fun _ => Q .next) E s₃) E s₂) E s₁) E s := by
    obtain ⟨v, b, hv⟩ := p.at_.vars x d₀ hx
    have q : wpAny (model C.prog C.w) A (eval e c.env) (fun v₁ s₂ => wpAny (model C.prog C.w) A (inplaceOp op v v₁) (fun r s₃ => wpAny (model C.prog C.w) A (storeName c.env x r) (fun _ => Q .next) E s₃) E s₂) E s := by
      refine he A s _ E rm p fun v₁ h₁ tk₁ x₁ w₁ g₁ => ?_
      refine ho A _ _ E _ _ rm (p.ext x₁ w₁) (hv.ext x₁ w₁) g₁ fun v₂ h₂ tk₂ x₂ w₂ g₂ => ?_
      exact wpAny_store (s := { s with heap := h₂, toks := tk₂ }) ((p.ext x₁ w₁).ext x₂ w₂) w g₂ fun h₃ tk₃ p₃ _ => hQ _ _ _ (hr _ p₃)
    rcases b with ⟨e, m, hm, hv'⟩ | ⟨e, cc, hc, hoc⟩
    · exact wpAny_loadName_local p.at_.kind e hm hv' q
    · rcases e with e | e
      · exact wpAny_loadName_cell p.at_.kind e hc hoc q
      · rcases w with w | ⟨w, _⟩ <;> (rw [e] at w; cases w)
  exact wpAny_AugAssign_Name hn
theorem Ex.aug {x : Str} {px pos : Pos} {op : Operator} {e : Expr} {d₀ d₁ d : D} (hx : c.G.lookup x = some d₀) (he : Ev c e d₁) (ho : Op c d₀ d₁ (inplaceOp op) d) (w : Wr c x) (hr : Ex (c.set x d) rest R) :
    Ex c (.AugAssign (.Name x px) op e pos :: rest) R := .seq (.aug hx he ho w fun h p => ⟨c.set x d, rfl, rfl, p, hr⟩)
theorem Ex1.ite {test : Expr} {body orelse : List Stmt} {pos : Pos} {b : Bool} (ht : EvB c test b) (hb : Ex c (if b then body else orelse) R) : Ex1 c (.If test body orelse pos) R := by
  intro A s Q E rm p hQ
  refine wpAny_If (ht A s _ E rm p fun h₁ tk₁ x₁ w₁ => ?_)
  cases b with
  | true => exact hb A { s with heap := h₁, toks := tk₁ } Q E rm (p.ext x₁ w₁) hQ
  | false => exact hb A { s with heap := h₁, toks := tk₁ } Q E rm (p.ext x₁ w₁) hQ
theorem Ex.ite {test : Expr} {body orelse : List Stmt} {pos : Pos} {b : Bool} (ht : EvB c test b) (hb : Ex c (if b then body else orelse) (Then c rest R)) : Ex c (.If test body orelse pos :: rest) R := .seq (.ite ht hb)
/-- the last statement of a block that goes on behind it -/
theorem Then.intro {c c' : Ctx C} {h : Heap} (hx : Ex c' rest R) (p : c'.P h) (hE : c'.env = c.env := by rfl) (hk : c'.k = c.k := by rfl) : Then c rest R .next h := ⟨c', hE, hk, p, hx⟩
theorem Ex.ifF {test : Expr} {body orelse : List Stmt} {pos : Pos} (ht : EvB c test false) (hr : Ex c rest R) (ho : orelse = [] := by rfl) : Ex c (.If test body orelse pos :: rest) R := by
  subst ho; exact .ite ht (.nil fun h p => ⟨c, rfl, rfl, p, hr⟩)
theorem Ex.ret {e : Expr} {pos : Pos} {d : D} (he : Ev c e d) (hr : ∀ v h, c.P h → Has C h c.M v d → R (.ret v) h) : Ex c (.Return (some e) pos :: rest) R := .seq fun A s Q E rm p hQ =>
  wpAny_Return_some (he A s _ E rm p fun v h₁ tk₁ x₁ w₁ g₁ => hQ _ _ _ (hr v h₁ (p.ext x₁ w₁) g₁))
theorem Ex.retNone {pos : Pos} (hr : ∀ h, c.P h → R (.ret .none) h) : Ex c (.Return none pos :: rest) R := .seq fun A s Q E rm p hQ =>
  wpAny_Return_none (hQ _ _ s.toks (hr _ p))
end
end Mine
end
section
open PySem PySem.W PySem.Calls PyProof.Rows
namespace Mine

/-! walks over a dict whose entries are known as they lie in the heap -/
section
variable {prog : Program} {w : World} {A : Around} {E : Value → Shared → Prop} {s : Shared} {od : Obj} {es : Array DictEntry} {ep : Nat} {d : Addr}

theorem iterKeys {Q : Value → Shared → Prop} (hd : (d == sysModules) = false) (ho : s.heap.get? d = some od) (hc : od.ExactDict) (hdd : od.data = .dict es ep)
    (hQ : Q (.ref s.heap.objs.size) { s with heap := s.heap.push { cls := .type "dict_keyiterator", data := .fields #[.ref d, .int 0 0, .int es.size 0, .int ep 0] } }) : wpAny (model prog w) A (pyIter (.ref d)) Q E s := by
  have hT : s.TypeIs (.ref d) "dict" := ⟨_, ho, hc.1⟩
  refine wpAny_pyIter_slot hT F.slot_dict_iter (wpAny_call_entry F.slot_dict_iter hT F.entry_dict_iter ?_ (F.args_dict_iter_1 _))
  unfold Builtin.«dict.__iter__»
  refine wpAny_bind ?_
  unfold Builtin.Dict.dictSlotNone
  refine wpAny_bind (wpAny_notOrdered_dict hT ?_)
  show wpAny _ _ (pure (Value.ref d)) _ _ s
  refine wpAny_pure ?_
  show wpAny _ _ (Builtin.Dict.showsAll d >>= _) _ _ s
  unfold Builtin.Dict.showsAll
  rw [if_neg (by rw [hd]; exact Bool.false_ne_true)]
  refine wpAny_bind (wpAny_pure ?_)
  refine wpAny_bind (wpAny_dictEntries ho hdd ?_)
  refine wpAny_bind (wpAny_dictEpoch ho hdd ?_)
  refine wpAny_bind (wpAny_newObj_type (wpAny_pure ⟨_, rfl, "dict_keyiterator", _, ⟨_, Heap.get?_push_size _ rfl, rfl⟩, F.slot_dict_keyiterator_next.lookup, ?_⟩))
  simpa [rawInt] using hQ

theorem nextKeys {it : Addr} {i : Nat} {Q : Option Value → Shared → Prop} (hit : s.heap.IsKeyIter it d i es.size ep) (hod : s.heap.get? d = some od) (hdd : od.data = .dict es ep) (hlt : i < es.size)
    (hQ : ∀ h', h'.IsKeyIter it d (i + 1) es.size ep → Heap.SameBut it s.heap h' → Q (some es[i].key) { s with heap := h' }) : wpAny (model prog w) A (pyNext (.ref it)) Q E s := by
  obtain ⟨o, ho, hc, hd⟩ := id hit
  unfold pyNext
  refine wpAny_bind (wpAny_attempt (wpAny_callSpecial?_slot (name := Str.ofString "__next__") hit.typeIs F.slot_dict_keyiterator_next
    (wpAny_call_entry F.slot_dict_keyiterator_next hit.typeIs F.entry_dict_keyiterator_next ?_ (F.args_dict_keyiterator_next_1 _))))
  refine wpAny_bind (wpAny_pure ?_)
  refine wpAny_bind ?_
  refine wpAny_bind ?_
  first | refine wpAny_bind (wpAny_typeNameOfWhole_keyiter hit.typeIs (wpAny_pure ?_)) | refine wpAny_bind (wpAny_typeNameOf_keyiter hit.typeIs (wpAny_pure ?_))
  refine wpAny_bind (wpAny_fieldsOf ho hd ?_)
  have hown : Builtin.Dict_items.ownsTuple "dict_keyiterator" = false := by decide
  simp only [hown, Bool.false_eq_true, if_false]
  show wpAny _ _ (if (Value.ref d == Value.none) = true then _ else _) _ _ s
  rw [if_neg (show ¬ ((Value.ref d == Value.none) = true) from Bool.false_ne_true)]
  refine wpAny_bind (wpAny_pure ?_)
  refine wpAny_bind (wpAny_dictEntries hod hdd ?_)
  rw [if_neg (by simp)]
  refine wpAny_bind (wpAny_pure ?_)
  refine wpAny_bind (wpAny_dictEpoch hod hdd ?_)
  rw [if_neg (by simp)]
  refine wpAny_pure ?_
  simp only [show ¬ ((i : Int) < 0) from by omega, if_false, Int.toNat_natCast, Array.getElem?_eq_getElem hlt]
  refine wpAny_bind ?_
  first | refine wpAny_bind (wpAny_typeNameOfWhole_keyiter hit.typeIs (wpAny_pure ?_)) | refine wpAny_bind (wpAny_typeNameOf_keyiter hit.typeIs (wpAny_pure ?_))
  refine wpAny_bind (wpAny_isOneOf_keyiter hit.typeIs ?_)
  show wpAny _ _ (setField (.ref it) 1 (rawInt ((i : Int) + 1)) >>= _) _ _ s
  refine wpAny_bind (wpAny_setField ho hd (by simp) ?_)
  have hit' : (s.heap.update it (Obj.mapFields (·.setIfInBounds 1 (rawInt ((i : Int) + 1))))).IsKeyIter it d (i + 1) es.size ep :=
    ⟨_, Heap.get?_update_self _ ho (Obj.isFreed_of_fields (Obj.data_mapFields hd _)), (Obj.cls_mapFields ..).trans hc, by rw [Obj.data_mapFields hd]; simp [rawInt]⟩
  refine wpAny_bind (wpAny_holding ?_)
  refine wpAny_bind (wpAny_isOneOf_keyiter (s := { s with heap := s.heap.update it (Obj.mapFields (·.setIfInBounds 1 (rawInt ((i : Int) + 1)))) }) hit'.typeIs ?_)
  show wpAny _ _ (pure es[i].key) _ _ _
  exact wpAny_pure (wpAny_pure ⟨_, rfl, wpAny_pure (hQ _ hit' (Heap.SameBut.update ..))⟩)

theorem endKeys {it : Addr} {i : Nat} {Q : Option Value → Shared → Prop} (hh : A.handled = none) (hit : s.heap.IsKeyIter it d i es.size ep) (hod : s.heap.get? d = some od) (hdd : od.data = .dict es ep) (hge : es.size ≤ i)
    (hQ : ∀ h', Heap.ExtBut it s.heap h' → Q none { s with heap := h' }) : wpAny (model prog w) A (pyNext (.ref it)) Q E s := by
  obtain ⟨o, ho, hc, hd⟩ := id hit
  unfold pyNext
  refine wpAny_bind (wpAny_attempt (wpAny_callSpecial?_slot (name := Str.ofString "__next__") hit.typeIs F.slot_dict_keyiterator_next
    (wpAny_call_entry F.slot_dict_keyiterator_next hit.typeIs F.entry_dict_keyiterator_next ?_ (F.args_dict_keyiterator_next_1 _))))
  refine wpAny_bind (wpAny_pure ?_)
  refine wpAny_bind ?_
  refine wpAny_bind ?_
  first | refine wpAny_bind (wpAny_typeNameOfWhole_keyiter hit.typeIs (wpAny_pure ?_)) | refine wpAny_bind (wpAny_typeNameOf_keyiter hit.typeIs (wpAny_pure ?_))
  refine wpAny_bind (wpAny_fieldsOf ho hd ?_)
  have hown : Builtin.Dict_items.ownsTuple "dict_keyiterator" = false := by decide
  simp only [hown, Bool.false_eq_true, if_false]
  show wpAny _ _ (if (Value.ref d == Value.none) = true then _ else _) _ _ s
  rw [if_neg (show ¬ ((Value.ref d == Value.none) = true) from Bool.false_ne_true)]
  refine wpAny_bind (wpAny_pure ?_)
  refine wpAny_bind (wpAny_dictEntries hod hdd ?_)
  rw [if_neg (by simp)]
  refine wpAny_bind (wpAny_pure ?_)
  refine wpAny_bind (wpAny_dictEpoch hod hdd ?_)
  rw [if_neg (by simp)]
  refine wpAny_pure ?_
  simp only [show ¬ ((i : Int) < 0) from by omega, if_false, Int.toNat_natCast, Array.getElem?_eq_none hge]
  refine wpAny_bind ?_
  first | refine wpAny_bind (wpAny_typeNameOfWhole_keyiter hit.typeIs (wpAny_pure ?_)) | refine wpAny_bind (wpAny_typeNameOf_keyiter hit.typeIs (wpAny_pure ?_))
  show wpAny _ _ (setField (.ref it) 0 .none >>= _) _ _ s
  refine wpAny_bind (wpAny_setField ho hd (by simp) ?_)
  show wpAny _ _ (newExc (.type "StopIteration") [] >>= _) _ _ _
  refine wpAny_bind ?_
  simp only [newExc, newTuple]
  refine wpAny_bind (wpAny_newObj_type ?_ (by size_fits))
  refine wpAny_bind (m := firstArgMember _ _) (wpAny_of_eq (a := Value.none) (by first | rfl | (simp only [firstArgMember]; rfl)) ?_)
  refine wpAny_newObj_type ?_ (by size_fits)
  simp only [raiseNew]
  refine wpAny_bind (wpAny_handled ?_)
  rw [show A.in1.handled = none from hh]
  refine wpAny_bind (wpAny_pure (wpAny_throw ?_))
  refine wpAny_bind (wpAny_isInstance (T := "StopIteration") (b := true) ⟨_, Heap.get?_push_size _ rfl, rfl⟩ isSubtype_stop ?_)
  exact wpAny_pure (hQ _ (((Heap.SameBut.update ..).extBut.push _).push _))

theorem iterVals {v : Addr} {Q : Value → Shared → Prop} (hv : s.heap.IsValuesView v d) (ho : s.heap.get? d = some od) (hdd : od.data = .dict es ep)
    (hQ : Q (.ref s.heap.objs.size) { s with heap := s.heap.push { cls := .type "dict_valueiterator", data := .fields #[.ref d, .int 0 0, .int es.size 0, .int ep 0] } }) : wpAny (model prog w) A (pyIter (.ref v)) Q E s := by
  obtain ⟨ov, hov, hcv, hdv⟩ := id hv
  refine wpAny_pyIter_slot hv.typeIs F.slot_dict_values_iter (wpAny_call_entry F.slot_dict_values_iter hv.typeIs F.entry_dict_values_iter ?_ (F.args_dict_values_iter_1 _))
  unfold Builtin.«dict_values.__iter__»
  refine wpAny_bind (wpAny_pure ?_)
  refine wpAny_bind ?_
  unfold Builtin.Dict_items.dictOf
  refine wpAny_bind (wpAny_field hov hdv (x := .ref d) rfl (wpAny_pure ?_))
  refine wpAny_bind ?_
  unfold Builtin.Dict_items.newIterator
  refine wpAny_bind (wpAny_dictEntries ho hdd ?_)
  refine wpAny_bind (wpAny_dictEpoch ho hdd ?_)
  have hown : Builtin.Dict_items.ownsTuple "dict_valueiterator" = false := by decide
  simp only [hown, Bool.false_eq_true, if_false]
  refine wpAny_newObj_type (wpAny_pure ⟨_, rfl, "dict_valueiterator", _, ⟨_, Heap.get?_push_size _ rfl, rfl⟩, F.slot_dict_valueiterator_next.lookup, ?_⟩)
  simpa [rawInt] using hQ

theorem nextVals {it : Addr} {i : Nat} {Q : Option Value → Shared → Prop} (hit : s.heap.IsValIter it d i es.size ep) (hod : s.heap.get? d = some od) (hdd : od.data = .dict es ep) (hlt : i < es.size)
    (hQ : ∀ h', h'.IsValIter it d (i + 1) es.size ep → Heap.SameBut it s.heap h' → Q (some es[i].val) { s with heap := h' }) : wpAny (model prog w) A (pyNext (.ref it)) Q E s := by
  obtain ⟨o, ho, hc, hd⟩ := id hit
  unfold pyNext
  refine wpAny_bind (wpAny_attempt (wpAny_callSpecial?_slot (name := Str.ofString "__next__") hit.typeIs F.slot_dict_valueiterator_next
    (wpAny_call_entry F.slot_dict_valueiterator_next hit.typeIs F.entry_dict_valueiterator_next ?_ (F.args_dict_valueiterator_next_1 _))))
  refine wpAny_bind (wpAny_pure ?_)
  refine wpAny_bind ?_
  refine wpAny_bind ?_
  first | refine wpAny_bind (wpAny_typeNameOfWhole_valiter hit.typeIs (wpAny_pure ?_)) | refine wpAny_bind (wpAny_typeNameOf_valiter hit.typeIs (wpAny_pure ?_))
  refine wpAny_bind (wpAny_fieldsOf ho hd ?_)
  have hown : Builtin.Dict_items.ownsTuple "dict_valueiterator" = false := by decide
  simp only [hown, Bool.false_eq_true, if_false]
  show wpAny _ _ (if (Value.ref d == Value.none) = true then _ else _) _ _ s
  rw [if_neg (show ¬ ((Value.ref d == Value.none) = true) from Bool.false_ne_true)]
  refine wpAny_bind (wpAny_pure ?_)
  refine wpAny_bind (wpAny_dictEntries hod hdd ?_)
  rw [if_neg (by simp)]
  refine wpAny_bind (wpAny_pure ?_)
  refine wpAny_bind (wpAny_dictEpoch hod hdd ?_)
  rw [if_neg (by simp)]
  refine wpAny_pure ?_
  simp only [show ¬ ((i : Int) < 0) from by omega, if_false, Int.toNat_natCast, Array.getElem?_eq_getElem hlt]
  refine wpAny_bind ?_
  first | refine wpAny_bind (wpAny_typeNameOfWhole_valiter hit.typeIs (wpAny_pure ?_)) | refine wpAny_bind (wpAny_typeNameOf_valiter hit.typeIs (wpAny_pure ?_))
  refine wpAny_bind (wpAny_isOneOf_valiter hit.typeIs ?_)
  show wpAny _ _ (setField (.ref it) 1 (rawInt ((i : Int) + 1)) >>= _) _ _ s
  refine wpAny_bind (wpAny_setField ho hd (by simp) ?_)
  have hit' : (s.heap.update it (Obj.mapFields (·.setIfInBounds 1 (rawInt ((i : Int) + 1))))).IsValIter it d (i + 1) es.size ep :=
    ⟨_, Heap.get?_update_self _ ho (Obj.isFreed_of_fields (Obj.data_mapFields hd _)), (Obj.cls_mapFields ..).trans hc, by rw [Obj.data_mapFields hd]; simp [rawInt]⟩
  refine wpAny_bind (wpAny_holding ?_)
  refine wpAny_bind (wpAny_isOneOf_valiter (s := { s with heap := s.heap.update it (Obj.mapFields (·.setIfInBounds 1 (rawInt ((i : Int) + 1)))) }) hit'.typeIs ?_)
  refine wpAny_bind (wpAny_isOneOf_valiter (s := { s with heap := s.heap.update it (Obj.mapFields (·.setIfInBounds 1 (rawInt ((i : Int) + 1)))) }) hit'.typeIs ?_)
  show wpAny _ _ (pure es[i].val) _ _ _
  exact wpAny_pure (wpAny_pure ⟨_, rfl, wpAny_pure (hQ _ hit' (Heap.SameBut.update ..))⟩)

theorem endVals {it : Addr} {i : Nat} {Q : Option Value → Shared → Prop} (hh : A.handled = none) (hit : s.heap.IsValIter it d i es.size ep) (hod : s.heap.get? d = some od) (hdd : od.data = .dict es ep) (hge : es.size ≤ i)
    (hQ : ∀ h', Heap.ExtBut it s.heap h' → Q none { s with heap := h' }) : wpAny (model prog w) A (pyNext (.ref it)) Q E s := by
  obtain ⟨o, ho, hc, hd⟩ := id hit
  unfold pyNext
  refine wpAny_bind (wpAny_attempt (wpAny_callSpecial?_slot (name := Str.ofString "__next__") hit.typeIs F.slot_dict_valueiterator_next
    (wpAny_call_entry F.slot_dict_valueiterator_next hit.typeIs F.entry_dict_valueiterator_next ?_ (F.args_dict_valueiterator_next_1 _))))
  refine wpAny_bind (wpAny_pure ?_)
  refine wpAny_bind ?_
  refine wpAny_bind ?_
  first | refine wpAny_bind (wpAny_typeNameOfWhole_valiter hit.typeIs (wpAny_pure ?_)) | refine wpAny_bind (wpAny_typeNameOf_valiter hit.typeIs (wpAny_pure ?_))
  refine wpAny_bind (wpAny_fieldsOf ho hd ?_)
  have hown : Builtin.Dict_items.ownsTuple "dict_valueiterator" = false := by decide
  simp only [hown, Bool.false_eq_true, if_false]
  show wpAny _ _ (if (Value.ref d == Value.none) = true then _ else _) _ _ s
  rw [if_neg (show ¬ ((Value.ref d == Value.none) = true) from Bool.false_ne_true)]
  refine wpAny_bind (wpAny_pure ?_)
  refine wpAny_bind (wpAny_dictEntries hod hdd ?_)
  rw [if_neg (by simp)]
  refine wpAny_bind (wpAny_pure ?_)
  refine wpAny_bind (wpAny_dictEpoch hod hdd ?_)
  rw [if_neg (by simp)]
  refine wpAny_pure ?_
  simp only [show ¬ ((i : Int) < 0) from by omega, if_false, Int.toNat_natCast, Array.getElem?_eq_none hge]
  refine wpAny_bind ?_
  first | refine wpAny_bind (wpAny_typeNameOfWhole_valiter hit.typeIs (wpAny_pure ?_)) | refine wpAny_bind (wpAny_typeNameOf_valiter hit.typeIs (wpAny_pure ?_))
  show wpAny _ _ (setField (.ref it) 0 .none >>= _) _ _ s
  refine wpAny_bind (wpAny_setField ho hd (by simp) ?_)
  show wpAny _ _ (newExc (.type "StopIteration") [] >>= _) _ _ _
  refine wpAny_bind ?_
  simp only [newExc, newTuple]
  refine wpAny_bind (wpAny_newObj_type ?_ (by size_fits))
  refine wpAny_bind (m := firstArgMember _ _) (wpAny_of_eq (a := Value.none) (by first | rfl | (simp only [firstArgMember]; rfl)) ?_)
  refine wpAny_newObj_type ?_ (by size_fits)
  simp only [raiseNew]
  refine wpAny_bind (wpAny_handled ?_)
  rw [show A.in1.handled = none from hh]
  refine wpAny_bind (wpAny_pure (wpAny_throw ?_))
  refine wpAny_bind (wpAny_isInstance (T := "StopIteration") (b := true) ⟨_, Heap.get?_push_size _ rfl, rfl⟩ isSubtype_stop ?_)
  exact wpAny_pure (hQ _ (((Heap.SameBut.update ..).extBut.push _).push _))

theorem iterItems {v : Addr} {Q : Value → Shared → Prop} (hv : s.heap.IsItemsView v d) (ho : s.heap.get? d = some od) (hdd : od.data = .dict es ep)
    (hQ : Q (.ref s.heap.objs.size) { s with heap := s.heap.push { cls := .type "dict_itemiterator", data := .fields #[.none, .bool false, .ref d, .int 0 0, .int es.size 0, .int ep 0, .none, .none] } }) : wpAny (model prog w) A (pyIter (.ref v)) Q E s := by
  obtain ⟨ov, hov, hcv, hdv⟩ := id hv
  refine wpAny_pyIter_slot hv.typeIs F.slot_dict_items_iter (wpAny_call_entry F.slot_dict_items_iter hv.typeIs F.entry_dict_items_iter ?_ (F.args_dict_items_iter_1 _))
  unfold Builtin.«dict_items.__iter__»
  refine wpAny_bind (wpAny_pure ?_)
  refine wpAny_bind ?_
  unfold Builtin.Dict_items.dictOf
  refine wpAny_bind (wpAny_field hov hdv (x := .ref d) rfl (wpAny_pure ?_))
  refine wpAny_bind ?_
  unfold Builtin.Dict_items.newIterator
  refine wpAny_bind (wpAny_dictEntries ho hdd ?_)
  refine wpAny_bind (wpAny_dictEpoch ho hdd ?_)
  have hown : Builtin.Dict_items.ownsTuple "dict_itemiterator" = true := by decide
  simp only [hown, if_true]
  refine wpAny_newObj_type (wpAny_pure ⟨_, rfl, "dict_itemiterator", _, ⟨_, Heap.get?_push_size _ rfl, rfl⟩, F.slot_dict_itemiterator_next.lookup, ?_⟩)
    (by simp only [sizeOk, Builtin.Dict_items.ownedTupleFields, List.size_toArray, List.length_append, List.length_cons, List.length_nil, sizeLine_eq]; omega)
  simpa [rawInt, Builtin.Dict_items.ownedTupleFields] using hQ

theorem nextItems {it : Addr} {i : Nat} {ok ov : Value} {Q : Option Value → Shared → Prop} (hit : IsItemIter s.heap it d i es.size ep ok ov) (hod : s.heap.get? d = some od) (hdd : od.data = .dict es ep) (hlt : i < es.size)
    (hQ : ∀ h', IsItemIterOut h' it d (i + 1) es.size ep es[i].key es[i].val s.heap.objs.size → h'.get? s.heap.objs.size = some { cls := .type "tuple", data := .seq #[es[i].key, es[i].val] } →
      h'.objs.size = s.heap.objs.size + 1 → (∀ b o, b ≠ it → s.heap.get? b = some o → h'.get? b = some o) → Q (some (.ref s.heap.objs.size)) { s with heap := h' }) : wpAny (model prog w) A (pyNext (.ref it)) Q E s := by
  obtain ⟨hp, g, dr, tk, os⟩ := s
  have hT : Shared.TypeIs ⟨hp, g, dr, tk, os⟩ (.ref it) "dict_itemiterator" := ⟨_, hit, rfl⟩
  unfold pyNext
  refine wpAny_bind (wpAny_attempt (wpAny_callSpecial?_slot (name := Str.ofString "__next__") hT F.slot_dict_itemiterator_next
    (wpAny_call_entry F.slot_dict_itemiterator_next hT F.entry_dict_itemiterator_next ?_ (F.args_dict_itemiterator_next_1 _))))
  refine wpAny_bind (wpAny_pure ?_)
  refine wpAny_bind ?_
  refine wpAny_bind ?_
  first | refine wpAny_bind (wpAny_typeNameOfWhole_itemiter hT (wpAny_pure ?_)) | refine wpAny_bind (wpAny_typeNameOf_itemiter hT (wpAny_pure ?_))
  refine wpAny_bind (wpAny_fieldsOf hit rfl ?_)
  have hown : Builtin.Dict_items.ownsTuple "dict_itemiterator" = true := by decide
  simp only [hown, if_true]
  show wpAny _ _ (if (Value.ref d == Value.none) = true then _ else _) _ _ _
  rw [if_neg (show ¬ ((Value.ref d == Value.none) = true) from Bool.false_ne_true)]
  refine wpAny_bind (wpAny_pure ?_)
  refine wpAny_bind (wpAny_dictEntries hod hdd ?_)
  rw [if_neg (by simp)]
  refine wpAny_bind (wpAny_pure ?_)
  refine wpAny_bind (wpAny_dictEpoch hod hdd ?_)
  rw [if_neg (by simp)]
  refine wpAny_pure ?_
  simp only [show ¬ ((i : Int) < 0) from by omega, if_false, Int.toNat_natCast, Array.getElem?_eq_getElem hlt]
  refine wpAny_bind ?_
  first | refine wpAny_bind (wpAny_typeNameOfWhole_itemiter hT (wpAny_pure ?_)) | refine wpAny_bind (wpAny_typeNameOf_itemiter hT (wpAny_pure ?_))
  refine wpAny_bind (wpAny_isOneOf_itemiter hT ?_)
  show wpAny _ _ (setField (.ref it) 3 (rawInt ((i : Int) + 1)) >>= _) _ _ ⟨hp, g, dr, tk, os⟩
  refine wpAny_bind (wpAny_setField_rec hit (by simp) fun h₁ he₁ hs₁ => ?_)
  replace hs₁ : Heap.SameBut it hp h₁ := hs₁
  replace he₁ : IsItemIter h₁ it d (i + 1) es.size ep ok ov := by
    have e : ((i + 1 : Nat) : Int) = (i : Int) + 1 := by omega
    unfold IsItemIter; rw [e]; simpa [rawInt] using he₁
  have hT₁ : Shared.TypeIs ⟨h₁, g, dr, tk, os⟩ (.ref it) "dict_itemiterator" := ⟨_, he₁, rfl⟩
  refine wpAny_bind (wpAny_holding ?_)
  refine wpAny_bind (wpAny_isOneOf_itemiter hT₁ ?_)
  refine wpAny_bind (wpAny_isOneOf_itemiter hT₁ ?_)
  show wpAny _ _ (Builtin.Dict_items.pairFromOwner (.ref it) 6 es[i].key es[i].val) _ _ ⟨h₁, g, dr, tk, os⟩
  unfold Builtin.Dict_items.pairFromOwner
  refine wpAny_bind (wpAny_newTuple ?_)
  have he₂ : IsItemIter (h₁.push { cls := .type "tuple", data := .seq #[es[i].key, es[i].val] }) it d (i + 1) es.size ep ok ov := Heap.get?_push_of_some _ he₁
  generalize hh₂ : h₁.push { cls := .type "tuple", data := .seq #[es[i].key, es[i].val] } = h₂ at he₂
  have hz₁ : h₁.objs.size = hp.objs.size := hs₁.1
  have hil : it < hp.objs.size := Heap.lt_size hit
  have ht₂ : h₂.get? hp.objs.size = some { cls := .type "tuple", data := .seq #[es[i].key, es[i].val] } := by rw [← hh₂, ← hz₁]; exact Heap.get?_push_size _ rfl
  have hz₂ : h₂.objs.size = hp.objs.size + 1 := by rw [← hh₂, Heap.size_push, hz₁]
  have hk₂ : ∀ b o, b ≠ it → hp.get? b = some o → h₂.get? b = some o := fun b o hb e => by rw [← hh₂]; exact Heap.get?_push_of_some _ (hs₁.extBut b o hb e)
  show wpAny _ _ (Builtin.Dict_items.ownedTupleIsFree (.ref it) >>= _) _ _ ⟨h₂, g, dr, tk, os⟩
  rw [hz₁]
  clear hh₂ he₁ hs₁ hT₁ hz₁ h₁
  refine wpAny_bind ?_
  unfold Builtin.Dict_items.ownedTupleIsFree
  refine wpAny_bind (wpAny_field he₂ rfl (x := .none) rfl (wpAny_pure ?_))
  simp only [if_true]
  refine wpAny_bind (wpAny_field he₂ rfl (x := ok) rfl ?_)
  refine wpAny_bind (wpAny_field he₂ rfl (x := ov) rfl ?_)
  refine wpAny_bind (wpAny_setField_rec he₂ (by simp) fun h₃ he₃ hs₃ => ?_)
  replace hs₃ : Heap.SameBut it h₂ h₃ := hs₃
  replace he₃ : IsItemIter h₃ it d (i + 1) es.size ep es[i].key ov := he₃
  refine wpAny_bind (wpAny_setField_rec he₃ (by simp) fun h₄ he₄ hs₄ => ?_)
  replace hs₄ : Heap.SameBut it h₃ h₄ := hs₄
  replace he₄ : IsItemIter h₄ it d (i + 1) es.size ep es[i].key es[i].val := he₄
  refine wpAny_bind (wpAny_setField_rec he₄ (by simp) fun h₅ he₅ hs₅ => ?_)
  replace hs₅ : Heap.SameBut it h₄ h₅ := hs₅
  replace he₅ : IsItemIterOut h₅ it d (i + 1) es.size ep es[i].key es[i].val hp.objs.size := he₅
  refine wpAny_bind (wpAny_setField_rec he₅ (by simp) fun h₆ he₆ hs₆ => ?_)
  replace hs₆ : Heap.SameBut it h₅ h₆ := hs₆
  replace he₆ : IsItemIterOut h₆ it d (i + 1) es.size ep es[i].key es[i].val hp.objs.size := he₆
  refine wpAny_bind (wpAny_letGo (wpAny_pure (wpAny_pure ⟨_, rfl, wpAny_pure (hQ h₆ he₆ ?_ ?_ ?_)⟩)))
  · exact hs₆.extBut _ _ (Nat.ne_of_gt hil) (hs₅.extBut _ _ (Nat.ne_of_gt hil) (hs₄.extBut _ _ (Nat.ne_of_gt hil) (hs₃.extBut _ _ (Nat.ne_of_gt hil) ht₂)))
  · show h₆.objs.size = hp.objs.size + 1
    rw [hs₆.1, hs₅.1, hs₄.1, hs₃.1, hz₂]
  · exact fun b o hb e => hs₆.extBut b o hb (hs₅.extBut b o hb (hs₄.extBut b o hb (hs₃.extBut b o hb (hk₂ b o hb e))))

theorem endItems {it : Addr} {i : Nat} {ok ov : Value} {Q : Option Value → Shared → Prop} (hh : A.handled = none) (hit : IsItemIter s.heap it d i es.size ep ok ov) (hod : s.heap.get? d = some od) (hdd : od.data = .dict es ep) (hge : es.size ≤ i)
    (hQ : ∀ h', Heap.ExtBut it s.heap h' → Q none { s with heap := h' }) : wpAny (model prog w) A (pyNext (.ref it)) Q E s := by
  have hT : s.TypeIs (.ref it) "dict_itemiterator" := ⟨_, hit, rfl⟩
  unfold pyNext
  refine wpAny_bind (wpAny_attempt (wpAny_callSpecial?_slot (name := Str.ofString "__next__") hT F.slot_dict_itemiterator_next
    (wpAny_call_entry F.slot_dict_itemiterator_next hT F.entry_dict_itemiterator_next ?_ (F.args_dict_itemiterator_next_1 _))))
  refine wpAny_bind (wpAny_pure ?_)
  refine wpAny_bind ?_
  refine wpAny_bind ?_
  first | refine wpAny_bind (wpAny_typeNameOfWhole_itemiter hT (wpAny_pure ?_)) | refine wpAny_bind (wpAny_typeNameOf_itemiter hT (wpAny_pure ?_))
  refine wpAny_bind (wpAny_fieldsOf hit rfl ?_)
  have hown : Builtin.Dict_items.ownsTuple "dict_itemiterator" = true := by decide
  simp only [hown, if_true]
  show wpAny _ _ (if (Value.ref d == Value.none) = true then _ else _) _ _ s
  rw [if_neg (show ¬ ((Value.ref d == Value.none) = true) from Bool.false_ne_true)]
  refine wpAny_bind (wpAny_pure ?_)
  refine wpAny_bind (wpAny_dictEntries hod hdd ?_)
  rw [if_neg (by simp)]
  refine wpAny_bind (wpAny_pure ?_)
  refine wpAny_bind (wpAny_dictEpoch hod hdd ?_)
  rw [if_neg (by simp)]
  refine wpAny_pure ?_
  simp only [show ¬ ((i : Int) < 0) from by omega, if_false, Int.toNat_natCast, Array.getElem?_eq_none hge]
  refine wpAny_bind ?_
  first | refine wpAny_bind (wpAny_typeNameOfWhole_itemiter hT (wpAny_pure ?_)) | refine wpAny_bind (wpAny_typeNameOf_itemiter hT (wpAny_pure ?_))
  show wpAny _ _ (setField (.ref it) 2 .none >>= _) _ _ s
  refine wpAny_bind (wpAny_setField hit rfl (by simp) ?_)
  show wpAny _ _ (newExc (.type "StopIteration") [] >>= _) _ _ _
  refine wpAny_bind ?_
  simp only [newExc, newTuple]
  refine wpAny_bind (wpAny_newObj_type ?_ (by size_fits))
  refine wpAny_bind (m := firstArgMember _ _) (wpAny_of_eq (a := Value.none) (by first | rfl | (simp only [firstArgMember]; rfl)) ?_)
  refine wpAny_newObj_type ?_ (by size_fits)
  simp only [raiseNew]
  refine wpAny_bind (wpAny_handled ?_)
  rw [show A.in1.handled = none from hh]
  refine wpAny_bind (wpAny_pure (wpAny_throw ?_))
  refine wpAny_bind (wpAny_isInstance (T := "StopIteration") (b := true) ⟨_, Heap.get?_push_size _ rfl, rfl⟩ isSubtype_stop ?_)
  exact wpAny_pure (hQ _ (((Heap.SameBut.update ..).extBut.push _).push _))

end
end Mine
end
section
open PySem PySem.W PySem.Calls PyProof.Rows
namespace Mine

set_option genInjectivity false in
/-- what a loop draws from: it writes W alone, hands out ds, St i after i draws -/
structure Src (C : Cfg) (W : ASet) (it : Value) (ds : List D) (tg : Expr → Prop) (St : ASet → Nat → Heap → Prop) : Prop where
  keep : ∀ {M : ASet} {i : Nat} {h h' : Heap}, St M i h → (∀ b, C.T b → M b) → (∀ b o, ¬ C.T b → (¬ M b ∨ W b) → h.get? b = some o → h'.get? b = some o) → St M i h'
  grow : ∀ {M M' : ASet} {i : Nat} {h : Heap}, St M i h → (∀ b, C.T b → M b) → (∀ b o, M' b → ¬ M b → h.get? b = some o → False) → St M' i h
  anti : ∀ {M M' : ASet} {i : Nat} {h : Heap}, St M' i h → (∀ b, M b → M' b) → St M i h
  item : ∀ {A : Around} {s : Shared} {Q : Value → Shared → Prop} {E : Value → Shared → Prop} {M : ASet} {i : Nat} {d : D} {target : Expr}, A.handled = none → tg target → St M i s.heap → Wf C M s.heap → (∀ b, W b → M b ∧ ¬ C.T b) → ds[i]? = some d →
    (∀ v h' tk, (∀ b o, ¬ W b → s.heap.get? b = some o → h'.get? b = some o) → (∀ b, W b → ∃ o, h'.get? b = some o) → St M (i + 1) h' → Has C h' M v d → Q v { s with heap := h', toks := tk }) →
    wpAny (model C.prog C.w) A (pyNext it) (fun r s₁ => ∃ v, r = some v ∧ wpAny (model C.prog C.w) A (letOwnedTupleGo target it v) (fun _ s₂ => Q v s₂) E s₁) E s
  done : ∀ {A : Around} {s : Shared} {Q : Option Value → Shared → Prop} {E : Value → Shared → Prop} {M : ASet}, A.handled = none → St M ds.length s.heap → Wf C M s.heap → (∀ b, W b → M b ∧ ¬ C.T b) →
    (∀ h' tk, (∀ b o, ¬ W b → s.heap.get? b = some o → h'.get? b = some o) → Q none { s with heap := h', toks := tk }) → wpAny (model C.prog C.w) A (pyNext it) Q E s
  self : ∀ {A : Around} {s : Shared} {Q : Value → Shared → Prop} {E : Value → Shared → Prop} {M : ASet} {i : Nat}, St M i s.heap → Q it s → wpAny (model C.prog C.w) A (pyIter it) Q E s

def Any : Expr → Prop := fun _ => True
def Tup : Expr → Prop := fun t => ∃ es k p, t = .Tuple es k p

def EvI {C : Cfg} (c : Ctx C) (e : Expr) (ds : List D) (tg : Expr → Prop) : Prop :=
  ∀ (A : Around) (s : Shared) (Q : Value → Shared → Prop) (E : Value → Shared → Prop), Room c.k A → c.P s.heap →
    (∀ it h' tk W St, (∀ b o, ¬ C.T b → s.heap.get? b = some o → h'.get? b = some o) → Wf C (fun b => c.M b ∨ W b) h' → (∀ b, W b → s.heap.get? b = none ∧ ∃ o, h'.get? b = some o) → Src C W it ds tg St → St (fun b => c.M b ∨ W b) 0 h' →
      Q it { s with heap := h', toks := tk }) →
    wpAny (model C.prog C.w) A (eval e c.env) (fun x s₁ => wpAny (model C.prog C.w) A (pyIter x) Q E s₁) E s

theorem letGo_other {prog : Program} {w : World} {A : Around} {E : Value → Shared → Prop} {target : Expr} {I : Addr} {v : Value} {Q' : Unit → Shared → Prop} {s' : Shared} {o : Obj} {T : String} (ho : s'.heap.get? I = some o) (hc : o.cls = .type T) {vs : Array Value} (hd : o.data = .fields vs)
    (hT : ["enumerate", "zip", "dict_itemiterator", "dict_reverseitemiterator", "odict_iterator", "itertools.zip_longest", "itertools.pairwise"].contains T = false) (h : Q' () s') :
    wpAny (model prog w) A (letOwnedTupleGo target (.ref I) v) Q' E s' := by
  unfold letOwnedTupleGo
  cases target <;> first
    | exact wpAny_pure h
    | (cases v <;> first
        | exact wpAny_pure h
        | (refine wpAny_bind (wpAny_load ho ?_)
           rw [hc, hd]
           dsimp only
           rw [hT, Bool.false_and, if_neg Bool.false_ne_true]
           exact wpAny_pure h))

section
variable {C : Cfg}

/-- an iterator that is one object I, over what R tells -/
theorem Src.one (I : Addr) (ds : List D) (tg : Expr → Prop) (Own : Nat → Heap → Prop) (R : ASet → Heap → Prop) (hI : ¬ C.T I)
    (ok : ∀ {M : ASet} {i : Nat} {h h' : Heap}, Own i h → R M h → (∀ o, h.get? I = some o → h'.get? I = some o) → (∀ b o, ¬ M b → h.get? b = some o → h'.get? b = some o) → Own i h')
    (rk : ∀ {M : ASet} {h h' : Heap}, R M h → (∀ b o, ¬ M b → h.get? b = some o → h'.get? b = some o) → R M h')
    (rg : ∀ {M M' : ASet} {h : Heap}, R M h → (∀ b o, M' b → ¬ M b → h.get? b = some o → False) → R M' h)
    (ra : ∀ {M M' : ASet} {h : Heap}, R M' h → (∀ b, M b → M' b) → R M h)
    (item : ∀ {A : Around} {s : Shared} {Q : Value → Shared → Prop} {E : Value → Shared → Prop} {M : ASet} {i : Nat} {d : D} {target : Expr}, A.handled = none → tg target → Own i s.heap → R M s.heap → M I → Wf C M s.heap → ds[i]? = some d →
      (∀ v h' tk, (∀ b o, b ≠ I → s.heap.get? b = some o → h'.get? b = some o) → (∃ o, h'.get? I = some o) → Own (i + 1) h' → Has C h' M v d → Q v { s with heap := h', toks := tk }) →
      wpAny (model C.prog C.w) A (pyNext (.ref I)) (fun r s₁ => ∃ v, r = some v ∧ wpAny (model C.prog C.w) A (letOwnedTupleGo target (.ref I) v) (fun _ s₂ => Q v s₂) E s₁) E s)
    (done : ∀ {A : Around} {s : Shared} {Q : Option Value → Shared → Prop} {E : Value → Shared → Prop} {M : ASet}, A.handled = none → Own ds.length s.heap → R M s.heap → M I → Wf C M s.heap →
      (∀ h', Heap.ExtBut I s.heap h' → Q none { s with heap := h' }) → wpAny (model C.prog C.w) A (pyNext (.ref I)) Q E s)
    (lv : ∀ {i : Nat} {h : Heap}, Own i h → ∃ o, h.get? I = some o)
    (self : ∀ {A : Around} {s : Shared} {Q : Value → Shared → Prop} {E : Value → Shared → Prop} {i : Nat}, Own i s.heap → Q (.ref I) s → wpAny (model C.prog C.w) A (pyIter (.ref I)) Q E s) :
    Src C (· = I) (.ref I) ds tg (fun M i h => Own i h ∧ R M h) where
  keep := fun ⟨a, r⟩ tM k => ⟨ok a r (fun o e => k I o hI (.inr rfl) e) (fun b o hb e => k b o (fun t => hb (tM b t)) (.inl hb) e), rk r fun b o hb e => k b o (fun t => hb (tM b t)) (.inl hb) e⟩
  grow := fun ⟨a, r⟩ _ k => ⟨a, rg r k⟩
  anti := fun ⟨a, r⟩ k => ⟨a, ra r k⟩
  item := fun {A s Q E M i d target} hh ht ⟨a, r⟩ wf hW hd hQ => item hh ht a r (hW I rfl).1 wf hd fun v h' tk k lv' o g => hQ v h' tk (fun b o hb e => k b o hb e) (fun b hb => hb ▸ lv') ⟨o, rk r fun b o hb e => k b o (fun q => hb (q ▸ (hW I rfl).1)) e⟩ g
  done := fun {A s Q E M} hh ⟨a, r⟩ wf hW hQ => done hh a r (hW I rfl).1 wf fun h' he => hQ h' s.toks fun b o hb e => he b o hb e
  self := fun ⟨a, r⟩ hQ => self a hQ

theorem sub_get {items : Array Value} {ds : List D} {h : Heap} {M : ASet} (g : HasL C h M items.toList ds) {i : Nat} {d : D} (hd : ds[i]? = some d) : ∃ v, items[i]? = some v ∧ Has C h M v d := by
  obtain ⟨v, e, g'⟩ := g.get' hd
  exact ⟨v, by rwa [Array.getElem?_toList] at e, g'⟩
theorem sub_none {items : Array Value} {ds : List D} {h : Heap} {M : ASet} (g : HasL C h M items.toList ds) : items[ds.length]? = none := by
  rw [Array.getElem?_eq_none]; rw [← g.length]; simp
theorem ne_of_get {I l : Addr} {M : ASet} (hl : ¬ M l) (hI : M I) : l ≠ I := fun q => hl (q ▸ hI)

theorem Src.list (I l : Addr) (ds : List D) (hI : ¬ C.T I) : Src C (· = I) (.ref I) ds Any (fun M i h => h.IsListIter I l i ∧ (∃ items, h.IsList l items ∧ ¬ M l ∧ HasL C h M items.toList ds)) := by
  refine Src.one I ds Any (fun i h => h.IsListIter I l i) (fun M h => ∃ items, h.IsList l items ∧ ¬ M l ∧ HasL C h M items.toList ds) hI ?_ ?_ ?_ ?_ ?_ ?_ ?_ ?_
  · exact fun a _ k _ => a.at k
  · exact fun ⟨its, a, b, g⟩ k => ⟨its, a.at fun o e => k l o b e, b, g.keep k⟩
  · exact fun ⟨its, a, b, g⟩ k => ⟨its, a, fun q => let ⟨o, e, _⟩ := a; k l o q b e, g.grow k⟩
  · exact fun ⟨its, a, b, g⟩ k => ⟨its, a, fun q => b (k l q), g.anti k⟩
  · intro A s Q E M i d target hh ht own ⟨its, a, b, g⟩ hM wf hd hQ
    obtain ⟨v, e, gv⟩ := sub_get g hd
    refine wpAny_pyNext_list_item own a e fun h' hit' sb => ⟨v, rfl, ?_⟩
    refine letGo_listiter hit' ?_
    exact hQ v h' s.toks (fun b o hb e => sb.extBut b o hb e) (let ⟨o, e, _⟩ := hit'; ⟨o, e⟩) hit' (gv.keep fun b o hb e => sb.extBut b o (fun q => hb (q ▸ hM)) e)
  · intro A s Q E M hh own ⟨its, a, b, g⟩ hM wf hQ
    exact wpAny_pyNext_list_end hh own a (sub_none g) hQ
  · exact fun ⟨o, e, _⟩ => ⟨o, e⟩
  · exact fun own hQ => wpAny_pyIter_listiter own hQ
theorem Src.rev (I l : Addr) (ds : List D) (hI : ¬ C.T I) : Src C (· = I) (.ref I) ds.reverse Any (fun M i h => (i ≤ ds.length ∧ h.IsRevIter I l ((ds.length : Int) - 1 - i)) ∧ (∃ items, h.IsList l items ∧ ¬ M l ∧ HasL C h M items.toList ds)) := by
  refine Src.one I ds.reverse Any (fun i h => i ≤ ds.length ∧ h.IsRevIter I l ((ds.length : Int) - 1 - i)) (fun M h => ∃ items, h.IsList l items ∧ ¬ M l ∧ HasL C h M items.toList ds) hI ?_ ?_ ?_ ?_ ?_ ?_ ?_ ?_
  · exact fun a _ k _ => ⟨a.1, a.2.at k⟩
  · exact fun ⟨its, a, b, g⟩ k => ⟨its, a.at fun o e => k l o b e, b, g.keep k⟩
  · exact fun ⟨its, a, b, g⟩ k => ⟨its, a, fun q => let ⟨o, e, _⟩ := a; k l o q b e, g.grow k⟩
  · exact fun ⟨its, a, b, g⟩ k => ⟨its, a, fun q => b (k l q), g.anti k⟩
  · intro A s Q E M i d target hh ht own ⟨its, a, b, g⟩ hM wf hd hQ
    have hi : i < ds.length := by have := (List.getElem?_eq_some_iff.mp hd).1; simpa using this
    rw [List.getElem?_reverse hi] at hd
    obtain ⟨v, e, gv⟩ := sub_get g hd
    have e1 : (ds.length : Int) - 1 - (i : Int) = ((ds.length - 1 - i : Nat) : Int) := by omega
    have own2 := own.2
    rw [e1] at own2
    refine wpAny_pyNext_rev_item own2 a e fun h' hit' sb => ⟨v, rfl, ?_⟩
    obtain ⟨o, ho, hc, hdd⟩ := id hit'
    refine letGo_other ho hc hdd (by decide) ?_
    have e2 : ((ds.length - 1 - i : Nat) : Int) - 1 = (ds.length : Int) - 1 - ((i + 1 : Nat) : Int) := by omega
    rw [e2] at hit'
    exact hQ v h' s.toks (fun b o hb e => sb.extBut b o hb e) ⟨o, ho⟩ ⟨hi, hit'⟩ (gv.keep fun b o hb e => sb.extBut b o (fun q => hb (q ▸ hM)) e)
  · intro A s Q E M hh own ⟨its, a, b, g⟩ hM wf hQ
    have own2 := own.2
    rw [List.length_reverse, show (ds.length : Int) - 1 - (ds.length : Int) = -1 from by omega] at own2
    exact wpAny_pyNext_rev_end hh own2 hQ
  · exact fun ⟨_, o, e, _⟩ => ⟨o, e⟩
  · exact fun own hQ => wpAny_pyIter_revIter own.2 hQ
def rngL (a : Int) (n : Nat) : List D := (List.range n).map fun i : Nat => D.int (a + (i : Int))
theorem rngL_length (a : Int) (n : Nat) : (rngL a n).length = n := by simp [rngL]
theorem rngL_get {a : Int} {n i : Nat} {d : D} (hd : (rngL a n)[i]? = some d) : i < n ∧ d = .int (a + (i : Int)) := by
  unfold rngL at hd
  rw [List.getElem?_map] at hd
  cases e : (List.range n)[i]? with
  | none => rw [e] at hd; cases hd
  | some j =>
    rw [e] at hd
    obtain ⟨h1, h2⟩ := List.getElem?_eq_some_iff.mp e
    simp only [List.length_range] at h1
    simp only [List.getElem_range] at h2
    subst h2
    exact ⟨h1, by simpa using hd.symm⟩
theorem Src.range (I : Addr) (a : Int) (n : Nat) (hI : ¬ C.T I) : Src C (· = I) (.ref I) (rngL a n) Any (fun M i h => IsRangeIter h I (a + (i : Int)) ((n : Int) - (i : Int)) 1 ∧ True) := by
  refine Src.one I _ Any (fun i h => IsRangeIter h I (a + (i : Int)) ((n : Int) - (i : Int)) 1) (fun M h => True) hI ?_ ?_ ?_ ?_ ?_ ?_ ?_ ?_
  · exact fun a _ k _ => k _ a
  · exact fun a k => a
  · exact fun a k => a
  · exact fun a k => a
  · intro A s Q E M i d target hh ht own r hM wf hd hQ
    obtain ⟨hi, rfl⟩ := rngL_get hd
    refine wpAny_pyNext_range_item own (by omega) fun h' hit' sb => ⟨_, rfl, ?_⟩
    refine letGo_other (o := _) (T := "range_iterator") (vs := _) hit' rfl rfl (by decide) ?_
    refine hQ _ h' _ (fun b o hb e => sb.extBut b o hb e) ⟨_, hit'⟩ ?_ (.int _ _)
    have e1 : a + ((i + 1 : Nat) : Int) = a + (i : Int) + 1 := by omega
    have e2 : (n : Int) - ((i + 1 : Nat) : Int) = (n : Int) - (i : Int) - 1 := by omega
    rw [e1, e2]; exact hit'
  · intro A s Q E M hh own r hM wf hQ
    exact wpAny_pyNext_range_end hh own (by rw [rngL_length]; omega) hQ
  · exact fun a => ⟨_, a⟩
  · exact fun own hQ => wpAny_pyIter_rangeiter own hQ

section
variable {prog : Program} {w : World} {A : Around} {E : Value → Shared → Prop} {s : Shared} {d : Addr}
theorem entry_itemiter_iter : entryFor table "dict_itemiterator.__iter__" = some Builtin.«dict_keyiterator.__iter__» :=
  entryFor_alias (id' := "dict_keyiterator.__iter__") (by kernel_rfl) (by first | rfl | decide +kernel | (unfold String.splitOn; simp +decide [String.splitOnAux])) (by decide +kernel) (by kernel_rfl)
theorem selfItems {it : Addr} {i n ep : Nat} {ok ov : Value} {Q : Value → Shared → Prop} (hit : IsItemIter s.heap it d i n ep ok ov) (hQ : Q (.ref it) s) : wpAny (model prog w) A (pyIter (.ref it)) Q E s := by
  have hT : s.TypeIs (.ref it) "dict_itemiterator" := ⟨_, hit, rfl⟩
  refine wpAny_pyIter_slot hT F.slot_dict_itemiterator_iter (wpAny_call_entry F.slot_dict_itemiterator_iter hT entry_itemiter_iter ?_ (F.args_dict_itemiterator_iter_1 _))
  exact wpAny_pure ⟨_, rfl, "dict_itemiterator", _, hT, F.slot_dict_itemiterator_next.lookup, hQ⟩
end
/-! dicts -/
def tupOf (k : List Atom) : D := .tup (k.map fun a => match a with | .int i => .int i | .str s => .str s)
theorem atoms_has {h : Heap} {M : ASet} : ∀ {ks : List Atom} {vs : List Value}, ItemsAre (atomKind C.prog C.w) ks vs → HasL C h M vs (ks.map fun a => match a with | .int i => D.int i | .str s => D.str s)
  | _, _, .nil => .nil
  | _, _, .cons e r => by
    rcases Atom.shape e with ⟨i, t, rfl, rfl⟩ | ⟨i, t, rfl, rfl⟩
    · exact .cons (.int i t) (atoms_has r)
    · exact .cons (.str i t) (atoms_has r)
theorem key_has {h : Heap} {M : ASet} {k : List Atom} {a : Addr} (ha : ¬ M a) (x : (tkind C.prog C.w).is h k a) : Has C h M (.ref a) (tupOf k) := by
  obtain ⟨o, its, n, ho, hc, hd, hi⟩ := x
  exact .tup ha ⟨o, ho, hc, n, hd⟩ (atoms_has hi)
theorem DictIs.entries {h : Heap} {M : ASet} {a : Addr} {es : List (List Atom × Int)} (x : DictIs C h M a es) : ∃ o ents ep, h.get? a = some o ∧ o.ExactDict ∧ o.data = .dict ents ep ∧ ents.size = es.length ∧
    ∀ i p, es[i]? = some p → ∀ hi : i < ents.size, Has C h M (ents[i]'hi).key (tupOf p.1) ∧ ∃ t, (ents[i]'hi).val = .int p.2 t := by
  obtain ⟨xs, ⟨o, ents, ep, ho, hc, hd, he, hk, hn⟩, hM, hi, hm⟩ := x
  have hsz : ents.size = es.length := by rw [← Array.length_toList, he, ← hm]; simp
  refine ⟨o, ents, ep, ho, hc, hd, hsz, fun i p hp hlt => ?_⟩
  have e1 : ents[i]? = (xs[i]?).map (entryOfKey (tkind C.prog C.w)) := entry_at he i
  rw [Array.getElem?_eq_getElem hlt] at e1
  rw [← hm, List.getElem?_map] at hp
  cases e : xs[i]? with
  | none => rw [e] at hp; cases hp
  | some q =>
    rw [e] at e1 hp
    have e2 : ents[i] = entryOfKey (tkind C.prog C.w) q := Option.some.inj e1
    have hq : q ∈ xs := List.mem_of_getElem? e
    obtain ⟨j, t, hv, _⟩ := hi q hq
    have e3 := Option.some.inj hp
    rw [← e3, e2]
    refine ⟨key_has (hM q hq) (hk q hq), t, ?_⟩
    show q.2.2 = Value.int (valOf q.2.2) t
    rw [hv]; rfl
def DR (C : Cfg) (d : Addr) (es : List (List Atom × Int)) : ASet → Heap → Prop := fun M h => ¬ M d ∧ DictIs C h M d es
theorem DictIs.has {h : Heap} {M : ASet} {a : Addr} {es : List (List Atom × Int)} (x : DictIs C h M a es) : ∃ o, h.get? a = some o := let ⟨_, ⟨o, _, _, ho, _⟩, _⟩ := x; ⟨o, ho⟩
theorem Src.keys (I d : Addr) (es : List (List Atom × Int)) (hI : ¬ C.T I) : Src C (· = I) (.ref I) (es.map fun p => tupOf p.1) Any (fun M i h => (∃ o ents ep, h.get? d = some o ∧ o.data = .dict ents ep ∧ h.IsKeyIter I d i ents.size ep) ∧ DR C d es M h) := by
  refine Src.one I _ Any (fun i h => ∃ o ents ep, h.get? d = some o ∧ o.data = .dict ents ep ∧ h.IsKeyIter I d i ents.size ep) (DR C d es) hI ?_ ?_ ?_ ?_ ?_ ?_ ?_ ?_
  · exact fun ⟨o, ents, ep, a, b, o', c, q⟩ r k1 k2 => ⟨o, ents, ep, k2 d o r.1 a, b, o', k1 _ c, q⟩
  · exact fun ⟨a, b⟩ k => ⟨a, b.keep k a⟩
  · exact fun ⟨a, b⟩ k => ⟨fun q => let ⟨o, e⟩ := b.has; k d o q a e, b.grow k⟩
  · exact fun ⟨a, b⟩ k => ⟨fun q => a (k d q), b.anti k⟩
  · intro A s Q E M i dd target hh ht ⟨o, ents, ep, ho, hd, hit⟩ ⟨hdM, hD⟩ hM wf hdd hQ
    obtain ⟨o₂, ents₂, ep₂, ho₂, _, hd₂, hsz, hent⟩ := hD.entries
    rw [ho] at ho₂; cases ho₂; rw [hd] at hd₂; cases hd₂
    rw [List.getElem?_map] at hdd
    cases e : es[i]? with
    | none => rw [e] at hdd; cases hdd
    | some p =>
      rw [e] at hdd; cases hdd
      have hlt : i < ents.size := by rw [hsz]; exact (List.getElem?_eq_some_iff.mp e).1
      obtain ⟨hk, t, hv⟩ := hent i p e hlt
      refine nextKeys hit ho hd hlt fun h' hit' sb => ⟨_, rfl, letGo_keyiter hit' ?_⟩
      exact hQ _ h' s.toks (fun b o hb e => sb.extBut b o hb e) (let ⟨o, e, _⟩ := hit'; ⟨o, e⟩) ⟨o, ents, ep, (sb.2 d (ne_of_get hdM hM)).trans ho, hd, hit'⟩ (hk.keep fun b o hb e => sb.extBut b o (fun q => hb (q ▸ hM)) e)
  · intro A s Q E M hh ⟨o, ents, ep, ho, hd, hit⟩ ⟨hdM, hD⟩ hM wf hQ
    obtain ⟨o₂, ents₂, ep₂, ho₂, _, hd₂, hsz, hent⟩ := hD.entries
    rw [ho] at ho₂; cases ho₂; rw [hd] at hd₂; cases hd₂
    exact endKeys hh hit ho hd (by rw [hsz, List.length_map]; exact Nat.le_refl _) hQ
  · exact fun ⟨_, _, _, _, _, o, e, _⟩ => ⟨o, e⟩
  · intro A s Q E i ⟨o, ents, ep, ho, hd, hit⟩ hQ
    obtain ⟨o', ho', hc', hd'⟩ := id hit
    exact wpAny_pyIter_keyiter hit hQ
theorem Src.vals (I d : Addr) (es : List (List Atom × Int)) (hI : ¬ C.T I) : Src C (· = I) (.ref I) (es.map fun p => .int p.2) Any (fun M i h => (∃ o ents ep, h.get? d = some o ∧ o.data = .dict ents ep ∧ h.IsValIter I d i ents.size ep) ∧ DR C d es M h) := by
  refine Src.one I _ Any (fun i h => ∃ o ents ep, h.get? d = some o ∧ o.data = .dict ents ep ∧ h.IsValIter I d i ents.size ep) (DR C d es) hI ?_ ?_ ?_ ?_ ?_ ?_ ?_ ?_
  · exact fun ⟨o, ents, ep, a, b, o', c, q⟩ r k1 k2 => ⟨o, ents, ep, k2 d o r.1 a, b, o', k1 _ c, q⟩
  · exact fun ⟨a, b⟩ k => ⟨a, b.keep k a⟩
  · exact fun ⟨a, b⟩ k => ⟨fun q => let ⟨o, e⟩ := b.has; k d o q a e, b.grow k⟩
  · exact fun ⟨a, b⟩ k => ⟨fun q => a (k d q), b.anti k⟩
  · intro A s Q E M i dd target hh ht ⟨o, ents, ep, ho, hd, hit⟩ ⟨hdM, hD⟩ hM wf hdd hQ
    obtain ⟨o₂, ents₂, ep₂, ho₂, _, hd₂, hsz, hent⟩ := hD.entries
    rw [ho] at ho₂; cases ho₂; rw [hd] at hd₂; cases hd₂
    rw [List.getElem?_map] at hdd
    cases e : es[i]? with
    | none => rw [e] at hdd; cases hdd
    | some p =>
      rw [e] at hdd; cases hdd
      have hlt : i < ents.size := by rw [hsz]; exact (List.getElem?_eq_some_iff.mp e).1
      obtain ⟨hk, t, hv⟩ := hent i p e hlt
      refine nextVals hit ho hd hlt fun h' hit' sb => ⟨_, rfl, letGo_valiter hit' ?_⟩
      rw [hv]
      exact hQ _ h' s.toks (fun b o hb e => sb.extBut b o hb e) (let ⟨o, e, _⟩ := hit'; ⟨o, e⟩) ⟨o, ents, ep, (sb.2 d (ne_of_get hdM hM)).trans ho, hd, hit'⟩ (.int _ _)
  · intro A s Q E M hh ⟨o, ents, ep, ho, hd, hit⟩ ⟨hdM, hD⟩ hM wf hQ
    obtain ⟨o₂, ents₂, ep₂, ho₂, _, hd₂, hsz, hent⟩ := hD.entries
    rw [ho] at ho₂; cases ho₂; rw [hd] at hd₂; cases hd₂
    exact endVals hh hit ho hd (by rw [hsz, List.length_map]; exact Nat.le_refl _) hQ
  · exact fun ⟨_, _, _, _, _, o, e, _⟩ => ⟨o, e⟩
  · intro A s Q E i ⟨o, ents, ep, ho, hd, hit⟩ hQ
    exact wpAny_pyIter_valiter hit hQ
theorem Src.items (I d : Addr) (es : List (List Atom × Int)) (hI : ¬ C.T I) : Src C (· = I) (.ref I) (es.map fun p => .tup [tupOf p.1, .int p.2]) Tup (fun M i h => (∃ o ents ep ok ov, h.get? d = some o ∧ o.data = .dict ents ep ∧ IsItemIter h I d i ents.size ep ok ov) ∧ DR C d es M h) := by
  refine Src.one I _ Tup (fun i h => ∃ o ents ep ok ov, h.get? d = some o ∧ o.data = .dict ents ep ∧ IsItemIter h I d i ents.size ep ok ov) (DR C d es) hI ?_ ?_ ?_ ?_ ?_ ?_ ?_ ?_
  · exact fun ⟨o, ents, ep, ok, ov, a, b, c⟩ r k1 k2 => ⟨o, ents, ep, ok, ov, k2 d o r.1 a, b, k1 _ c⟩
  · exact fun ⟨a, b⟩ k => ⟨a, b.keep k a⟩
  · exact fun ⟨a, b⟩ k => ⟨fun q => let ⟨o, e⟩ := b.has; k d o q a e, b.grow k⟩
  · exact fun ⟨a, b⟩ k => ⟨fun q => a (k d q), b.anti k⟩
  · intro A s Q E M i dd target hh ⟨elts, kk, tp, ht⟩ ⟨o, ents, ep, ok, ov, ho, hd, hit⟩ ⟨hdM, hD⟩ hM wf hdd hQ
    subst ht
    obtain ⟨o₂, ents₂, ep₂, ho₂, _, hd₂, hsz, hent⟩ := hD.entries
    rw [ho] at ho₂; cases ho₂; rw [hd] at hd₂; cases hd₂
    rw [List.getElem?_map] at hdd
    cases e : es[i]? with
    | none => rw [e] at hdd; cases hdd
    | some p =>
      rw [e] at hdd; cases hdd
      have hlt : i < ents.size := by rw [hsz]; exact (List.getElem?_eq_some_iff.mp e).1
      obtain ⟨hk, t, hv⟩ := hent i p e hlt
      refine nextItems hit ho hd hlt fun h' hit' hT hz k => ⟨_, rfl, ?_⟩
      refine wpAny_letOwnedTupleGo_items hit' fun h₂ hit₂ sb => ?_
      replace sb : Heap.SameBut I h' h₂ := sb
      have hIs : I ≠ s.heap.objs.size := Nat.ne_of_lt (Heap.lt_size hit)
      have k₂ : ∀ b o, b ≠ I → s.heap.get? b = some o → h₂.get? b = some o := fun b o hb e => sb.extBut b o hb (k b o hb e)
      have kM : ∀ b o, ¬ M b → s.heap.get? b = some o → h₂.get? b = some o := fun b o hb e => k₂ b o (fun q => hb (q ▸ hM)) e
      refine hQ _ h₂ s.toks k₂ ⟨_, hit₂⟩ ⟨o, ents, ep, _, _, k₂ d o (ne_of_get hdM hM) ho, hd, hit₂⟩ ?_
      refine .tup wf.fresh ⟨_, (sb.2 _ (Ne.symm hIs)).trans hT, rfl, _, rfl⟩ ?_
      rw [hv]
      exact .cons (hk.keep kM) (.cons (.int _ _) .nil)
  · intro A s Q E M hh ⟨o, ents, ep, ok, ov, ho, hd, hit⟩ ⟨hdM, hD⟩ hM wf hQ
    obtain ⟨o₂, ents₂, ep₂, ho₂, _, hd₂, hsz, hent⟩ := hD.entries
    rw [ho] at ho₂; cases ho₂; rw [hd] at hd₂; cases hd₂
    exact endItems hh hit ho hd (by rw [hsz, List.length_map]; exact Nat.le_refl _) hQ
  · exact fun ⟨_, _, _, _, _, _, _, e⟩ => ⟨_, e⟩
  · intro A s Q E i ⟨o, ents, ep, ok, ov, ho, hd, hit⟩ hQ
    exact selfItems hit hQ
end
end Mine
end
section
open PySem PySem.W PySem.Calls PyProof.Rows
namespace Mine
section
variable {C : Cfg} {c : Ctx C}

theorem fresh_of_ext {M : ASet} {h h₁ : Heap} (x : Ext C.T h h₁) (w : Wf C M h₁) {a : Addr} (ha : h₁.objs.size ≤ a) : h.get? a = none := by
  cases e : h.get? a with
  | none => rfl
  | some o =>
    by_cases hT : C.T a
    · obtain ⟨o', e'⟩ := w.lt a (w.tM a hT)
      exact absurd (Heap.lt_size e') (Nat.not_lt.mpr ha)
    · exact absurd (Heap.lt_size (x a o hT e)) (Nat.not_lt.mpr ha)
theorem Wf.freshT {M : ASet} {h : Heap} (w : Wf C M h) {a : Addr} (ha : h.objs.size ≤ a) : ¬ M a := fun hm => by obtain ⟨o, e⟩ := w.lt a hm; exact absurd (Heap.lt_size e) (Nat.not_lt.mpr ha)

theorem Wf.wider {M W : ASet} {h h' : Heap} (w : Wf C M h) (k : ∀ b o, h.get? b = some o → h'.get? b = some o) (hW : ∀ b, W b → h.objs.size ≤ b ∧ ∃ o, h'.get? b = some o) : Wf C (fun b => M b ∨ W b) h' :=
  Wf.more w (w.keep k) (fun b o _ e => k b o e) (fun _ => .inl) fun a ha => ha.imp id fun ha => ⟨get_none_of_le (hW a ha).1, (hW a ha).2⟩
theorem Wf.wider1 {M : ASet} {h : Heap} (w : Wf C M h) (o : Obj) (hf : o.isFreed = false) : Wf C (fun b => M b ∨ b = h.objs.size) (h.push o) := by
  refine w.wider (W := fun b => b = h.objs.size) (fun b o e => Heap.get?_push_of_some _ e) fun b hb => ?_
  subst hb
  exact ⟨Nat.le_refl _, _, Heap.get?_push_size _ hf⟩
theorem EvI.mk {e : Expr} {d : D} {ds : List D} {tg : Expr → Prop} (he : Ev c e d)
    (hI : ∀ (A : Around) (s : Shared) (Q : Value → Shared → Prop) (E : Value → Shared → Prop) (v : Value), Has C s.heap c.M v d → ¬ C.T s.heap.objs.size →
      (∀ o St, Obj.isFreed o = false → Src C (· = s.heap.objs.size) (.ref s.heap.objs.size) ds tg St → (∀ M : ASet, (Has C (s.heap.push o) M v d) → St M 0 (s.heap.push o)) → Q (.ref s.heap.objs.size) { s with heap := s.heap.push o }) → wpAny (model C.prog C.w) A (pyIter v) Q E s) : EvI c e ds tg := by
  intro A s Q E rm p hQ
  refine he A s _ E rm p fun v h₁ tk₁ x₁ w₁ g₁ => ?_
  have nT : ¬ C.T h₁.objs.size := fun t => w₁.fresh (w₁.tM _ t)
  refine hI A _ Q E v g₁ nT fun o St hfr S hSt => ?_
  refine hQ _ _ _ _ St (fun b o' hT e => Heap.get?_push_of_some _ (x₁ b o' hT e)) (w₁.wider1 o hfr) (fun b hb => ?_) S (hSt _ ?_)
  · subst hb
    exact ⟨fresh_of_ext x₁ w₁ (Nat.le_refl _), _, Heap.get?_push_size _ hfr⟩
  · exact (g₁.grow (M' := fun b => c.M b ∨ b = h₁.objs.size) fun b o hb hn e => absurd (Heap.lt_size e) (by rw [hb.resolve_left hn]; exact Nat.lt_irrefl _)).keep fun b o hb e => Heap.get?_push_of_some _ e

theorem EvI.list {e : Expr} {ds : List D} (he : Ev c e (.lst ds)) : EvI c e ds Any := .mk he fun A s Q E v g nT h => by
  have q9 := Has.lst_inv g; clear g; obtain ⟨a, its, rfl, ha, hl, hg⟩ := q9
  refine wpAny_pyIter_list hl (h _ _ rfl (Src.list _ a ds nT) fun M g => ?_)
  have q9 := Has.lst_inv g; clear g; obtain ⟨_, _, e9, ha', hl', hg'⟩ := q9; cases e9
  exact ⟨⟨_, Heap.get?_push_size _ rfl, rfl, rfl⟩, _, hl', ha', hg'⟩
theorem small_of {x : Int} {n : Nat} (h1 : -(2 ^ 60) ≤ x) (h2 : x + n < 2 ^ 60) : Builtin.Range.small x (x + n) 1 = true ∧ Builtin.Range.rangeSize x (x + n) 1 = n := by
  have e : Builtin.Range.rangeSize x (x + n) 1 = n := by
    unfold Builtin.Range.rangeSize
    simp
    omega
  exact ⟨small_one (by omega) (by omega) (by omega) (by omega), e⟩
theorem EvI.range {e : Expr} {x : Int} {n : Nat} (he : Ev c e (.rng x n)) : EvI c e (rngL x n) Any := .mk he fun A s Q E v g nT h => by
  have q9 := Has.rng_inv g; clear g; obtain ⟨_, rfl, ha, hr, h1, h2, h3⟩ := q9
  obtain ⟨t, u, v, hr⟩ := hr
  obtain ⟨hs, hz⟩ := small_of h1 h2
  refine wpAny_pyIter_range hr hs (h _ _ rfl (Src.range _ x n nT) fun M g => ⟨?_, trivial⟩)
  have : IsRangeIter (s.heap.push { cls := .type "range_iterator", data := .fields #[rawInt x, rawInt (Builtin.Range.rangeSize x (x + n) 1), rawInt 1] }) s.heap.objs.size x (n : Int) 1 := by
    rw [hz]; exact Heap.get?_push_size _ rfl
  simpa using this
theorem EvI.keys {e : Expr} {es : List (List Atom × Int)} (he : Ev c e (.dic es)) : EvI c e (es.map fun p => tupOf p.1) Any := .mk he fun A s Q E v g nT h => by
  have q9 := Has.dic_inv g; clear g; obtain ⟨d, rfl, ha, hs, hD⟩ := q9
  obtain ⟨o, ents, ep, ho, hc, hd, hsz, _⟩ := hD.entries
  refine iterKeys (by simpa using hs) ho hc hd (h _ _ rfl (Src.keys _ d es nT) fun M g => ?_)
  have q9 := Has.dic_inv g; clear g; obtain ⟨_, e9, ha', hs', hD'⟩ := q9; cases e9
  exact ⟨⟨o, ents, ep, Heap.get?_push_of_some _ ho, hd, ⟨_, Heap.get?_push_size _ rfl, rfl, rfl⟩⟩, ha', hD'⟩
theorem view_eq {h : Heap} {a d d' : Addr} {T : String} (x : ∃ o, h.get? a = some o ∧ o.cls = .type T ∧ o.data = .fields #[.ref d]) (y : ∃ o, h.get? a = some o ∧ o.cls = .type T ∧ o.data = .fields #[.ref d']) : d = d' := by
  obtain ⟨o, e, _, r⟩ := x
  obtain ⟨o', e', _, r'⟩ := y
  rw [e] at e'; cases e'
  rw [r] at r'; injection r' with r'; simpa using r'
theorem EvI.vals {e : Expr} {es : List (List Atom × Int)} (he : Ev c e (.vals es)) : EvI c e (es.map fun p => .int p.2) Any := .mk he fun A s Q E v g nT h => by
  cases g with
  | @vals a d _ ha hv hdM hD =>
    obtain ⟨o, ents, ep, ho, hc, hd, hsz, _⟩ := hD.entries
    refine iterVals hv ho hd (h _ _ rfl (Src.vals _ d es nT) fun M g => ?_)
    have q9 := Has.vals_inv g; clear g; obtain ⟨_, _, e9, ha', hv', hdM', hD'⟩ := q9; cases e9
    obtain ⟨ov, hov, r⟩ := id hv
    cases view_eq ⟨ov, Heap.get?_push_of_some _ hov, r⟩ hv'
    exact ⟨⟨o, ents, ep, Heap.get?_push_of_some _ ho, hd, ⟨_, Heap.get?_push_size _ rfl, rfl, rfl⟩⟩, hdM', hD'⟩
theorem EvI.items {e : Expr} {es : List (List Atom × Int)} (he : Ev c e (.items es)) : EvI c e (es.map fun p => .tup [tupOf p.1, .int p.2]) Tup := .mk he fun A s Q E v g nT h => by
  cases g with
  | @items a d _ ha hv hdM hD =>
    obtain ⟨o, ents, ep, ho, hc, hd, hsz, _⟩ := hD.entries
    refine iterItems hv ho hd (h _ _ rfl (Src.items _ d es nT) fun M g => ?_)
    have q9 := Has.items_inv g; clear g; obtain ⟨_, _, e9, ha', hv', hdM', hD'⟩ := q9; cases e9
    obtain ⟨ov, hov, r⟩ := id hv
    cases view_eq ⟨ov, Heap.get?_push_of_some _ hov, r⟩ hv'
    exact ⟨⟨o, ents, ep, .none, .none, Heap.get?_push_of_some _ ho, hd, Heap.get?_push_size _ rfl⟩, hdM', hD'⟩

/-! reversed and enumerate -/
theorem EvI.rev {np pos : Pos} {e : Expr} {ds : List D} (b : Bi C c.env "reversed" (.type "reversed")) (he : Ev c e (.lst ds))
    (hs : starEach [e] c.env = (false, eval e c.env) :: starEach [] c.env := by rfl) : EvI c (.Call (.Name "reversed" np) [e] [] pos) ds.reverse Any := by
  intro A s Q E rm p hQ
  show wpAny _ A (do callWith pos (← eval (.Name "reversed" np) c.env) [] (backTo pos (starEach [e] c.env)) []) _ E s
  refine wpAny_bind (wpAny_bi p b ?_)
  refine PyProof.Rows.callWith_type1 ((EvL.cons he EvL.nil hs) A s _ E pos rm p fun vs h₁ tk₁ x₁ w₁ g₁ => ?_) hs (by rfl)
  have q9 := HasL.cons_inv g₁; clear g₁; obtain ⟨_, _, rfl, g, g'⟩ := q9
  (first | obtain ⟨_, rfl⟩ := Has.int_inv g' | obtain rfl := Has.bool_inv g' | obtain rfl := Has.ptr_inv g' | obtain rfl := HasL.nil_inv g' | obtain rfl := Has.none_inv g' | cases g')
  have q9 := Has.lst_inv g; clear g; obtain ⟨a, its, rfl, ha, hl, hg⟩ := q9
  have hz := hg.length
  have nT : ¬ C.T h₁.objs.size := fun t => w₁.fresh (w₁.tM _ t)
  refine call_reversed_list hl ?_
  refine wpAny_pyIter_revIter (l := _) (i := _) ⟨_, Heap.get?_push_size _ rfl, rfl, rfl⟩ ?_
  refine hQ _ _ _ (· = h₁.objs.size) _ (fun b o' hT e => Heap.get?_push_of_some _ (x₁ b o' hT e)) (w₁.wider1 _ rfl) (fun b hb => ?_) (Src.rev _ a ds nT) ⟨⟨Nat.zero_le _, ?_⟩, _, hl.push _, ?_, ?_⟩
  · subst hb
    exact ⟨fresh_of_ext x₁ w₁ (Nat.le_refl _), _, Heap.get?_push_size _ rfl⟩
  · refine ⟨_, Heap.get?_push_size _ rfl, rfl, ?_⟩
    simp at hz
    simp [revObj, hz]
  · rintro (q | q)
    · exact ha q
    · obtain ⟨o, ho, _⟩ := hl; rw [q] at ho; exact absurd (Heap.lt_size ho) (Nat.lt_irrefl _)
  · exact (hg.grow (M' := fun b => c.M b ∨ b = h₁.objs.size) fun b o hb hn e => absurd (Heap.lt_size e) (by rw [hb.resolve_left hn]; exact Nat.lt_irrefl _)).keep fun b o hb e => Heap.get?_push_of_some _ e

end
end Mine
end
section
open PySem PySem.W PySem.Calls PyProof.Rows
namespace Mine
section
variable {C : Cfg}

def Inv.loop (I : Inv C) {W : ASet} {it : Value} {ds : List D} {tg : Expr → Prop} {St : ASet → Nat → Heap → Prop} (S : Src C W it ds tg St) (i : Nat) : Inv C where
  N := fun b => I.N b ∨ W b
  X := fun M h => I.X M h ∧ St M i h
  keep := fun ⟨x, st⟩ tM k => ⟨I.keep x tM fun b o t hb e => k b o t (hb.imp id .inl) e, S.keep st tM fun b o t hb e => k b o t (hb.imp id .inr) e⟩
  grow := fun ⟨x, st⟩ tM k => ⟨I.grow x tM k, S.grow st tM k⟩
  anti := fun ⟨x, st⟩ k => ⟨I.anti x k, S.anti st k⟩

def Ctx.loop (c : Ctx C) {W : ASet} {it : Value} {ds : List D} {tg : Expr → Prop} {St : ASet → Nat → Heap → Prop} (S : Src C W it ds tg St) (i : Nat) : Ctx C :=
  { c with M := fun b => c.M b ∨ W b, I := c.I.loop S i }

variable {c : Ctx C} {W : ASet} {it : Value} {ds : List D} {tg : Expr → Prop} {St : ASet → Nat → Heap → Prop} {S : Src C W it ds tg St} {h h' : Heap}

theorem Ctx.P.enter (p : c.P h) (k : ∀ b o, ¬ C.T b → h.get? b = some o → h'.get? b = some o) (w : Wf C (fun b => c.M b ∨ W b) h') (hW : ∀ b, W b → h.get? b = none ∧ ∃ o, h'.get? b = some o) (st : St (fun b => c.M b ∨ W b) 0 h') : (c.loop S 0).P h' := by
  have x : Ext C.T h h' := fun b o t e => k b o t e
  have p' := p.ext x (w.less (fun _ => .inl) p.wf.tM)
  have tM := p.wf.tM
  have nW : ∀ b, W b → ¬ c.M b := fun b hb hm => by obtain ⟨o, e⟩ := p.wf.lt b hm; rw [(hW b hb).1] at e; cases e
  have gr : ∀ b o, (c.M b ∨ W b) → ¬ c.M b → h.get? b = some o → False := fun b o hb hn e => by rw [(hW b (hb.resolve_left hn)).1] at e; cases e
  have kM : ∀ b o, ¬ (c.M b ∨ W b) → h.get? b = some o → h'.get? b = some o := fun b o hb e => k b o (fun t => hb (.inl (tM b t))) e
  refine { at_ := ?_, loc := ?_, cel := ?_, o := ?_, nd := p.nd, nM := ?_, x := ⟨?_, st⟩ }
  · refine { p'.at_ with wf := w, fM := .inl p.at_.fM, cM := fun y b e => ⟨.inl (p.at_.cM y b e).1, (p.at_.cM y b e).2⟩, vars := ?_ }
    intro y d e
    obtain ⟨v, b, hv⟩ := p.at_.vars y d e
    exact ⟨v, b.at (fun o e => k _ o p.at_.fT e) (fun cc hc o e => k _ o (p.at_.cM y cc hc).2.1 e), (hv.grow gr).keep kM⟩
  · exact fun q => q.elim p.loc fun q => nW _ q p.at_.fM
  · exact fun y cw b e q => q.elim (p.cel y cw b e) fun q => nW _ q (p.at_.cM y b e).1
  · intro q hq
    have z := p.o q hq
    exact ⟨(z.own.grow gr).keep (fun o e => k _ o z.t e) kM, .inl z.m, z.t, fun n => n.elim z.n fun n => nW _ n z.m, z.l, z.c⟩
  · exact fun b hb => hb.imp (p.nM b) id
  · exact c.I.keep (c.I.grow p.x tM gr) (fun b t => .inl (tM b t)) fun b o t _ e => k b o t e

/-- what the walk's own objects are apart from -/
structure Off {C : Cfg} (c : Ctx C) (W : ASet) : Prop where
  w : ∀ b, W b → ¬ c.M b
  t : ∀ b, C.T b → c.M b
  l : c.M c.env.locals
  ce : ∀ x b, c.env.cells.lookup x = some b → c.M b
  n : ∀ b, c.I.N b → c.M b
theorem Ctx.P.off (p : c.P h) (hW : ∀ b, W b → h.get? b = none) : Off c W := ⟨fun b hb hm => (by obtain ⟨o, e⟩ := p.wf.lt b hm; rw [hW b hb] at e; cases e), p.wf.tM, p.at_.fM, fun y b e => (p.at_.cM y b e).1, p.nM⟩
theorem Ctx.P.next {i : Nat} (F : Off c W) (p : (c.loop S i).P h) (k : ∀ b o, ¬ W b → h.get? b = some o → h'.get? b = some o) (lv : ∀ b, W b → ∃ o, h'.get? b = some o) (st : St (fun b => c.M b ∨ W b) (i + 1) h') : (c.loop S (i + 1)).P h' := by
  have lW : ¬ W c.env.locals := fun q => F.w _ q F.l
  have cW : ∀ x b, c.env.cells.lookup x = some b → ¬ W b := fun x b e q => F.w _ q (F.ce x b e)
  have kM : ∀ b o, ¬ (c.M b ∨ W b) → h.get? b = some o → h'.get? b = some o := fun b o hb e => k b o (fun q => hb (.inr q)) e
  refine { at_ := ?_, loc := p.loc, cel := p.cel, o := ?_, nd := p.nd, nM := p.nM, x := ⟨?_, st⟩ }
  · refine { p.at_ with wf := ?_, ns := ?_, cC := ?_, vars := ?_ }
    · refine p.wf.step (fun a ha _ => ?_) fun b o hb e => k b o (fun q => hb.elim (fun n => n (.inr q)) fun t => F.w b q (F.t b t)) e
      rcases ha with ha | ha
      · obtain ⟨o, e⟩ := p.wf.lt a (.inl ha); exact ⟨o, k a o (fun q => F.w a q ha) e⟩
      · exact lv a ha
    · obtain ⟨m, hn⟩ := p.at_.ns; exact ⟨m, hn.at fun o e => k _ o lW e⟩
    · intro x b e; obtain ⟨v, o, ho, hd⟩ := p.at_.cC x b e; exact ⟨v, o, k _ _ (cW x b e) ho, hd⟩
    · intro y d e
      obtain ⟨v, b, hv⟩ := p.at_.vars y d e
      exact ⟨v, b.at (fun o e => k _ o lW e) (fun cc hc o e => k _ o (cW y cc hc) e), hv.keep kM⟩
  · intro q hq
    have z := p.o q hq
    exact { z with own := z.own.keep (fun o e => k _ o (fun n => z.n (.inr n)) e) kM }
  · exact c.I.keep p.x.1 (fun b t => .inl (F.t b t)) fun b o t hb e => k b o (fun q => hb.elim (fun n => n (.inr q)) fun n => F.w b q (F.n b n)) e
theorem Ctx.P.exit {i : Nat} (F : Off c W) (p : (c.loop S i).P h) (k : ∀ b o, ¬ W b → h.get? b = some o → h'.get? b = some o) : c.P h' := by
  have kc : ∀ b o, c.M b → h.get? b = some o → h'.get? b = some o := fun b o hb e => k b o (fun q => F.w b q hb) e
  have hM : ∀ b, c.M b → (c.M b ∨ W b) := fun b => .inl
  have w₀ : Wf C c.M h := p.wf.less hM F.t
  have lW : ¬ W c.env.locals := fun q => F.w _ q F.l
  have cW : ∀ x b, c.env.cells.lookup x = some b → ¬ W b := fun x b e q => F.w _ q (F.ce x b e)
  have kM : ∀ b o, ¬ (c.M b ∨ W b) → h.get? b = some o → h'.get? b = some o := fun b o hb e => k b o (fun q => hb (.inr q)) e
  have wl : Wf C (fun b => c.M b ∨ W b) h := p.wf
  refine { at_ := ?_, loc := fun q => p.loc (.inl q), cel := fun x cw b e q => p.cel x cw b e (.inl q), o := ?_, nd := p.nd, nM := F.n, x := ?_ }
  · refine { p.at_ with wf := ?_, fM := F.l, cM := fun y b e => ⟨F.ce y b e, (p.at_.cM y b e).2⟩, ns := ?_, cC := ?_, vars := ?_ }
    · -- W is given up first: all else is kept
      have w1 := wl
      exact {
        tM := F.t
        lt := fun a ha => let ⟨o, e⟩ := w₀.lt a ha; ⟨o, kc a o ha e⟩
        g := w₀.g.at fun o e => k _ o (fun q => wl.gM (.inr q)) e
        gM := w₀.gM
        b := w₀.b.at fun o e => kc _ o (F.t _ (.inr rfl)) e
        b0 := kc _ _ (F.t _ (.inr rfl)) w₀.b0
        bi := w₀.bi
        nl := let ⟨mc, x, y⟩ := w₀.nl; ⟨mc, x.at fun o e => k _ o (fun q => wl.nM (.inr q)) e, y⟩
        nM := w₀.nM
        k := fun a o e => ⟨k a o (fun q => (wl.k a o e).2 (.inr q)) (w₀.k a o e).1, (w₀.k a o e).2⟩
        bt := let ⟨bm, o, a1, a2, a3, a4, a5, a6, a7, a8⟩ := wl.bt; ⟨bm, o, a1, a2, a3, k _ _ (fun q => a8 (.inr q)) a4, a5, a6, a7, fun q => a8 (.inl q)⟩
        tab := fun q hq => by
          obtain ⟨h0, h1, h2, h3⟩ := wl.tab q hq
          have hT : C.T q.2.1 := .inl ⟨q, hq, rfl⟩
          refine ⟨h0, fun z => h1 (.inl z), codeHd_at h2 fun o e => k _ o (fun z => h1 (.inr z)) e, ?_⟩
          rcases h3 with h3 | ⟨c', n1, n2, n3⟩
          · exact .inl (kc _ _ (F.t _ hT) h3)
          · exact .inr ⟨c', fun z => n1 (.inl z), kc _ _ (F.t _ hT) n2, CodeRec_at n3 fun o e => k _ o (fun z => n1 (.inr z)) e⟩ }
    · obtain ⟨m, hn⟩ := p.at_.ns; exact ⟨m, hn.at fun o e => k _ o lW e⟩
    · intro x b e; obtain ⟨v, o, ho, hd⟩ := p.at_.cC x b e; exact ⟨v, o, k _ _ (cW x b e) ho, hd⟩
    · intro y d e
      obtain ⟨v, b, hv⟩ := p.at_.vars y d e
      exact ⟨v, b.at (fun o e => k _ o lW e) (fun cc hc o e => k _ o (cW y cc hc) e), (hv.keep kM).anti hM⟩
  · intro q hq
    have z := p.o q hq
    have hm : c.M q.1 := z.m.elim id fun n => absurd (Or.inr n) z.n
    exact ⟨(z.own.keep (fun o e => kc _ o hm e) kM).anti hM, hm, z.t, fun n => z.n (.inl n), z.l, z.c⟩
  · exact c.I.anti (c.I.keep p.x.1 (fun b t => .inl (F.t b t)) fun b o t hb e => k b o (fun q => hb.elim (fun n => n (.inr q)) fun n => F.w b q (F.n b n)) e) hM

/-! the for statement -/
def LoopR {C : Cfg} (R : Flow → Heap → Prop) (c : Ctx C) : Flow → Heap → Prop := fun f h => match f with
  | .next => c.P h
  | .cont => c.P h
  | .ret v => R (.ret v) h
  | .brk => False
def Ctx.at (c : Ctx C) (G : List (Str × D)) (O : List (Addr × D)) : Ctx C := { c with G := G, O := O }
/-- a context within: more may be written by others, the names are kept -/
structure In {C : Cfg} (c c' : Ctx C) : Prop where
  k : c'.k = c.k
  env : c'.env = c.env
  cw : c'.cw = c.cw
  m : ∀ b, c.M b → c'.M b
  x : ∀ M h, c'.I.X M h → c.I.X M h
theorem Ex1.for {target iter : Expr} {body : List Stmt} {pos : Pos} {R : Flow → Heap → Prop} (G : Nat → List (Str × D)) (O : Nat → List (Addr × D)) (hi : EvI c iter ds tg) (ht : tg target)
    (h0 : ∀ h, c.P h → (c.at (G 0) (O 0)).P h)
    (step : ∀ i d, ds[i]? = some d → ∀ c' : Ctx C, In c c' → c'.G = G i → c'.O = O i → ∃ c₂, Tg c' target d c₂ ∧ c₂.env = c'.env ∧ c₂.k = c'.k ∧ Ex c₂ body (LoopR R (c'.at (G (i + 1)) (O (i + 1)))))
    (hR : ∀ h, (c.at (G ds.length) (O ds.length)).P h → R .next h) (hs : ∀ x, foldedSetIterable iter c.env x = pure x := by intro _; rfl) : Ex1 c (.For target iter body [] pos) R := by
  intro A s Q E rm p hQ
  refine wpAny_For (wpAny_mono (hi A s _ E rm p fun it h₁ tk₁ W St k₁ w₁ hW S st => ?_) (fun x s₁ h => h) fun _ _ e => e) hs
  have F : Off c W := p.off fun b hb => (hW b hb).1
  let L : Nat → Nat → Ctx C := fun i j => (c.at (G j) (O j)).loop S i
  have p0 : (L 0 0).P h₁ := (h0 _ p).enter k₁ w₁ hW st
  have FJ : ∀ j, Off (c.at (G j) (O j)) W := fun j => ⟨F.w, F.t, F.l, F.ce, F.n⟩
  refine codeAny_forLoop_any (fun k s' => ∃ i h' tk, s' = { s with heap := h', toks := tk } ∧ (L i i).P h' ∧ i ≤ ds.length ∧ k = ds.length + 1 - i) ?_ (ds.length + 1) ⟨0, h₁, tk₁, rfl, p0, Nat.zero_le _, rfl⟩
  rintro k s' ⟨i, h', tk, rfl, pi, hle, rfl⟩
  have hWM : ∀ b, W b → (fun b => c.M b ∨ W b) b ∧ ¬ C.T b := fun b hb => ⟨.inr hb, fun t => F.w b hb (F.t b t)⟩
  by_cases hlt : i < ds.length
  · obtain ⟨d, hd⟩ : ∃ d, ds[i]? = some d := ⟨ds[i], List.getElem?_eq_getElem hlt⟩
    let NE : Value → Shared → Prop := notedBy (model C.prog C.w) A c.env fun e s' => cameBackBy (model C.prog C.w) A c.env E e s'
    let PO : Flow → Shared → Prop := fun f s₄ => match f with
        | .next | .cont => ∃ m, m < ds.length + 1 - i ∧ ∃ i h' tk, s₄ = { s with heap := h', toks := tk } ∧ (L i i).P h' ∧ i ≤ ds.length ∧ m = ds.length + 1 - i
        | .brk => Q .next s₄
        | .ret v => Q (.ret v) s₄
    refine wpAny_mono (S.item (E := NE) (Q := fun v s₂ => wpAny (model C.prog C.w) A (PySem.assign target c.env v) (fun _ s₃ => wpAny (model C.prog C.w) A (execs body c.env) PO NE s₃) NE s₂) rm.hh ht pi.x.2 pi.wf hWM hd fun v h₂ tk₂ k₂ lv st₂ hv => ?_)
      (fun r s₁ h => ?_) fun _ _ e => e
    · have p1 : (L (i + 1) i).P h₂ := Ctx.P.next (FJ i) pi k₂ lv st₂
      obtain ⟨c₂, htg, hE, hk, hx⟩ := step i d hd (L (i + 1) i) ⟨rfl, rfl, rfl, fun b => .inl, fun M h x => x.1⟩ rfl rfl
      refine htg A { s with heap := h₂, toks := tk₂ } _ _ v rm p1 hv fun h₃ tk₃ p3 k3 => ?_
      have := hx A { s with heap := h₃, toks := tk₃ } PO NE (by rw [hk]; exact rm) p3 fun f h₄ tk₄ hr => ?_
      · rw [hE] at this; exact this
      · cases f with
        | next => exact ⟨ds.length + 1 - (i + 1), by omega, i + 1, h₄, tk₄, rfl, hr, hlt, rfl⟩
        | cont => exact ⟨ds.length + 1 - (i + 1), by omega, i + 1, h₄, tk₄, rfl, hr, hlt, rfl⟩
        | brk => exact hr.elim
        | ret v => exact hQ _ _ _ hr
    · obtain ⟨v, rfl, h⟩ := h
      exact h
  · have he : i = ds.length := by omega
    subst he
    refine S.done rm.hh pi.x.2 pi.wf hWM fun h₂ tk₂ k₂ => ?_
    refine wpAny_execs_nil (hQ _ _ _ (hR _ ?_))
    exact Ctx.P.exit (FJ _) pi k₂
end
end Mine
end
section
open PySem PySem.W PySem.Calls PyProof.Rows
namespace Mine
section
variable {C : Cfg} {c : Ctx C} {h h' : Heap} {rest : List Stmt} {R : Flow → Heap → Prop}

/-! what is owned: taken, given up, lent -/
def Ctx.own (c : Ctx C) (a : Addr) (d : D) : Ctx C := { c with M := fun b => c.M b ∨ b = a, O := (a, d) :: c.O }
def Ctx.frz (c : Ctx C) (i : Nat) (a : Addr) (x : Str) (d : D) : Ctx C := { c with M := fun b => c.M b ∧ b ≠ a, O := c.O.eraseIdx i, G := (x, d) :: c.G }
def Ctx.upd (c : Ctx C) (i : Nat) (a : Addr) (d : D) : Ctx C := { c with O := c.O.set i (a, d) }

/-- a fresh object of one's own -/
def EvF {C : Cfg} (c : Ctx C) (e : Expr) (d : D) : Prop :=
  ∀ (A : Around) (s : Shared) (Q : Value → Shared → Prop) (E : Value → Shared → Prop), Room c.k A → c.P s.heap →
    (∀ a h' tk, (∀ b o, ¬ C.T b → s.heap.get? b = some o → h'.get? b = some o) → s.heap.get? a = none → Wf C (fun b => c.M b ∨ b = a) h' → Owns C h' (fun b => c.M b ∨ b = a) a d → ¬ C.T a → Q (.ref a) { s with heap := h', toks := tk }) →
    wpAny (model C.prog C.w) A (eval e c.env) Q E s
theorem Ev.ofF {e : Expr} {d : D} (he : EvF c e d) : Ev c e d := fun A s Q E rm p hQ => he A s Q E rm p fun a h' tk k n w o t => by
  have nM : ¬ c.M a := fun hm => by obtain ⟨o, e⟩ := p.wf.lt a hm; rw [n] at e; cases e
  exact hQ _ _ _ (fun b o hb e => k b o hb e) (w.less (fun _ => .inl) p.wf.tM) ((o.anti fun _ => .inl).has nM)

theorem Ctx.P.own (p : c.P h) {a : Addr} {d : D} (k : ∀ b o, ¬ C.T b → h.get? b = some o → h'.get? b = some o) (n : h.get? a = none) (w : Wf C (fun b => c.M b ∨ b = a) h') (ow : Owns C h' (fun b => c.M b ∨ b = a) a d) (t : ¬ C.T a) : (c.own a d).P h' := by
  have x : Ext C.T h h' := fun b o t e => k b o t e
  have p' := p.ext x (w.less (fun _ => .inl) p.wf.tM)
  have tM := p.wf.tM
  have nM : ¬ c.M a := fun hm => by obtain ⟨o, e⟩ := p.wf.lt a hm; rw [n] at e; cases e
  have gr : ∀ b o, (c.M b ∨ b = a) → ¬ c.M b → h.get? b = some o → False := fun b o hb hn e => by rw [hb.resolve_left hn, n] at e; cases e
  have kM : ∀ b o, ¬ (c.M b ∨ b = a) → h.get? b = some o → h'.get? b = some o := fun b o hb e => k b o (fun t => hb (.inl (tM b t))) e
  refine { at_ := ?_, loc := p.loc, cel := p.cel, o := ?_, nd := ?_, nM := fun b hb => .inl (p.nM b hb), x := ?_ }
  · refine { p'.at_ with wf := w, fM := .inl p.at_.fM, cM := fun y b e => ⟨.inl (p.at_.cM y b e).1, (p.at_.cM y b e).2⟩, vars := ?_ }
    intro y d e
    obtain ⟨v, b, hv⟩ := p.at_.vars y d e
    exact ⟨v, b.at (fun o e => k _ o p.at_.fT e) (fun cc hc o e => k _ o (p.at_.cM y cc hc).2.1 e), (hv.grow gr).keep kM⟩
  · intro q hq
    rcases List.mem_cons.mp hq with rfl | hq
    · exact ⟨ow, .inr rfl, t, fun q => nM (p.nM _ q), fun (q : a = c.env.locals) => nM (q ▸ p.at_.fM), fun y b e (q : a = b) => nM (q ▸ (p.at_.cM y b e).1)⟩
    · have z := p.o q hq
      exact ⟨(z.own.grow gr).keep (fun o e => k _ o z.t e) kM, .inl z.m, z.t, z.n, z.l, z.c⟩
  · show ((a :: c.O.map (·.1))).Nodup
    refine List.nodup_cons.mpr ⟨fun hm => ?_, p.nd⟩
    obtain ⟨q, hq, e⟩ := List.mem_map.mp hm
    exact nM (e ▸ (p.o q hq).m)
  · exact c.I.keep (c.I.grow p.x tM gr) (fun b t => .inl (tM b t)) fun b o t _ e => k b o t e

theorem Ex1.assignF {x : Str} {px pos : Pos} {e : Expr} {d : D} (he : EvF c e d) (w : Wr c x) (hr : ∀ a h, ((c.own a d).set x (.ptr a)).P h → R .next h) (hs : swapsWith e (some (.Name x px)) pos.line c.env = pure false := by rfl) :
    Ex1 c (.Assign [.Name x px] e pos) R := by
  intro A s Q E rm p hQ
  refine wpAny_Assign_Name (he A s _ E rm p fun a h₁ tk₁ k n w₁ o t => ?_) hs
  have p1 := p.own k n w₁ o t
  exact wpAny_store (c := c.own a d) (s := { s with heap := h₁, toks := tk₁ }) p1 w (.ptr a) fun h₂ tk₂ p₂ k₂ => hQ _ _ _ (hr _ _ p₂)
theorem Ex.assignF {x : Str} {px pos : Pos} {e : Expr} {d : D} (he : EvF c e d) (w : Wr c x) (hr : ∀ a, Ex ((c.own a d).set x (.ptr a)) rest R) (hs : swapsWith e (some (.Name x px)) pos.line c.env = pure false := by rfl) :
    Ex c (.Assign [.Name x px] e pos :: rest) R := .seq (.assignF he w (fun a h p => ⟨(c.own a d).set x (.ptr a), rfl, rfl, p, hr a⟩) hs)

theorem EvF.nil {pos : Pos} : EvF c (.List [] pos) (.lst []) := by
  intro A s Q E rm p hQ
  refine wpAny_List (EvL.nil A s _ E pos rm p fun vs h₁ tk₁ x₁ w₁ g₁ => ⟨by rw [g₁.length]; exact Nat.zero_le _, ?_⟩)
  (first | obtain ⟨_, rfl⟩ := Has.int_inv g₁ | obtain rfl := Has.bool_inv g₁ | obtain rfl := Has.ptr_inv g₁ | obtain rfl := HasL.nil_inv g₁ | obtain rfl := Has.none_inv g₁ | cases g₁)
  refine hQ _ _ _ (fun b o t e => Heap.get?_push_of_some _ (x₁ b o t e)) (fresh_of_ext x₁ w₁ (Nat.le_refl _)) (w₁.wider1 _ rfl) ⟨#[], ⟨_, Heap.get?_push_size _ rfl⟩, .nil⟩ fun t => w₁.fresh (w₁.tM _ t)

theorem Ctx.P.frz {i : Nat} {a : Addr} {d : D} {x : Str} (p : c.P h) (hO : c.O[i]? = some (a, d)) (hx : c.G.lookup x = some (.ptr a)) : (c.frz i a x d).P h := by
  have z := p.o _ (List.mem_of_getElem? hO)
  have hs : ∀ b, (c.M b ∧ b ≠ a) → c.M b := fun b => And.left
  have tM : ∀ b, C.T b → (c.M b ∧ b ≠ a) := fun b t => ⟨p.wf.tM b t, fun q => z.t (q ▸ t)⟩
  refine { at_ := ?_, loc := p.loc, cel := p.cel, o := ?_, nd := ?_, nM := fun b n => ⟨p.nM b n, fun q => z.n (q ▸ n)⟩, x := c.I.anti p.x hs }
  · refine { p.at_ with wf := p.wf.less hs tM, fM := ⟨p.at_.fM, Ne.symm z.l⟩, cM := fun y b e => ⟨⟨(p.at_.cM y b e).1, Ne.symm (z.c y b e)⟩, (p.at_.cM y b e).2⟩, vars := ?_ }
    intro y dy e
    have e : ((x, d) :: c.G).lookup y = some dy := e
    rw [lookup_cons_if] at e
    by_cases q : y = x
    · rw [if_pos q] at e; cases e; subst q
      obtain ⟨v, b, hv⟩ := p.at_.vars y _ hx
      (first | obtain ⟨_, rfl⟩ := Has.int_inv hv | obtain rfl := Has.bool_inv hv | obtain rfl := Has.ptr_inv hv | obtain rfl := HasL.nil_inv hv | obtain rfl := Has.none_inv hv | cases hv)
      exact ⟨_, b, (z.own.anti hs).has fun q => q.2 rfl⟩
    · rw [if_neg q] at e
      obtain ⟨v, b, hv⟩ := p.at_.vars y dy e
      exact ⟨v, b, hv.anti hs⟩
  · intro q hq
    have hq' : q ∈ c.O := List.mem_of_mem_eraseIdx hq
    have y := p.o q hq'
    refine ⟨y.own.anti hs, ⟨y.m, fun e => ?_⟩, y.t, y.n, y.l, y.c⟩
    obtain ⟨j, hj⟩ := List.mem_iff_getElem?.mp hq
    have hj : (c.O.eraseIdx i)[j]? = some q := hj
    rw [List.getElem?_eraseIdx] at hj
    have key : ∀ j, c.O[j]? = some q → j ≠ i → False := fun j hj hne => by
      have e1 : (c.O.map (·.1))[j]? = some a := by rw [List.getElem?_map, hj, ← e]; rfl
      have e2 : (c.O.map (·.1))[i]? = some a := by rw [List.getElem?_map, hO]; rfl
      exact hne ((List.getElem?_inj (List.getElem?_eq_some_iff.mp e1).1 p.nd).mp (e1.trans e2.symm))
    split at hj
    · exact key _ hj (by omega)
    · exact key _ hj (by omega)
  · show ((c.O.eraseIdx i).map (·.1)).Nodup
    exact p.nd.sublist ((List.eraseIdx_sublist ..).map _)
theorem Ex.frz (i : Nat) (x : Str) {a : Addr} {d : D} (hr : Ex (c.frz i a x d) rest R) (hO : c.O[i]? = some (a, d) := by rfl) (hx : c.G.lookup x = some (.ptr a) := by rfl) : Ex c rest R := hr.weak (fun h p => p.frz hO hx)

theorem Ctx.P.upd {i : Nat} {a : Addr} {d d' : D} (p : c.P h) (hO : c.O[i]? = some (a, d)) (sb : Heap.SameBut a h h') (ow : Owns C h' c.M a d') : (c.upd i a d').P h' := by
  have z := p.o _ (List.mem_of_getElem? hO)
  have k := kept_of sb z.m
  refine p.write sb z.m z.t z.n ow.live ?_ ?_ ?_ ?_ ?_
  · obtain ⟨m, hn⟩ := p.at_.ns; exact ⟨m, hn.sameBut sb (Ne.symm z.l)⟩
  · intro x b e; obtain ⟨v, hv⟩ := p.at_.cC x b e; exact ⟨v, hv.sameBut sb (Ne.symm (z.c x b e))⟩
  · intro y dy e
    obtain ⟨v, b, hv⟩ := p.at_.vars y dy e
    refine ⟨v, b.at (fun o e => (sb.2 _ (Ne.symm z.l)).trans e) (fun cc hc o e => (sb.2 _ (Ne.symm (z.c y cc hc))).trans e), hv.keep k⟩
  · intro q hq
    obtain ⟨j, hj⟩ := List.mem_iff_getElem?.mp hq
    by_cases e : j = i
    · subst e
      have hlt := (List.getElem?_eq_some_iff.mp hO).1
      rw [List.getElem?_set_self hlt] at hj
      cases hj
      exact ⟨ow, z.m, z.t, z.n, z.l, z.c⟩
    · rw [List.getElem?_set_ne (Ne.symm e)] at hj
      have hq' := List.mem_of_getElem? hj
      refine p.oKeep sb z.m hq' fun e2 => e ?_
      have e1 : (c.O.map (·.1))[j]? = some a := by rw [List.getElem?_map, hj, ← e2]; rfl
      have e2 : (c.O.map (·.1))[i]? = some a := by rw [List.getElem?_map, hO]; rfl
      exact (List.getElem?_inj (List.getElem?_eq_some_iff.mp e1).1 p.nd).mp (e1.trans e2.symm)
  · have : (c.O.set i (a, d')).map (·.1) = c.O.map (·.1) := by
      rw [List.map_set]
      have e2 : (c.O.map (·.1))[i]? = some a := by rw [List.getElem?_map, hO]; rfl
      obtain ⟨hlt, e3⟩ := List.getElem?_eq_some_iff.mp e2
      show (c.O.map (·.1)).set i a = _
      rw [← e3]; exact List.set_getElem_self hlt
    rw [this]; exact p.nd

/-! what is read off a thing lent out for a while -/
end
end Mine
end
section
open PySem PySem.W PySem.Calls PyProof.Rows
namespace Mine
section
variable {C : Cfg} {c : Ctx C} {h h' : Heap} {rest : List Stmt} {R : Flow → Heap → Prop}

theorem plainSeq (f : Array Value → Array Value) (its : Array Value) (n : Nat) : ∃ n', Obj.mapSeq f { cls := .type "list", data := .seq its n } = { cls := .type "list", data := .seq (f its) n' } := by
  unfold Obj.mapSeq
  exact ⟨_, rfl⟩
theorem Heap.PlainList.upd {a : Addr} {its : Array Value} (x : h.PlainList a its) (f : Array Value → Array Value) : (h.update a (Obj.mapSeq f)).PlainList a (f its) := by
  obtain ⟨n, e⟩ := x
  obtain ⟨n', q⟩ := plainSeq f its n
  refine ⟨n', ?_⟩
  rw [PySem.Heap.get?_update_self _ e (by rw [q]; rfl), q]

/-- positional arguments, evaluated -/
def EvA {C : Cfg} (c : Ctx C) (es : List Expr) (ds : List D) : Prop :=
  ∀ (A : Around) (s : Shared) (Q : Args → Shared → Prop) (E : Value → Shared → Prop) (pos : Pos) (f : Value), Room c.k A → c.P s.heap →
    (∀ vs h' tk, Ext C.T s.heap h' → Wf C c.M h' → HasL C h' c.M vs ds → Q ⟨vs, []⟩ { s with heap := h', toks := tk }) → wpAny (model C.prog C.w) A (evalArgs f true (backTo pos (starEach es c.env)) []) Q E s
theorem EvA.cons {e : Expr} {es : List Expr} {ds : List D} (hes : EvL c (e :: es) ds) (hs : starEach (e :: es) c.env = (false, eval e c.env) :: starEach es c.env := by rfl) : EvA c (e :: es) ds := by
  intro A s Q E pos f rm p h
  have := hes A s (fun vs s' => Q ⟨vs, []⟩ s') E pos rm p h
  rw [hs] at this ⊢
  exact evalArgs_plain this
theorem EvA.nil : EvA c [] [] := fun A s Q E pos f rm p h => PySem.evalArgs_none (h _ _ s.toks (Ext.refl _ _) p.wf .nil)
/-- a method of an owned list: the callee is the built-in with the list ahead -/
theorem wpAny_listMethod {A : Around} {s : Shared} {Q : Value → Shared → Prop} {E : Value → Shared → Prop} {o : Expr} {name : Str} {id : String} {apos pos : Pos} {es : List Expr} {ds : List D} {i : Nat} {a : Addr} {l : List D} (p : c.P s.heap) (rm : Room c.k A)
    (ho : Ev c o (.ptr a)) (hO : c.O[i]? = some (a, .lst l)) (slot : Slot "list" name id) (hty : typeOf (.builtin id) = pure (.type "method_descriptor")) (hes : EvA c es ds)
    (h : ∀ vs h₁ tk, c.P h₁ → HasL C h₁ c.M vs ds → wpAny (model C.prog C.w) A (call (.builtin id) (.ref a :: vs)) Q E { s with heap := h₁, toks := tk })
    (hbase : attributeBase o name c.env (eval o c.env) = eval o c.env)
    (hfew : ((backTo pos (starEach es c.env)).all (fun x => !x.1) && (backToKw pos (keywordEach [] c.env)).all (fun x => x.1.isSome)
      && decide (es.length + ([] : List Keyword).length + (if ([] : List Keyword).isEmpty then 0 else 1) < 30)) = true)
    (hline : (apos.endLine == pos.line) = true)
    (hany : (backTo pos (starEach es c.env)).any (·.1) = false) :
    wpAny (model C.prog C.w) A (eval (.Call (.Attribute o name apos) es [] pos) c.env) Q E s := by
  refine wpAny_Call_method hbase hfew hline F.plainAttrs_list slot hty (ho A s _ E rm p fun v h₁ tk₁ x₁ w₁ g₁ => ?_)
  (first | obtain ⟨_, rfl⟩ := Has.int_inv g₁ | obtain rfl := Has.bool_inv g₁ | obtain rfl := Has.ptr_inv g₁ | obtain rfl := HasL.nil_inv g₁ | obtain rfl := Has.none_inv g₁ | cases g₁)
  have p1 := p.ext x₁ w₁
  have z := p1.o _ (List.mem_of_getElem? hO)
  obtain ⟨its, ⟨n, hp⟩, hl⟩ := z.own
  refine ⟨⟨_, hp, rfl⟩, fun b e => (by cases e; exact ⟨_, hp, rfl⟩), ?_⟩
  refine Calls.callWith_builtin hany ?_
  refine hes A { s with heap := h₁, toks := tk₁ } _ E pos _ rm p1 fun vs h₂ tk₂ x₂ w₂ g₂ => ?_
  exact h vs h₂ tk₂ (p1.ext x₂ w₂) g₂

theorem Ex1.append {o e : Expr} {apos pos epos : Pos} {a : Addr} {l : List D} {d : D} (i : Nat) (ho : Ev c o (.ptr a)) (he : Ev c e d) (hsz : l.length ≤ sizeLine) (hr : ∀ h, (c.upd i a (.lst (l ++ [d]))).P h → R .next h) (hO : c.O[i]? = some (a, .lst l) := by rfl)
    (hs : starEach [e] c.env = (false, eval e c.env) :: starEach [] c.env := by rfl)
    (hbase : attributeBase o "append" c.env (eval o c.env) = eval o c.env := by rfl)
    (hfew : ((backTo pos (starEach [e] c.env)).all (fun x => !x.1) && (backToKw pos (keywordEach [] c.env)).all (fun x => x.1.isSome)
      && decide ([e].length + ([] : List Keyword).length + (if ([] : List Keyword).isEmpty then 0 else 1) < 30)) = true := by rfl)
    (hline : (apos.endLine == pos.line) = true := by rfl) (hany : (backTo pos (starEach [e] c.env)).any (·.1) = false := by rfl) (hi : interactive c.env = false := by rfl) (hw : swapsWith (.Call (.Attribute o "append" apos) [e] [] pos) none epos.line c.env = pure false := by rfl) :
    Ex1 c (.Expr (.Call (.Attribute o "append" apos) [e] [] pos) epos) R := by
  intro A s Q E rm p hQ
  refine wpAny_Expr (wpAny_listMethod p rm ho hO PySem.F.slot_list_append PySem.F.type_list_append (EvA.cons (EvL.cons he EvL.nil hs) hs) (fun vs h₁ tk p1 g => ?_) hbase hfew hline hany) hi hw
  have q9 := HasL.cons_inv g; clear g; obtain ⟨_, _, rfl, g, g'⟩ := q9
  (first | obtain ⟨_, rfl⟩ := Has.int_inv g' | obtain rfl := Has.bool_inv g' | obtain rfl := Has.ptr_inv g' | obtain rfl := HasL.nil_inv g' | obtain rfl := Has.none_inv g' | cases g')
  have z := p1.o _ (List.mem_of_getElem? hO)
  obtain ⟨its, hp, hl⟩ := z.own
  have hlen := hl.length
  refine wpAny_list_append_plain (s := { s with heap := h₁, toks := tk }) hp (fun h' hp' sb => ?_) (by simp at hlen; omega)
  refine hQ _ _ _ (hr _ (p1.upd hO sb ⟨_, hp', ?_⟩))
  have k := kept_of sb z.m
  simpa using (hl.keep k).append (.cons (g.keep k) .nil)
theorem Ex1.reverse {o : Expr} {apos pos epos : Pos} {a : Addr} {l : List D} (i : Nat) (ho : Ev c o (.ptr a)) (hsz : l.length ≤ sizeLine) (hr : ∀ h, (c.upd i a (.lst l.reverse)).P h → R .next h) (hO : c.O[i]? = some (a, .lst l) := by rfl)
    (hbase : attributeBase o "reverse" c.env (eval o c.env) = eval o c.env := by rfl)
    (hfew : ((backTo pos (starEach [] c.env)).all (fun x => !x.1) && (backToKw pos (keywordEach [] c.env)).all (fun x => x.1.isSome)
      && decide (([] : List Expr).length + ([] : List Keyword).length + (if ([] : List Keyword).isEmpty then 0 else 1) < 30)) = true := by rfl)
    (hline : (apos.endLine == pos.line) = true := by rfl) (hany : (backTo pos (starEach [] c.env)).any (·.1) = false := by rfl) (hi : interactive c.env = false := by rfl) (hw : swapsWith (.Call (.Attribute o "reverse" apos) [] [] pos) none epos.line c.env = pure false := by rfl) :
    Ex1 c (.Expr (.Call (.Attribute o "reverse" apos) [] [] pos) epos) R := by
  intro A s Q E rm p hQ
  refine wpAny_Expr (wpAny_listMethod p rm ho hO PySem.F.slot_list_reverse PySem.F.type_list_reverse EvA.nil (fun vs h₁ tk p1 g => ?_) hbase hfew hline hany) hi hw
  (first | obtain ⟨_, rfl⟩ := Has.int_inv g | obtain rfl := Has.bool_inv g | obtain rfl := Has.ptr_inv g | obtain rfl := HasL.nil_inv g | obtain rfl := Has.none_inv g | cases g)
  have z := p1.o _ (List.mem_of_getElem? hO)
  obtain ⟨its, hp, hl⟩ := z.own
  have hlen := hl.length
  obtain ⟨n, e⟩ := id hp
  refine call_meets PySem.F.slot_list_reverse ⟨_, e, rfl⟩ PySem.F.entry_list_reverse (PySem.F.args_list_reverse_1 _) (PySem.AutoListH.list_reverse_list_0 a its n (by simp at hlen; omega)) ⟨e, ?_⟩
  refine hQ _ _ _ (hr _ (p1.upd hO (Heap.SameBut.update ..) ⟨_, Heap.PlainList.upd hp (fun x => x.reverse), ?_⟩))
  have k := kept_of (Heap.SameBut.update (h := h₁) (a := a) (f := Obj.mapSeq fun x => x.reverse)) z.m
  simpa using (hl.keep k).reverse
end
end Mine
end
section
open PySem PySem.W PySem.Calls PyProof.Rows
namespace Mine
section
variable {C : Cfg} {c : Ctx C} {h h' : Heap} {rest : List Stmt} {R : Flow → Heap → Prop}

/-! owned lists: an item, the length, an item written, an item popped -/
theorem Ev.lenO {np pos : Pos} {e : Expr} {a : Addr} {l : List D} (i : Nat) (b : Bi C c.env "len" (.builtin "len")) (he : Ev c e (.ptr a)) (hsz : l.length ≤ sizeLine) (hO : c.O[i]? = some (a, .lst l) := by rfl)
    (hs : starEach [e] c.env = (false, eval e c.env) :: starEach [] c.env := by rfl) (hp : (backTo pos (starEach [] c.env)).any (·.1) = false := by rfl) : Ev c (.Call (.Name "len" np) [e] [] pos) (.int l.length) := by
  refine Ev.callB b (EvL.cons he EvL.nil hs) (fun A s Q E vs rm p g hQ => ?_) hs hp
  have q9 := HasL.cons_inv g; clear g; obtain ⟨_, _, rfl, g, g'⟩ := q9
  (first | obtain ⟨_, rfl⟩ := Has.int_inv g' | obtain rfl := Has.bool_inv g' | obtain rfl := Has.ptr_inv g' | obtain rfl := HasL.nil_inv g' | obtain rfl := Has.none_inv g' | cases g'); (first | obtain ⟨_, rfl⟩ := Has.int_inv g | obtain rfl := Has.bool_inv g | obtain rfl := Has.ptr_inv g | obtain rfl := HasL.nil_inv g | obtain rfl := Has.none_inv g | cases g)
  obtain ⟨its, hp, hl⟩ := (p.o _ (List.mem_of_getElem? hO)).own
  have hlen : its.size = l.length := by rw [← hl.length]; simp
  rw [sizeLine_eq] at hsz
  refine call_len_list hp.isList (by omega) ?_
  rw [hlen]
  exact hQ _ _ _ (Ext.refl _ _) p.wf (.int _ _)
theorem HasL.set {M : ASet} : ∀ {vs : List Value} {ds : List D} {j : Nat} {v : Value} {d : D}, HasL C h M vs ds → Has C h M v d → HasL C h M (vs.set j v) (ds.set j d)
  | _, _, _, _, _, .nil, _ => .nil
  | _, _, 0, _, _, .cons a b, g => .cons g b
  | _, _, j + 1, _, _, .cons a b, g => .cons a (HasL.set b g)
theorem wpAny_setL {A : Around} {s : Shared} {Q : Unit → Shared → Prop} {E : Value → Shared → Prop} {a : Addr} {l : List D} {j : Int} {t : Tok} {v : Value} {d : D} {i : Nat} (p : c.P s.heap) (hO : c.O[i]? = some (a, .lst l)) (h0 : 0 ≤ j) (h1 : j < l.length) (h2 : j < 2 ^ 63) (g : Has C s.heap c.M v d)
    (hQ : ∀ h', (c.upd i a (.lst (l.set j.toNat d))).P h' → Q () { s with heap := h' }) : wpAny (model C.prog C.w) A (setItem (.ref a) (.int j t) v) Q E s := by
  have z := p.o _ (List.mem_of_getElem? hO)
  obtain ⟨its, hp, hl⟩ := z.own
  have hlen : its.size = l.length := by rw [← hl.length]; simp
  obtain ⟨n, e⟩ := id hp
  refine ki_setAt (n := n) (items := its) e h0 h2 (by omega) (hQ _ (p.upd hO (Heap.SameBut.update ..) ⟨_, Heap.PlainList.upd hp (fun x => x.setIfInBounds j.toNat v), ?_⟩))
  have k := kept_of (Heap.SameBut.update (h := s.heap) (a := a) (f := Obj.mapSeq fun x => x.setIfInBounds j.toNat v)) z.m
  rw [Array.toList_setIfInBounds]
  exact (hl.keep k).set (g.keep k)
theorem Ex1.setL {o ix e : Expr} {tp pos : Pos} {a : Addr} {l : List D} {j : Int} {d : D} (i : Nat) (he : Ev c e d) (ho : Ev c o (.ptr a)) (hi : Ev c ix (.int j)) (h0 : 0 ≤ j) (h1 : j < l.length) (h2 : j < 2 ^ 63) (hr : ∀ h, (c.upd i a (.lst (l.set j.toNat d))).P h → R .next h)
    (hO : c.O[i]? = some (a, .lst l) := by rfl) (hs : swapsWith e (some (.Subscript o ix tp)) pos.line c.env = pure false := by rfl) : Ex1 c (.Assign [.Subscript o ix tp] e pos) R := by
  intro A s Q E rm p hQ
  refine wpAny_Assign_Subscript (he A s _ E rm p fun v h₁ tk₁ x₁ w₁ g₁ => ?_) hs
  refine ho A _ _ E rm (p.ext x₁ w₁) fun vo h₂ tk₂ x₂ w₂ g₂ => ?_
  refine hi A _ _ E rm ((p.ext x₁ w₁).ext x₂ w₂) fun vi h₃ tk₃ x₃ w₃ g₃ => ?_
  (first | obtain ⟨_, rfl⟩ := Has.int_inv g₂ | obtain rfl := Has.bool_inv g₂ | obtain rfl := Has.ptr_inv g₂ | obtain rfl := HasL.nil_inv g₂ | obtain rfl := Has.none_inv g₂ | cases g₂); (first | obtain ⟨_, rfl⟩ := Has.int_inv g₃ | obtain rfl := Has.bool_inv g₃ | obtain rfl := Has.ptr_inv g₃ | obtain rfl := HasL.nil_inv g₃ | obtain rfl := Has.none_inv g₃ | cases g₃)
  exact wpAny_setL (s := { s with heap := h₃, toks := tk₃ }) (((p.ext x₁ w₁).ext x₂ w₂).ext x₃ w₃) hO h0 h1 h2 ((g₁.ext x₂ w₂).ext x₃ w₃) fun h' p' => hQ _ _ _ (hr _ p')

end
end Mine
end
section
open PySem PySem.W PySem.Calls PyProof.Rows
namespace Mine
abbrev ES := List (List Atom × Int)
def dget (es : ES) (k : List Atom) : Option Int := (es.find? fun x => decide (x.1 = k)).map (·.2)
def dset (es : ES) (k : List Atom) (i : Int) : ES := if (dget es k).isSome then es.map (fun x => if x.1 = k then (x.1, i) else x) else es ++ [(k, i)]
section
variable {C : Cfg} {c : Ctx C} {h h' : Heap} {rest : List Stmt} {R : Flow → Heap → Prop}

theorem items_of {M : ASet} {ks : List Atom} : ∀ {vs : List Value}, HasL C h M vs (ks.map fun a => match a with | .int i => D.int i | .str s => D.str s) → ItemsAre (atomKind C.prog C.w) ks vs := by
  induction ks with
  | nil => intro vs g; rw [g.nil_inv]; exact .nil
  | cons k ks ih =>
    intro vs g
    have q9 := HasL.cons_inv g; clear g; obtain ⟨v, us, rfl, a, r⟩ := q9
    refine .cons ?_ (ih r)
    cases k with
    | int i => obtain ⟨t, rfl⟩ := Has.int_inv a; exact (beq_self_eq_true i : Atom.isV (.int i) (.int i t) = true)
    | str s => obtain ⟨t, rfl⟩ := Has.str_inv a; exact (beq_self_eq_true s : Atom.isV (.str s) (.str s t) = true)
theorem key_of {M : ASet} {k : List Atom} {v : Value} (g : Has C h M v (tupOf k)) : ∃ a, v = .ref a ∧ ¬ M a ∧ (tkind C.prog C.w).is h k a := by
  unfold tupOf at g
  have q9 := Has.tup_inv g; clear g; obtain ⟨_, _, rfl, ha, ht, hl⟩ := q9
  obtain ⟨o, ho, hc, n, hd⟩ := ht
  exact ⟨_, rfl, ha, o, _, n, ho, hc, hd, items_of hl⟩
theorem atKey_dget (xs : List (List Atom × Addr × Value)) (k : List Atom) : dget (xs.map fun x => (x.1, valOf x.2.2)) k = (atKey xs k).map (fun p => valOf p.2) := by
  unfold dget atKey
  rw [List.find?_map]
  simp only [Function.comp_def, Option.map_map]
theorem atKey_mem {xs : List (List Atom × Addr × Value)} {k : List Atom} {p : Addr × Value} (e : atKey xs k = some p) : (k, p) ∈ xs := by
  unfold atKey at e
  cases e1 : xs.find? fun x => decide (x.1 = k) with
  | none => rw [e1] at e; cases e
  | some q =>
    rw [e1] at e; cases e
    have h1 := List.find?_some e1
    have h2 := List.mem_of_find?_eq_some e1
    have : q.1 = k := by simpa using h1
    rw [← this]; exact h2
theorem DictIs.get {M : ASet} {a : Addr} {es : ES} (x : DictIs C h M a es) (k : List Atom) : ∃ xs, h.DictOfH (tkind C.prog C.w) a xs ∧ (atKey xs k).isSome = (dget es k).isSome ∧ ∀ i, dget es k = some i → ∃ p t, atKey xs k = some p ∧ p.2 = .int i t := by
  obtain ⟨xs, hd, hM, hi, rfl⟩ := x
  refine ⟨xs, hd, by rw [atKey_dget]; cases atKey xs k <;> rfl, fun i e => ?_⟩
  rw [atKey_dget] at e
  cases e1 : atKey xs k with
  | none => rw [e1] at e; cases e
  | some p =>
    rw [e1] at e
    obtain ⟨j, t, hv, _⟩ := hi _ (atKey_mem e1)
    have hv : p.2 = .int j t := hv
    refine ⟨p, t, rfl, ?_⟩
    have : valOf p.2 = i := Option.some.inj e
    rw [hv] at this ⊢
    cases this; rfl
theorem DictIs.set {M : ASet} {a b : Addr} {es : ES} {k : List Atom} {i : Int} {t : Tok} (x : DictIs C h M a es) (hb : ¬ M b) (ha : M a) : ∃ xs, h.DictOfH (tkind C.prog C.w) a xs ∧ xs.length = es.length ∧ ∀ h' : Heap, h'.DictOfH (tkind C.prog C.w) a (storedH xs k b (.int i t)) → Heap.SameBut a h h' → DictIs C h' M a (dset es k i) := by
  obtain ⟨xs, hd, hM, hi, rfl⟩ := x
  refine ⟨xs, hd, by simp, fun h' hd' sb => ⟨_, hd', ?_, ?_, ?_⟩⟩
  · intro y hy
    unfold storedH at hy
    split at hy
    · obtain ⟨z, hz, rfl⟩ := List.mem_map.mp hy
      unfold putAt; split
      · exact hM z hz
      · exact hM z hz
    · rcases List.mem_append.mp hy with hy | hy
      · exact hM y hy
      · simp at hy; subst hy; exact hb
  · intro y hy
    unfold storedH at hy
    split at hy
    · obtain ⟨z, hz, rfl⟩ := List.mem_map.mp hy
      unfold putAt; split
      · exact ⟨i, t, rfl, trivial⟩
      · exact hi z hz
    · rcases List.mem_append.mp hy with hy | hy
      · exact hi y hy
      · simp at hy; subst hy; exact ⟨i, t, rfl, trivial⟩
  · unfold storedH dset
    rw [atKey_dget]
    have e : ((atKey xs k).map fun p => valOf p.2).isSome = (atKey xs k).isSome := by cases atKey xs k <;> rfl
    rw [e]
    split
    · rw [List.map_map, List.map_map]
      refine List.map_congr_left fun z hz => ?_
      simp only [Function.comp_def]
      unfold putAt
      split <;> rfl
    · simp [valOf]

theorem Op.inO {k : List Atom} {es : ES} {a : Addr} (i : Nat) (hO : c.O[i]? = some (a, .dic es) := by rfl) : Op c (tupOf k) (.ptr a) (compareOp .In) (.bool (dget es k).isSome) := by
  intro A s Q E vx vy rm p hx hy hQ
  obtain ⟨b, rfl, hb, hk⟩ := key_of hx
  (first | obtain ⟨_, rfl⟩ := Has.int_inv hy | obtain rfl := Has.bool_inv hy | obtain rfl := Has.ptr_inv hy | obtain rfl := HasL.nil_inv hy | obtain rfl := Has.none_inv hy | cases hy)
  obtain ⟨hD, hs⟩ := (p.o _ (List.mem_of_getElem? hO)).own
  obtain ⟨xs, hdo, e, _⟩ := hD.get k
  refine wpAny_in_heap (knd := tkind C.prog C.w) rm.in1 hk (by simpa using hs) hdo ?_
  rw [e]
  exact hQ _ _ _ (Ext.refl _ _) p.wf (.bool _)
theorem wpAny_setD {A : Around} {s : Shared} {Q : Unit → Shared → Prop} {E : Value → Shared → Prop} {a : Addr} {es : ES} {k : List Atom} {v vi : Value} {j : Int} {i : Nat} (rm : Room c.k A) (p : c.P s.heap) (hO : c.O[i]? = some (a, .dic es)) (hk : Has C s.heap c.M vi (tupOf k)) (g : Has C s.heap c.M v (.int j)) (hsz : es.length ≤ sizeLine)
    (hQ : ∀ h' tk, (c.upd i a (.dic (dset es k j))).P h' → Q () { s with heap := h', toks := tk }) : wpAny (model C.prog C.w) A (setItem (.ref a) vi v) Q E s := by
  obtain ⟨b, rfl, hb, hk⟩ := key_of hk
  (first | obtain ⟨_, rfl⟩ := Has.int_inv g | obtain rfl := Has.bool_inv g | obtain rfl := Has.ptr_inv g | obtain rfl := HasL.nil_inv g | obtain rfl := Has.none_inv g | cases g)
  rename_i t
  have z := p.o _ (List.mem_of_getElem? hO)
  obtain ⟨hD, hs⟩ := z.own
  obtain ⟨xs, hdo, hl, hst⟩ := hD.set (k := k) (i := j) (t := t) hb z.m
  exact wpAny_setItem_heap (knd := tkind C.prog C.w) rm.in1 hk hdo (fun h' hd' sb => hQ _ _ (p.upd hO sb ⟨hst h' hd' sb, hs⟩)) (by omega)
theorem Ex1.setD {o ix e : Expr} {tp pos : Pos} {a : Addr} {es : ES} {k : List Atom} {j : Int} (i : Nat) (he : Ev c e (.int j)) (ho : Ev c o (.ptr a)) (hi : Ev c ix (tupOf k)) (hsz : es.length ≤ sizeLine) (hr : ∀ h, (c.upd i a (.dic (dset es k j))).P h → R .next h)
    (hO : c.O[i]? = some (a, .dic es) := by rfl) (hs : swapsWith e (some (.Subscript o ix tp)) pos.line c.env = pure false := by rfl) : Ex1 c (.Assign [.Subscript o ix tp] e pos) R := by
  intro A s Q E rm p hQ
  refine wpAny_Assign_Subscript (he A s _ E rm p fun v h₁ tk₁ x₁ w₁ g₁ => ?_) hs
  refine ho A _ _ E rm (p.ext x₁ w₁) fun vo h₂ tk₂ x₂ w₂ g₂ => ?_
  refine hi A _ _ E rm ((p.ext x₁ w₁).ext x₂ w₂) fun vi h₃ tk₃ x₃ w₃ g₃ => ?_
  (first | obtain ⟨_, rfl⟩ := Has.int_inv g₂ | obtain rfl := Has.bool_inv g₂ | obtain rfl := Has.ptr_inv g₂ | obtain rfl := HasL.nil_inv g₂ | obtain rfl := Has.none_inv g₂ | cases g₂)
  exact wpAny_setD (s := { s with heap := h₃, toks := tk₃ }) rm (((p.ext x₁ w₁).ext x₂ w₂).ext x₃ w₃) hO g₃ ((g₁.ext x₂ w₂).ext x₃ w₃) hsz fun h' tk p' => hQ _ _ _ (hr _ p')
theorem Op.iadd {a b : Int} : Op c (.int a) (.int b) (inplaceOp .Add) (.int (a + b)) := by
  intro A s Q E vx vy rm p hx hy hQ
  (first | obtain ⟨_, rfl⟩ := Has.int_inv hx | obtain rfl := Has.bool_inv hx | obtain rfl := Has.ptr_inv hx | obtain rfl := HasL.nil_inv hx | obtain rfl := Has.none_inv hx | cases hx); (first | obtain ⟨_, rfl⟩ := Has.int_inv hy | obtain rfl := Has.bool_inv hy | obtain rfl := Has.ptr_inv hy | obtain rfl := HasL.nil_inv hy | obtain rfl := Has.none_inv hy | cases hy)
  exact wpAny_iadd_int (hQ _ _ _ (Ext.refl _ _) p.wf (.int _ _))
theorem Ex1.augD {o ix e : Expr} {tp pos : Pos} {a : Addr} {es : ES} {k : List Atom} {j₀ j : Int} (i : Nat) (ho : Ev c o (.ptr a)) (hi : Ev c ix (tupOf k)) (he : Ev c e (.int j)) (hg : dget es k = some j₀) (hsz : es.length ≤ sizeLine) (hr : ∀ h, (c.upd i a (.dic (dset es k (j₀ + j)))).P h → R .next h)
    (hO : c.O[i]? = some (a, .dic es) := by rfl) (ha : ∀ ov iv new, augStore ix ov iv new = (do holding [new, ov, iv] (setItem ov iv new); release [new, ov, iv] []; pure .next) := by intro _ _ _; rfl) : Ex1 c (.AugAssign (.Subscript o ix tp) .Add e pos) R := by
  intro A s Q E rm p hQ
  refine wpAny_AugAssign_Subscript_any (ho A s _ E rm p fun vo h₁ tk₁ x₁ w₁ g₁ => ?_) ha
  refine hi A _ _ E rm (p.ext x₁ w₁) fun vi h₂ tk₂ x₂ w₂ g₂ => ?_
  (first | obtain ⟨_, rfl⟩ := Has.int_inv g₁ | obtain rfl := Has.bool_inv g₁ | obtain rfl := Has.ptr_inv g₁ | obtain rfl := HasL.nil_inv g₁ | obtain rfl := Has.none_inv g₁ | cases g₁)
  have p2 := (p.ext x₁ w₁).ext x₂ w₂
  obtain ⟨b, rfl, hb, hk⟩ := key_of g₂
  obtain ⟨hD, hs⟩ := (p2.o _ (List.mem_of_getElem? hO)).own
  obtain ⟨xs, hdo, _, hf⟩ := hD.get k
  obtain ⟨q, t, eq, ev⟩ := hf _ hg
  refine wpAny_getItem_heap (s := { s with heap := h₂, toks := tk₂ }) (knd := tkind C.prog C.w) rm.in1 hk hdo eq ?_
  rw [ev]
  refine he A { s with heap := h₂, toks := _ } _ E rm p2 fun ve h₃ tk₃ x₃ w₃ g₃ => ?_
  have p3 := p2.ext x₃ w₃
  refine Op.iadd A { s with heap := h₃, toks := tk₃ } _ E _ _ rm p3 (.int j₀ t) g₃ fun vn h₄ tk₄ x₄ w₄ g₄ => ?_
  exact wpAny_setD (s := { s with heap := h₄, toks := tk₄ }) rm (p3.ext x₄ w₄) hO ((g₂.ext x₃ w₃).ext x₄ w₄) g₄ hsz fun h' tk p' => hQ _ _ _ (hr _ p')
end
end Mine
end
section
open PySem PySem.W PySem.Calls PyProof.Rows
namespace Mine
section
variable {C : Cfg} {c : Ctx C} {h h' : Heap} {rest : List Stmt} {R : Flow → Heap → Prop}

theorem Wf.drop {M M' : ASet} (wl : Wf C M' h) (sub : ∀ b, M b → M' b) (tM : ∀ b, C.T b → M b) (k : ∀ b o, (¬ M' b ∨ M b) → h.get? b = some o → h'.get? b = some o) : Wf C M h' where
  tM := tM
  lt := fun a ha => let ⟨o, e⟩ := wl.lt a (sub a ha); ⟨o, k a o (.inr ha) e⟩
  g := wl.g.at fun o e => k _ o (.inl wl.gM) e
  gM := fun q => wl.gM (sub _ q)
  b := wl.b.at fun o e => k _ o (.inr (tM _ (.inr rfl))) e
  b0 := k _ _ (.inr (tM _ (.inr rfl))) wl.b0
  bi := wl.bi
  nl := let ⟨mc, x, y⟩ := wl.nl; ⟨mc, x.at fun o e => k _ o (.inl wl.nM) e, y⟩
  nM := fun q => wl.nM (sub _ q)
  k := fun a o e => ⟨k a o (.inl (wl.k a o e).2) (wl.k a o e).1, fun q => (wl.k a o e).2 (sub _ q)⟩
  bt := let ⟨bm, o, a1, a2, a3, a4, a5, a6, a7, a8⟩ := wl.bt; ⟨bm, o, a1, a2, a3, k _ _ (.inl a8) a4, a5, a6, a7, fun q => a8 (sub _ q)⟩
  tab := fun q hq => by
    obtain ⟨h0, h1, h2, h3⟩ := wl.tab q hq
    have hT : C.T q.2.1 := .inl ⟨q, hq, rfl⟩
    refine ⟨h0, fun z => h1 (sub _ z), codeHd_at h2 fun o e => k _ o (.inl h1) e, ?_⟩
    rcases h3 with h3 | ⟨c', n1, n2, n3⟩
    · exact .inl (k _ _ (.inr (tM _ hT)) h3)
    · exact .inr ⟨c', fun z => n1 (sub _ z), k _ _ (.inr (tM _ hT)) n2, CodeRec_at n3 fun o e => k _ o (.inl n1) e⟩

/-- what an activation starts from: the heap of then stays, less the tables and V -/
def Inv.base (C : Cfg) (h₀ : Heap) (N V : ASet) : Inv C where
  N := N
  X := fun M h => (∀ b o, ¬ C.T b → ¬ V b → h₀.get? b = some o → h.get? b = some o) ∧ ∀ b, M b → ¬ N b → ¬ C.T b → ¬ V b → h₀.get? b = none
  keep := by
    intro M h h' ⟨x, y⟩ tM k
    refine ⟨fun b o t v e => ?_, y⟩
    by_cases q : ¬ M b ∨ N b
    · exact k b o t q (x b o t v e)
    · have hm : M b := Classical.not_not.mp fun n => q (.inl n)
      have := y b hm (fun n => q (.inr n)) t v
      rw [e] at this; cases this
  grow := by
    intro M M' h ⟨x, y⟩ tM k
    refine ⟨x, fun b hm n t v => ?_⟩
    by_cases q : M b
    · exact y b q n t v
    · cases e : h₀.get? b with
      | none => rfl
      | some o => exact (k b o hm q (x b o t v e)).elim
  anti := fun ⟨x, y⟩ k => ⟨x, fun b hm => y b (k b hm)⟩

/-! comprehensions: clause by clause -/
structure Over {C : Cfg} (c c₂ : Ctx C) : Prop where
  k : c₂.k = c.k
  env : c₂.env = c.env
  cw : c₂.cw = c.cw
  M : c₂.M = c.M
  O : c₂.O = c.O
  I : c₂.I = c.I
  G : ∀ x d, c.G.lookup x = some d → c₂.G.lookup x = some d
theorem Over.p {c₂ : Ctx C} (o : Over c c₂) (p : c₂.P h) : c.P h := by
  obtain ⟨k, M, env, G, O, cw, I⟩ := c
  obtain ⟨k₂, M₂, env₂, G₂, O₂, cw₂, I₂⟩ := c₂
  obtain ⟨e1, e2, e3, e4, e5, e6, g⟩ := o
  dsimp only at e1 e2 e3 e4 e5 e6 g
  subst e1 e2 e3 e4 e5 e6
  exact { at_ := { p.at_ with vars := fun x d e => p.at_.vars x d (g x d e) }, loc := p.loc, cel := p.cel, o := fun q hq => let z := p.o q hq; ⟨z.own, z.m, z.t, z.n, z.l, z.c⟩, nd := p.nd, nM := p.nM, x := p.x }
theorem Over.set {x : Str} {d : D} (hx : c.G.lookup x = none) : Over c (c.set x d) := ⟨rfl, rfl, rfl, rfl, rfl, rfl, fun y dy e => by
  show ((x, d) :: c.G).lookup y = some dy
  rw [lookup_cons_if]
  by_cases q : y = x
  · subst q; rw [hx] at e; cases e
  · rw [if_neg q]; exact e⟩
theorem Over.trans {c₁ c₂ : Ctx C} (a : Over c c₁) (b : Over c₁ c₂) : Over c c₂ := ⟨b.k.trans a.k, b.env.trans a.env, b.cw.trans a.cw, b.M.trans a.M, b.O.trans a.O, b.I.trans a.I, fun x d e => b.G x d (a.G x d e)⟩

def testsOf (ifs : List Expr) (env : Env) : Sem Bool := forIn ifs true fun c r => if r = true then do let ok ← isTrue c env (eval c env); pure (ForInStep.yield ok) else pure (ForInStep.yield r)
def EvIfs {C : Cfg} (c : Ctx C) (ifs : List Expr) (b : Bool) : Prop :=
  ∀ (A : Around) (s : Shared) (Q : Bool → Shared → Prop) (E : Value → Shared → Prop), Room c.k A → c.P s.heap →
    (∀ h' tk, Ext C.T s.heap h' → Wf C c.M h' → Q b { s with heap := h', toks := tk }) → wpAny (model C.prog C.w) A (testsOf ifs c.env) Q E s
theorem EvIfs.nil : EvIfs c [] true := fun A s Q E rm p hQ => wpAny_pure (hQ _ s.toks (Ext.refl _ _) p.wf)
theorem EvIfs.one {e : Expr} {b : Bool} (he : EvB c e b) : EvIfs c [e] b := fun A s Q E rm p hQ => wpAny_tests_one (he A s Q E rm p hQ)

def Emits {C : Cfg} (elt : Expr) : List Comprehension → Ctx C → List D → Prop
  | [], c, out => ∃ d, out = [d] ∧ Ev c elt d
  | g :: gs, c, out => g.is_async = 0 ∧ (∀ x, foldedSetIterable g.iter c.env x = pure x) ∧ ∃ (tg : Expr → Prop) (α : Type) (l : List α) (toD : α → D) (F : α → List D), EvI c g.iter (l.map toD) tg ∧ tg g.target ∧ out = l.flatMap F ∧
      ∀ x ∈ l, ∀ c', In c c' → c'.G = c.G → ∃ c₂ b, Tg c' g.target (toD x) c₂ ∧ Over c' c₂ ∧ EvIfs c₂ g.ifs b ∧ (b = true → Emits elt gs c₂ (F x)) ∧ (b = false → F x = [])

def runC (M : Model) (A : Around) (E : Value → Shared → Prop) (e elt : Expr) (env : Env) (acc : Value) (n : Nat) : List Comprehension → (Shared → Prop) → Shared → Prop
  | [], Q, s => wpAny M A (eval elt env) (fun x s₁ => wpAny M A (call (.builtin "list.append") [acc, x]) (fun _ s₂ => Q s₂) E s₁) E s
  | g :: _, Q, s => wpAny M A (eval g.iter env) (fun x s₁ => wpAny M A (pyIter x) (fun it s₂ => codeAny M A (.compStart e n it acc env) (fun r s' => match r with | .ok _ => Q s' | .error x => cameBackBy M A env E x s') s₂) E s₁) E s

theorem compStart_at {A : Around} {s : Shared} {R : Result → Shared → Prop} {elt target iter : Expr} {ifs : List Expr} {gens : List Comprehension} {scope : Scope} {pos : Pos} {n : Nat} {it acc : Value} {env : Env} (hg : gens[n]? = some ⟨target, iter, ifs, 0⟩)
    (h0 : codeAny (model C.prog C.w) A (.compLoop (.ListComp elt gens scope pos) n it acc env) R s)
    (h : ∀ E, wpAny (model C.prog C.w) A (pyIter it) (fun it' s' => codeAny (model C.prog C.w) A (.compLoop (.ListComp elt gens scope pos) n it' acc env) R s') E s) :
    codeAny (model C.prog C.w) A (.compStart (.ListComp elt gens scope pos) n it acc env) R s := by
  refine codeAny_of_tree ?_
  show wpAny _ _ ((compStart (.ListComp elt gens scope pos) n it acc env).onRaise (fun x => do noteFrame x env; standAt theWindowsPlace)) _ _ s
  refine wpAny_notedAt ?_
  unfold compStart
  rw [show (clausesOf (.ListComp elt gens scope pos))[n]? = some ⟨target, iter, ifs, 0⟩ from hg]
  show wpAny _ _ (ask >>= _) _ _ s
  refine wpAny_bind (wpAny_askSetting (wpAny_ite ?_))
  split
  · first
      | exact wpAny_bind (wpAny_pure (wpAny_pure (And.intro rfl h0)))
      | exact wpAny_pure (And.intro rfl h0)
  · refine wpAny_bind (wpAny_rule ?_)
    show wpAny _ _ (standAt iter.pos >>= _) _ _ s
    exact wpAny_bind (wpAny_standAt (wpAny_bind (wpAny_mono (h _) (fun it' s' h' => wpAny_pure (And.intro rfl h')) fun _ _ x => x)))

theorem compLoop_at {A : Around} {s : Shared} {R : Result → Shared → Prop} {elt target iter : Expr} {ifs : List Expr} {gens : List Comprehension} {scope : Scope} {pos : Pos} {n : Nat} {it acc : Value} {env : Env} (hg : gens[n]? = some ⟨target, iter, ifs, 0⟩) (h0 : ∀ g ∈ gens, g.is_async = 0 ∧ ∀ x, foldedSetIterable g.iter env x = pure x)
    (I : Nat → Shared → Prop) (N : Value → Shared → Prop) (hN : N = notedBy (model C.prog C.w) A env fun e s' => R (.error e) s')
    (turn : ∀ k s, I k s → wpAny (model C.prog C.w) A (pyNext it) (fun r s₁ => match r with
      | none => R (.ok .next) s₁
      | some v => wpAny (model C.prog C.w) A (letOwnedTupleGo target it v) (fun _ s₁' => wpAny (model C.prog C.w) A (assign target env v) (fun _ s₂ =>
          wpAny (model C.prog C.w) A (testsOf ifs env) (fun ok s₃ =>
            if ok = true then runC (model C.prog C.w) A N (.ListComp elt gens scope pos) elt env acc (n + 1) (gens.drop (n + 1)) (fun s₅ => ∃ m, m < k ∧ I m s₅) s₃
            else ∃ m, m < k ∧ I m s₃) N s₂) N s₁') N s₁) N s)
    (k : Nat) (h : I k s) : codeAny (model C.prog C.w) A (.compLoop (.ListComp elt gens scope pos) n it acc env) R s := by
  subst hN
  refine codeAny_loop rfl I (fun k s hI => ?_) k h
  show wpAny _ A ((compTurn (.ListComp elt gens scope pos) n it acc env).onRaise (fun x => do noteFrame x env; theTreesLotGoes x)) _ _ s
  refine wpAny_noted ?_
  unfold compTurn
  dsimp only
  rw [hg]
  refine wpAny_bind (wpAny_standAt ?_)
  try dsimp only [bne_self_eq_false]
  rw [if_neg (by decide)]
  refine wpAny_bind (wpAny_mono (turn k s hI) (fun r s₁ h₁ => ?_) fun _ _ h' => h')
  cases r with
  | none => exact wpAny_pure h₁
  | some v =>
    refine wpAny_bind (wpAny_mono h₁ (fun _ s₂ h₂ => wpAny_bind (wpAny_mono h₂ (fun _ s₃ h₃ => ?_) fun _ _ h' => h')) fun _ _ h' => h')
    refine wpAny_bind (wpAny_mono h₃ (fun ok s₄ h₄ => ?_) fun _ _ h' => h')
    cases ok with
    | false => exact wpAny_pure ⟨rfl, h₄⟩
    | true =>
      simp only [if_true] at h₄ ⊢
      cases hn : gens[n + 1]? with
      | none =>
        rw [List.drop_eq_nil_of_le (by simpa using hn)] at h₄
        exact wpAny_bind (wpAny_bind (wpAny_mono h₄ (fun x s₄ h₄ => wpAny_bind (wpAny_mono h₄ (fun _ s₅ h₅ => wpAny_pure (wpAny_pure ⟨rfl, h₅⟩)) fun _ _ h' => h')) fun _ _ h' => h'))
      | some g' =>
        obtain ⟨hlt, hge⟩ := List.getElem?_eq_some_iff.mp hn
        have hd : gens.drop (n + 1) = g' :: gens.drop (n + 2) := by rw [List.drop_eq_getElem_cons hlt, hge]
        rw [hd] at h₄
        obtain ⟨a0, f0⟩ := h0 g' (List.mem_of_getElem? hn)
        try dsimp only
        rw [a0]
        try dsimp only [bne_self_eq_false]
        refine wpAny_bind (wpAny_mono h₄ (fun x s₅ h₅ => wpAny_bind (wpAny_standAt ?_)) fun _ _ h' => h')
        rw [if_neg (by decide)]
        refine wpAny_bind (wpAny_of_eq (f0 x) ?_)
        rw [if_neg (by decide)]
        refine wpAny_bind (wpAny_holding (wpAny_mono h₅ (fun it' s₆ h₆ => ?_) fun _ _ h' => h'))
        exact wpAny_bind (wpAny_runOwn (codeAny_mono h₆ fun r s' hr => by
          cases r with
          | ok f => exact wpAny_pure ⟨rfl, hr⟩
          | error x => exact hr))
end
end Mine
end
section
open PySem PySem.W PySem.Calls PyProof.Rows
namespace Mine
section
variable {C : Cfg}

def Ctx.acc (c : Ctx C) (B : Addr) (l : List D) : Ctx C := { c with O := [(B, .lst l)] }
theorem take_flat {α β : Type} (F : α → List β) (l : List α) {i : Nat} {x : α} (hx : l[i]? = some x) : (l.take (i + 1)).flatMap F = (l.take i).flatMap F ++ F x := by
  rw [List.take_add_one, hx, List.flatMap_append]
  simp
theorem take_flat_le {α β : Type} (F : α → List β) (l : List α) (i : Nat) : ((l.take i).flatMap F).length ≤ (l.flatMap F).length := by
  have e : l.flatMap F = (l.take i).flatMap F ++ (l.drop i).flatMap F := by rw [← List.flatMap_append, List.take_append_drop]
  rw [e, List.length_append]; omega

def RunAt (C : Cfg) (elt : Expr) (gens : List Comprehension) (scope : Scope) (pos : Pos) (n : Nat) (gs : List Comprehension) : Prop := ∀ (c : Ctx C) (out : List D), (∀ g ∈ gens, g.is_async = 0 ∧ ∀ x, foldedSetIterable g.iter c.env x = pure x) → Emits elt gs c out →
    ∀ (A : Around) (s : Shared) (Q : Shared → Prop) (E : Value → Shared → Prop) (l₀ : List D) (B : Addr), Room c.k A → c.P s.heap → c.O = [(B, .lst l₀)] → l₀.length + out.length ≤ sizeLine →
      (∀ h' tk, (c.acc B (l₀ ++ out)).P h' → Q { s with heap := h', toks := tk }) → runC (model C.prog C.w) A E (.ListComp elt gens scope pos) elt c.env (.ref B) n gs Q s

theorem loop_emits {elt : Expr} {gens : List Comprehension} {scope : Scope} {pos : Pos} {n : Nat} {gs : List Comprehension} {target iter : Expr} {ifs : List Expr} (hg : gens[n]? = some ⟨target, iter, ifs, 0⟩) (hd' : gens.drop (n + 1) = gs) (run : RunAt C elt gens scope pos (n + 1) gs)
    {c : Ctx C} (hf : ∀ g ∈ gens, g.is_async = 0 ∧ ∀ x, foldedSetIterable g.iter c.env x = pure x) {α : Type} {l : List α} {toD : α → D} {F : α → List D} {tg : Expr → Prop} (ht : tg target)
    (step : ∀ x ∈ l, ∀ c', In c c' → c'.G = c.G → ∃ c₂ b, Tg c' target (toD x) c₂ ∧ Over c' c₂ ∧ EvIfs c₂ ifs b ∧ (b = true → Emits elt gs c₂ (F x)) ∧ (b = false → F x = []))
    {W : ASet} {it : Value} {St : ASet → Nat → Heap → Prop} {S : Src C W it (l.map toD) tg St} (FF : Off c W) {A : Around} {s : Shared} {R : Result → Shared → Prop} {l₀ : List D} {B : Addr} (rm : Room c.k A) (hO : c.O = [(B, .lst l₀)]) (p00 : (c.loop S 0).P s.heap)
    (hsz : l₀.length + (l.flatMap F).length ≤ sizeLine) (hQ : ∀ h' tk, (c.acc B (l₀ ++ l.flatMap F)).P h' → R (.ok .next) { s with heap := h', toks := tk }) :
    codeAny (model C.prog C.w) A (.compLoop (.ListComp elt gens scope pos) n it (.ref B) c.env) R s := by
  let LL : Nat → List D := fun i => l₀ ++ (l.take i).flatMap F
  let L : Nat → Nat → Ctx C := fun i j => (c.acc B (LL j)).loop S i
  have FJ : ∀ j, Off (c.acc B (LL j)) W := fun j => ⟨FF.w, FF.t, FF.l, FF.ce, FF.n⟩
  have p0 : (L 0 0).P s.heap := by
    have e : c.acc B (LL 0) = c := by
      show ({ c with O := [(B, .lst (l₀ ++ (l.take 0).flatMap F))] } : Ctx C) = c
      simp only [List.take_zero, List.flatMap_nil, List.append_nil]
      rw [← hO]
    show ((c.acc B (LL 0)).loop S 0).P s.heap
    rw [e]
    exact p00
  have hWM : ∀ b, W b → (fun b => c.M b ∨ W b) b ∧ ¬ C.T b := fun b hb => ⟨.inr hb, fun t => FF.w b hb (FF.t b t)⟩
  have hll : (l.map toD).length = l.length := List.length_map ..
  let N : Value → Shared → Prop := notedBy (model C.prog C.w) A c.env fun e s' => R (.error e) s'
  refine compLoop_at hg hf (fun k s' => ∃ i h' tk, s' = { s with heap := h', toks := tk } ∧ (L i i).P h' ∧ i ≤ l.length ∧ k = l.length + 1 - i) N rfl ?_ (l.length + 1) ⟨0, s.heap, s.toks, rfl, p0, Nat.zero_le _, rfl⟩
  rintro k s' ⟨i, h', tk, rfl, pi, hle, rfl⟩
  by_cases hlt : i < l.length
  · obtain ⟨x, hx⟩ : ∃ x, l[i]? = some x := ⟨l[i], List.getElem?_eq_getElem hlt⟩
    have hdx : (l.map toD)[i]? = some (toD x) := by rw [List.getElem?_map, hx]; rfl
    have hmem : x ∈ l := List.mem_of_getElem? hx
    have eLL : LL (i + 1) = LL i ++ F x := by show l₀ ++ _ = _; rw [take_flat F l hx, ← List.append_assoc]
    let PO : Shared → Prop := fun s₅ => ∃ m, m < l.length + 1 - i ∧ ∃ i h' tk, s₅ = { s with heap := h', toks := tk } ∧ (L i i).P h' ∧ i ≤ l.length ∧ m = l.length + 1 - i
    let PT : Bool → Shared → Prop := fun ok s₃ => if ok = true then runC (model C.prog C.w) A N (.ListComp elt gens scope pos) elt c.env (.ref B) (n + 1) (gens.drop (n + 1)) PO s₃ else PO s₃
    refine wpAny_mono (S.item (E := N) (Q := fun v s₂ => wpAny (model C.prog C.w) A (assign target c.env v) (fun _ s₃ => wpAny (model C.prog C.w) A (testsOf ifs c.env) PT N s₃) N s₂) rm.hh ht pi.x.2 pi.wf hWM hdx fun v h₂ tk₂ k₂ lv st₂ hv => ?_)
      (fun r s₁ h => ?_) fun _ _ e => e
    · have p1 : (L (i + 1) i).P h₂ := Ctx.P.next (FJ i) pi k₂ lv st₂
      obtain ⟨c₂, b, htg, ov, hifs, htrue, hfalse⟩ := step x hmem (L (i + 1) i) ⟨rfl, rfl, rfl, fun b => .inl, fun M h x => x.1⟩ rfl
      have eE : c₂.env = c.env := ov.env
      have eK : c₂.k = c.k := ov.k
      refine htg A { s with heap := h₂, toks := tk₂ } _ N v rm p1 hv fun h₃ tk₃ p3 k3 => ?_
      have := hifs A { s with heap := h₃, toks := tk₃ } PT N (by rw [eK]; exact rm) p3 fun h₄ tk₄ x₄ w₄ => ?_
      · rw [eE] at this; exact this
      · have p4 := p3.ext x₄ w₄
        cases b with
        | false =>
          have eF := hfalse rfl
          refine ⟨l.length + 1 - (i + 1), by omega, i + 1, h₄, tk₄, rfl, ?_, hlt, rfl⟩
          show ((c.acc B (LL (i + 1))).loop S (i + 1)).P h₄
          rw [eLL, eF, List.append_nil]
          exact ov.p p4
        | true =>
          show runC _ A N _ elt c.env (.ref B) (n + 1) (gens.drop (n + 1)) PO _
          rw [hd']
          have hlen : (LL i).length + (F x).length ≤ sizeLine := by
            have h1 := take_flat_le F l (i + 1)
            rw [take_flat F l hx, List.length_append] at h1
            show (l₀ ++ _).length + _ ≤ _
            rw [List.length_append]; omega
          have := run c₂ (F x) (by rw [eE]; exact hf) (htrue rfl) A { s with heap := h₄, toks := tk₄ } PO N (LL i) B (by rw [eK]; exact rm) p4 ov.O hlen fun h₅ tk₅ p5 => ?_
          · rw [eE] at this; exact this
          · refine ⟨l.length + 1 - (i + 1), by omega, i + 1, h₅, tk₅, rfl, ?_, hlt, rfl⟩
            show ((c.acc B (LL (i + 1))).loop S (i + 1)).P h₅
            rw [eLL]
            have ov' : Over (((c.acc B (LL i ++ F x)).loop S (i + 1))) (c₂.acc B (LL i ++ F x)) := ⟨ov.k, ov.env, ov.cw, ov.M, rfl, ov.I, ov.G⟩
            exact ov'.p p5
    · obtain ⟨v, rfl, h⟩ := h
      exact h
  · have he : i = l.length := by omega
    subst he
    refine S.done rm.hh (by rw [hll]; exact pi.x.2) pi.wf hWM fun h₂ tk₂ k₂ => ?_
    have p2 := Ctx.P.exit (FJ _) pi k₂
    refine hQ h₂ tk₂ ?_
    have e : LL l.length = l₀ ++ l.flatMap F := by show l₀ ++ _ = _; rw [List.take_length]
    rw [← e]; exact p2

theorem run_emits {elt : Expr} {gens : List Comprehension} {scope : Scope} {pos : Pos} : ∀ (gs : List Comprehension) (n : Nat), gens.drop n = gs → RunAt C elt gens scope pos n gs
  | [], n, hd, c, out, hf, he, A, s, Q, E, l₀, B, rm, p, hO, hsz, hQ => by
    obtain ⟨d, rfl, he⟩ := he
    refine he A s _ E rm p fun v h₁ tk₁ x₁ w₁ g₁ => ?_
    have p1 := p.ext x₁ w₁
    have hO' : c.O[0]? = some (B, .lst l₀) := by rw [hO]; rfl
    have z := p1.o _ (List.mem_of_getElem? hO')
    obtain ⟨its, hp, hl⟩ := z.own
    have hlen := hl.length
    have hp : h₁.PlainList B its := hp
    refine wpAny_list_append_plain (s := { s with heap := h₁, toks := tk₁ }) hp (fun h' hp' sb => ?_) (by simp at hlen; omega)
    have k := kept_of sb z.m
    have p2 := p1.upd hO' sb (d' := .lst (l₀ ++ [d])) ⟨_, hp', by simpa using (hl.keep k).append (.cons (g₁.keep k) .nil)⟩
    refine hQ h' tk₁ ?_
    have e : c.upd 0 B (.lst (l₀ ++ [d])) = c.acc B (l₀ ++ [d]) := by unfold Ctx.upd Ctx.acc; rw [hO]; rfl
    exact e ▸ p2
  | ⟨target, iter, ifs, ia⟩ :: gs, n, hd, c, out, hf, he, A, s, Q, E, l₀, B, rm, p, hO, hsz, hQ => by
    obtain ⟨a0, f0, tg, α, l, toD, F, hi, ht, rfl, step⟩ := he
    dsimp only at a0 f0 hi ht step
    subst a0
    have hg : gens[n]? = some ⟨target, iter, ifs, 0⟩ := by
      have := congrArg (·[0]?) hd
      simpa using this
    have hd' : gens.drop (n + 1) = gs := by
      have := congrArg (·.drop 1) hd
      simpa [List.drop_drop, Nat.add_comm] using this
    refine hi A s _ E rm p fun it h₁ tk₁ W St k₁ w₁ hW S st => ?_
    have FF : Off c W := p.off fun b hb => (hW b hb).1
    have loop := loop_emits (scope := scope) (pos := pos) hg hd' (run_emits gs (n + 1) hd') hf ht step (S := S) FF (A := A) (s := { s with heap := h₁, toks := tk₁ }) (R := fun r s' => match r with | .ok _ => Q s' | .error x => cameBackBy (model C.prog C.w) A c.env E x s') rm hO (p.enter k₁ w₁ hW st) hsz fun h' tk p' => hQ h' tk p'
    exact compStart_at hg loop fun E => S.self st loop

/-- the wider contexts of a context: what may turn, what is owned and what is kept are open -/
def Ctx.re (c : Ctx C) (M : ASet) (O : List (Addr × D)) (I : Inv C) : Ctx C := ⟨c.k, M, c.env, c.G, O, c.cw, I⟩
theorem Emits.last {elt : Expr} {c : Ctx C} {d : D} (he : Ev c elt d) : Emits elt [] c [d] := ⟨d, rfl, he⟩
theorem Emits.cons {elt : Expr} {c : Ctx C} {target iter : Expr} {ifs : List Expr} {gs : List Comprehension} {tg : Expr → Prop} {α : Type} (l : List α) (toD : α → D) (F : α → List D) (hi : EvI c iter (l.map toD) tg) (ht : tg target)
    (step : ∀ x ∈ l, ∀ M O I, ∃ c₂ b, Tg (c.re M O I) target (toD x) c₂ ∧ Over (c.re M O I) c₂ ∧ EvIfs c₂ ifs b ∧ (b = true → Emits elt gs c₂ (F x)) ∧ (b = false → F x = []))
    (hs : ∀ x, foldedSetIterable iter c.env x = pure x := by intro _; rfl) : Emits elt (⟨target, iter, ifs, 0⟩ :: gs) c (l.flatMap F) := by
  refine ⟨rfl, hs, tg, α, l, toD, F, hi, ht, rfl, fun x hx c' hin hG => ?_⟩
  obtain ⟨k, M, env, G, O, cw, I⟩ := c'
  obtain ⟨e1, e2, e3, _, _⟩ := hin
  dsimp only at e1 e2 e3 hG
  subst e1 e2 e3 hG
  exact step x hx M O I
end
end Mine
end
section
open PySem PySem.W PySem.Calls PyProof.Rows
namespace Mine

def closL (cells : List (Str × Addr)) : List (Str × NameKind) → List (Str × Addr) → List (Str × Addr)
  | [], acc => acc
  | (n, k) :: r, acc => if k == .free then (match cells.lookup n with | some a => closL cells r ((n, a) :: acc) | none => closL cells r acc) else closL cells r acc
theorem closL_lookup {cells : List (Str × Addr)} : ∀ {names : List (Str × NameKind)} {acc : List (Str × Addr)} {x : Str} {b : Addr}, (closL cells names acc).lookup x = some b → acc.lookup x = some b ∨ cells.lookup x = some b
  | [], acc, x, b, h => .inl h
  | (n, k) :: r, acc, x, b, h => by
    unfold closL at h
    split at h
    · cases e : cells.lookup n with
      | none => rw [e] at h; exact closL_lookup h
      | some a =>
        rw [e] at h
        rcases closL_lookup h with h | h
        · rw [List.lookup_cons] at h
          by_cases q : x = n
          · subst q; simp at h; subst h; exact .inr e
          · rw [beq_eq_false_iff_ne.mpr q] at h; exact .inl h
        · exact .inr h
    · exact closL_lookup h
theorem closureFor_closL {scope : Scope} {env : Env} (hc : ∀ x ∈ scope.names, x.2 = .free → (env.cells.lookup x.1).isSome = true) : closureFor scope env = pure (closL env.cells scope.names []) := by
  have key : ∀ (names : List (Str × NameKind)) (acc : List (Str × Addr)) (f : Str × NameKind → List (Str × Addr) → Sem (ForInStep (List (Str × Addr)))), (∀ n k cs, f (n, k) cs = if k == .free then (do let a ← cellOf env n; pure (.yield ((n, a) :: cs))) else pure (.yield cs)) →
      (∀ x ∈ names, x.2 = .free → (env.cells.lookup x.1).isSome = true) → forIn names acc f = pure (closL env.cells names acc) := by
    intro names
    induction names with
    | nil => intro acc f hf hc; rw [List.forIn_nil]; rfl
    | cons x r ih =>
      intro acc f hf hc
      obtain ⟨n, k⟩ := x
      rw [List.forIn_cons, hf]
      unfold closL
      by_cases q : (k == NameKind.free) = true
      · rw [if_pos q, if_pos q]
        obtain ⟨a, ha⟩ := Option.isSome_iff_exists.mp (hc (n, k) List.mem_cons_self (by simpa using q))
        have e : cellOf env n = pure a := by unfold cellOf; rw [ha]
        rw [e, ha, pure_bind, pure_bind]
        exact ih _ f hf fun y hy => hc y (List.mem_cons_of_mem _ hy)
      · rw [if_neg q, if_neg q, pure_bind]
        exact ih _ f hf fun y hy => hc y (List.mem_cons_of_mem _ hy)
  simp only [closureFor]
  rw [key scope.names [] _ (fun n k cs => by cases hk : k == NameKind.free <;> simp [hk]) hc]
  rfl

theorem cellsFrom_append : ∀ (names : List (Str × NameKind)) (n : Nat) (acc : List (Str × Addr)), cellsFrom n names acc = cellsFrom n names [] ++ acc
  | [], n, acc => rfl
  | (x, k) :: r, n, acc => by
    unfold cellsFrom
    split
    · rw [cellsFrom_append r (n + 1) ((x, n) :: acc), cellsFrom_append r (n + 1) [(x, n)], List.append_assoc]; rfl
    · exact cellsFrom_append r n acc

def cenvOf (scope : Scope) (env : Env) (L : Addr) : Env :=
  { scope := relabel scope env, locals := L, globals := env.globals, cells := cellsFrom (L + 1) scope.names (closL env.cells scope.names []), qual := env.qual, func := none, code := env.code, frame := env.frame, builtins := env.builtins }

theorem wpAny_newEnvComp {M : Model} {A : Around} {E : Value → Shared → Prop} {s : Shared} {scope : Scope} {cl : List (Str × Addr)} {env : Env} {Q : Env → Shared → Prop}
    (h : Q { scope := scope, locals := s.heap.objs.size, globals := env.globals, cells := cellsFrom (s.heap.objs.size + 1) scope.names cl, qual := env.qual, func := none, code := env.code, frame := env.frame, builtins := env.builtins }
      { s with heap := pushCells (s.heap.push { cls := .type "dict", data := .dict #[] }) scope.names }) :
    wpAny M A (newFunctionEnv scope env.globals cl [] env.qual none .none (some env)) Q E s := by
  unfold newFunctionEnv
  simp only [Option.isSome_some, if_true]
  refine wpAny_bind (wpAny_alloc ?_)
  refine wpAny_bind (wpAny_layCells _ (fun name kind cells => by cases hkc : kind == NameKind.cell <;> simp [hkc]) _ _ _ _ ?_)
  rw [show ({ s with heap := s.heap.push { cls := .type "dict", data := .dict #[] } } : Shared).heap.objs.size = s.heap.objs.size + 1 from Heap.size_push ..]
  simp only [List.forIn_nil]
  exact wpAny_bind (wpAny_pure (wpAny_pure h))

/-- the cells that a comprehension makes -/
def ownCells (scope : Scope) (x : Str) : Bool := ((cellsFrom 0 scope.names []).lookup x).isSome
theorem lookup_isSome_cons {x y : Str} {n m : Addr} {acc acc' : List (Str × Addr)} (h : (acc.lookup y).isSome = (acc'.lookup y).isSome) : ((((x, n) :: acc).lookup y).isSome) = ((((x, m) :: acc').lookup y).isSome) := by
  rw [List.lookup_cons, List.lookup_cons]
  split
  · rfl
  · exact h
theorem cellsFrom_same {y : Str} : ∀ (names : List (Str × NameKind)) (n m : Nat) (acc acc' : List (Str × Addr)), (acc.lookup y).isSome = (acc'.lookup y).isSome → ((cellsFrom n names acc).lookup y).isSome = ((cellsFrom m names acc').lookup y).isSome
  | [], n, m, acc, acc', h => h
  | (x, k) :: r, n, m, acc, acc', h => by
    unfold cellsFrom
    split
    · exact cellsFrom_same r _ _ _ _ (lookup_isSome_cons h)
    · exact cellsFrom_same r _ _ _ _ h
section
variable {C : Cfg} {c : Ctx C} {h h₂ h' : Heap} {rest : List Stmt} {R : Flow → Heap → Prop} {W : ASet} {it : Value} {ds : List D} {tg : Expr → Prop} {St : ASet → Nat → Heap → Prop} {S : Src C W it ds tg St}

def compHeap (h₂ : Heap) (scope : Scope) : Heap := pushCells ((h₂.push { cls := .type "list", dict := none, data := .seq ([] : List Value).toArray }).push { cls := .type "dict", data := .dict #[] }) scope.names
def Ctx.comp (c : Ctx C) (scope : Scope) (G : List (Str × D)) (h h₂ : Heap) : Ctx C :=
  { k := c.k, M := fun b => c.M b ∨ (h₂.objs.size ≤ b ∧ ∃ o, (compHeap h₂ scope).get? b = some o), env := cenvOf scope c.env (h₂.objs.size + 1), G := G, O := [(h₂.objs.size, .lst [])], cw := ownCells scope, I := Inv.base C h c.M fun _ => False }

/-- names of the surroundings that a comprehension sees -/
def Caps (c : Ctx C) (scope : Scope) (G : List (Str × D)) : Prop := ∀ x d, G.lookup x = some d → c.G.lookup x = some d ∧ (c.env.kindOf x = some .cell ∨ c.env.kindOf x = some .free) ∧
  ∃ b, c.env.cells.lookup x = some b ∧ ∀ L, (cenvOf scope c.env L).cells.lookup x = some b ∧ ((cenvOf scope c.env L).kindOf x = some .cell ∨ (cenvOf scope c.env L).kindOf x = some .free)
theorem Caps.nil {scope : Scope} : Caps c scope [] := fun x d e => by cases e
theorem Caps.cons {scope : Scope} {G : List (Str × D)} {x : Str} {d : D} {b : Addr} {k₁ k₂ : NameKind} (r : Caps c scope G) (h1 : c.G.lookup x = some d := by rfl) (h2 : c.env.kindOf x = some k₁ := by rfl) (h3 : (k₁ == .cell || k₁ == .free) = true := by rfl)
    (h4 : c.env.cells.lookup x = some b := by rfl) (h5 : ∀ L, (cenvOf scope c.env L).cells.lookup x = some b := by intro _; rfl) (h6 : ∀ L, (cenvOf scope c.env L).kindOf x = some k₂ := by intro _; rfl) (h7 : (k₂ == .cell || k₂ == .free) = true := by rfl) : Caps c scope ((x, d) :: G) := by
  intro y dy e
  rw [lookup_cons_if] at e
  by_cases q : y = x
  · rw [if_pos q] at e; cases e; subst q
    have f : ∀ {k : NameKind}, (k == .cell || k == .free) = true → k = .cell ∨ k = .free := fun {k} h => by cases k <;> simp at h ⊢
    refine ⟨h1, ?_, b, h4, fun L => ⟨h5 L, ?_⟩⟩
    · rw [h2]; exact (f h3).imp (congrArg some) (congrArg some)
    · rw [h6]; exact (f h7).imp (congrArg some) (congrArg some)
  · rw [if_neg q] at e; exact r y dy e

theorem compHeap_keep (scope : Scope) : ∀ b o, h₂.get? b = some o → (compHeap h₂ scope).get? b = some o := fun b o e => pushCells_keeps _ _ b o (Heap.get?_push_of_some _ (Heap.get?_push_of_some _ e))
theorem compHeap_list (scope : Scope) : (compHeap h₂ scope).PlainList h₂.objs.size #[] := ⟨_, pushCells_keeps _ _ _ _ (Heap.get?_push_of_some _ (Heap.get?_push_size _ rfl))⟩
theorem compHeap_ns (scope : Scope) : (compHeap h₂ scope).Ns (h₂.objs.size + 1) (fun _ => none) := by
  have e := (Heap.Ns.new (h₂.push { cls := .type "list", dict := none, data := .seq ([] : List Value).toArray }) (.type "dict")).at fun o x => pushCells_keeps scope.names _ _ _ x
  rw [Heap.size_push] at e
  exact e
theorem compHeap_cells (scope : Scope) : CellsOk (compHeap h₂ scope) (h₂.objs.size + 2) (cellsFrom (h₂.objs.size + 2) scope.names []) := by
  have ok := cellsFrom_ok scope.names ((h₂.push { cls := .type "list", dict := none, data := .seq ([] : List Value).toArray }).push { cls := .type "dict", data := .dict #[] }) (h₂.objs.size + 2) [] ⟨fun _ _ hm => (nomatch hm), List.Pairwise.nil⟩ (by rw [Heap.size_push, Heap.size_push]; exact Nat.le_refl _)
  rw [Heap.size_push, Heap.size_push] at ok
  exact ok
theorem lookup_append_cases {x : Str} {b : Addr} {l r : List (Str × Addr)} (e : (l ++ r).lookup x = some b) : (x, b) ∈ l ∨ r.lookup x = some b := by
  rw [List.lookup_append] at e
  cases q : l.lookup x with
  | none => rw [q] at e; exact .inr e
  | some a => rw [q] at e; cases e; exact .inl (mem_of_lookup q)

theorem Ctx.P.comp {scope : Scope} {G : List (Str × D)} (p : c.P h) (k : ∀ b o, ¬ C.T b → h.get? b = some o → h₂.get? b = some o) (w : Wf C (fun b => c.M b ∨ W b) h₂) (hW : ∀ b, W b → h.get? b = none ∧ ∃ o, h₂.get? b = some o) (st : St (fun b => c.M b ∨ W b) 0 h₂)
    (hkind : scope.kind = .function) (hG : Caps c scope G) : ((c.comp scope G h h₂).loop S 0).P (compHeap h₂ scope) := by
  have x : Ext C.T h h₂ := fun b o t e => k b o t e
  have w₂ : Wf C c.M h₂ := w.less (fun _ => .inl) p.wf.tM
  have tM := p.wf.tM
  have frh : ∀ b, h₂.objs.size ≤ b → h.get? b = none := fun b hb => fresh_of_ext x w₂ hb
  have nM : ∀ b, h₂.objs.size ≤ b → ¬ c.M b := fun b hb hm => by obtain ⟨o, e⟩ := p.wf.lt b hm; rw [frh b hb] at e; cases e
  have nW : ∀ b, W b → ¬ c.M b := fun b hb hm => by obtain ⟨o, e⟩ := p.wf.lt b hm; rw [(hW b hb).1] at e; cases e
  have Wlt : ∀ b, W b → b < h₂.objs.size := fun b hb => by obtain ⟨o, e⟩ := (hW b hb).2; exact Heap.lt_size e
  have kk := compHeap_keep (h₂ := h₂) scope
  have kall : ∀ b o, ¬ C.T b → h.get? b = some o → (compHeap h₂ scope).get? b = some o := fun b o t e => kk b o (k b o t e)
  have hB : ∃ o, (compHeap h₂ scope).get? h₂.objs.size = some o := by obtain ⟨n, e⟩ := compHeap_list (h₂ := h₂) scope; exact ⟨_, e⟩
  have hL : ∃ o, (compHeap h₂ scope).get? (h₂.objs.size + 1) = some o := by obtain ⟨o, _, _, e, _⟩ := compHeap_ns (h₂ := h₂) scope; exact ⟨o, e⟩
  have ok := compHeap_cells (h₂ := h₂) scope
  have tn : ∀ b, h₂.objs.size ≤ b → ¬ C.T b := fun b hb t => nM b hb (tM b t)
  -- the whole set of what may turn
  have gr : ∀ b o, ((c.M b ∨ (h₂.objs.size ≤ b ∧ ∃ o, (compHeap h₂ scope).get? b = some o)) ∨ W b) → ¬ c.M b → h.get? b = some o → False := fun b o hb hn e => by
    rcases hb with (hb | hb) | hb
    · exact hn hb
    · rw [frh b hb.1] at e; cases e
    · rw [(hW b hb).1] at e; cases e
  have w₄ : Wf C (fun b => (c.M b ∨ (h₂.objs.size ≤ b ∧ ∃ o, (compHeap h₂ scope).get? b = some o)) ∨ W b) (compHeap h₂ scope) := by
    have := w.wider (h' := compHeap h₂ scope) (W := fun b => h₂.objs.size ≤ b ∧ ∃ o, (compHeap h₂ scope).get? b = some o) kk fun b hb => hb
    refine this.less (fun b hb => ?_) (fun b t => .inl (.inl (tM b t)))
    rcases hb with (hb | hb) | hb
    · exact .inl (.inl hb)
    · exact .inr hb
    · exact .inl (.inr hb)
  have cells : ∀ y b, (cenvOf scope c.env (h₂.objs.size + 1)).cells.lookup y = some b → ((y, b) ∈ cellsFrom (h₂.objs.size + 2) scope.names [] ∨ c.env.cells.lookup y = some b) := fun y b e => by
    unfold cenvOf at e
    dsimp only at e
    rw [cellsFrom_append] at e
    rcases lookup_append_cases e with e | e
    · exact .inl e
    · exact .inr ((closL_lookup e).resolve_left (by intro q; cases q))
  refine { at_ := ?_, loc := ?_, cel := ?_, o := ?_, nd := ?_, nM := ?_, x := ⟨⟨fun b o t _ e => kall b o t e, ?_⟩, ?_⟩ }
  · refine { wf := w₄, kind := hkind, gl := p.at_.gl, bn := p.at_.bn, ns := ⟨_, compHeap_ns scope⟩, fM := .inl (.inr ⟨Nat.le_succ _, hL⟩), fT := tn _ (Nat.le_succ _), cM := ?_, cA := ?_, cC := ?_, vars := ?_ }
    · intro y b e
      rcases cells y b e with e | e
      · have z := ok.empty y b e
        obtain ⟨o, ho, _⟩ := z.1
        exact ⟨.inl (.inr ⟨Nat.le_trans (by omega) z.2, o, ho⟩), tn b (Nat.le_trans (by omega) z.2), Nat.ne_of_gt (Nat.lt_of_lt_of_le (by show h₂.objs.size + 1 < h₂.objs.size + 2; omega) z.2)⟩
      · have z := p.at_.cM y b e
        refine ⟨.inl (.inl z.1), z.2.1, fun q => nM _ (Nat.le_succ _) (show c.M (h₂.objs.size + 1) from ?_)⟩
        have q : b = h₂.objs.size + 1 := q
        exact q ▸ z.1
    · intro y y' b e e'
      rcases cells y b e with e | e <;> rcases cells y' b e' with e' | e'
      · exact name_of_addr ok.apart e e'
      · exact absurd (p.at_.cM y' b e').1 (nM b (Nat.le_trans (by omega) (ok.empty y b e).2))
      · exact absurd (p.at_.cM y b e).1 (nM b (Nat.le_trans (by omega) (ok.empty y' b e').2))
      · exact p.at_.cA y y' b e e'
    · intro y b e
      rcases cells y b e with e | e
      · exact ⟨_, (ok.empty y b e).1⟩
      · obtain ⟨v, o, ho, hd⟩ := p.at_.cC y b e
        exact ⟨v, o, kall b o (p.at_.cM y b e).2.1 ho, hd⟩
    · intro y d e
      obtain ⟨e1, e2, b, e3, e4⟩ := hG y d e
      obtain ⟨v, bd, hv⟩ := p.at_.vars y d e1
      refine ⟨v, .inr ⟨(e4 _).2, b, (e4 _).1, ?_⟩, (hv.grow gr).keep fun b' o hb e => kall b' o (fun t => hb (.inl (.inl (tM b' t)))) e⟩
      rcases bd with ⟨q, _⟩ | ⟨_, b', q, o, ho, hd⟩
      · rcases e2 with e2 | e2 <;> (rw [e2] at q; cases q)
      · rw [e3] at q; cases q
        exact ⟨o, kall b o (p.at_.cM y b e3).2.1 ho, hd⟩
  · rintro (q | q)
    · exact nM _ (Nat.le_succ _) q
    · exact absurd (Wlt _ q) (by show ¬ h₂.objs.size + 1 < h₂.objs.size; omega)
  · intro y cw b e q
    have cw : ((cellsFrom 0 scope.names []).lookup y).isSome = true := cw
    rw [cellsFrom_same scope.names 0 (h₂.objs.size + 2) [] [] rfl] at cw
    obtain ⟨b₀, hb₀⟩ := Option.isSome_iff_exists.mp cw
    have e : (cenvOf scope c.env (h₂.objs.size + 1)).cells.lookup y = some b := e
    unfold cenvOf at e
    dsimp only at e
    rw [cellsFrom_append, List.lookup_append] at e
    rw [show h₂.objs.size + 1 + 1 = h₂.objs.size + 2 from rfl, hb₀] at e
    cases e
    have z := (ok.empty y b (mem_of_lookup hb₀)).2
    rcases q with q | q
    · exact nM _ (Nat.le_trans (by omega) z) q
    · have := Wlt _ q
      exact absurd this (Nat.not_lt.mpr (Nat.le_trans (Nat.le_add_right _ 2) z))
  · intro q hq
    have hq : q = (h₂.objs.size, .lst []) := List.mem_singleton.mp hq
    subst hq
    refine ⟨⟨_, compHeap_list scope, .nil⟩, .inl (.inr ⟨Nat.le_refl _, hB⟩), tn _ (Nat.le_refl _), ?_, ?_, ?_⟩
    · rintro (q | q)
      · exact nM _ (Nat.le_refl _) q
      · exact Nat.lt_irrefl _ (Wlt _ q)
    · show h₂.objs.size ≠ h₂.objs.size + 1
      omega
    · intro y b e q
      have q : h₂.objs.size = b := q
      rcases cells y b e with e | e
      · have := (ok.empty y b e).2; rw [← q] at this; omega
      · exact nM _ (Nat.le_refl _) (q ▸ (p.at_.cM y b e).1)
  · simp [Ctx.loop, Ctx.comp]
  · exact fun b hb => hb.elim (fun q => .inl (.inl q)) .inr
  · intro b hb hn t _
    rcases hb with (hb | hb) | hb
    · exact absurd hb hn
    · exact frh b hb.1
    · exact (hW b hb).1
  · refine S.keep (S.grow st (fun b t => .inl (tM b t)) ?_) (fun b t => .inl (.inl (tM b t))) fun b o t _ e => kk b o e
    intro b o hb hn e
    rcases hb with (hb | hb) | hb
    · exact hn (.inl hb)
    · exact absurd (Heap.lt_size e) (Nat.not_lt.mpr hb.1)
    · exact hn (.inr hb)
end
end Mine
end
section
open PySem PySem.W PySem.Calls PyProof.Rows
namespace Mine
section
variable {C : Cfg} {c : Ctx C} {h h₂ h' : Heap} {rest : List Stmt} {R : Flow → Heap → Prop}

/-- what a comprehension leaves: its list, fresh, and all else as before -/
theorem comp_leaves {scope : Scope} {G : List (Str × D)} {out : List D} (p : c.P h) (hB : h.get? h₂.objs.size = none) (hBM : ¬ C.T h₂.objs.size) (hC : h.get? (h₂.objs.size + 1) = none) (p' : ((c.comp scope G h h₂).acc h₂.objs.size out).P h') {h'' : Heap} (sb : Heap.SameBut (h₂.objs.size + 1) h' h'') :
    (∀ b o, ¬ C.T b → h.get? b = some o → h''.get? b = some o) ∧ Wf C (fun b => c.M b ∨ b = h₂.objs.size) h'' ∧ Owns C h'' (fun b => c.M b ∨ b = h₂.objs.size) h₂.objs.size (.lst out) := by
  have z := p'.o _ (List.mem_singleton.mpr rfl)
  have hs : ∀ b, (c.M b ∨ b = h₂.objs.size) → ((c.comp scope G h h₂).acc h₂.objs.size out).M b := fun b hb => by
    rcases hb with hb | hb
    · exact .inl hb
    · subst hb; exact z.m
  have tM : ∀ b, C.T b → (c.M b ∨ b = h₂.objs.size) := fun b t => .inl (p.wf.tM b t)
  have ne : ∀ b, (c.M b ∨ b = h₂.objs.size) → b ≠ h₂.objs.size + 1 := fun b hb q => by
    rcases hb with hb | hb
    · obtain ⟨o, e⟩ := p.wf.lt b hb; rw [q, hC] at e; cases e
    · rw [hb] at q; exact absurd q (by simp)
  have hL : ((c.comp scope G h h₂).acc h₂.objs.size out).M (h₂.objs.size + 1) := p'.at_.fM
  have kk : ∀ b o, (¬ ((c.comp scope G h h₂).acc h₂.objs.size out).M b ∨ (c.M b ∨ b = h₂.objs.size)) → h'.get? b = some o → h''.get? b = some o := fun b o hb e => by
    refine (sb.2 b fun q => ?_).trans e
    rcases hb with hb | hb
    · exact hb (q ▸ hL)
    · exact ne b hb q
  refine ⟨fun b o t e => ?_, p'.wf.drop hs tM kk, ?_⟩
  · have e1 := p'.x.1 b o t (fun q => q) e
    exact (sb.2 b fun q => by rw [q, hC] at e; cases e).trans e1
  · exact (z.own.keep (fun o e => kk _ o (.inr (.inr rfl)) e) fun b o hb e => kk b o (.inl hb) e).anti hs

/-- the base context of a comprehension -/
def Ctx.inner (c : Ctx C) (scope : Scope) (G : List (Str × D)) (L : Addr) (M : ASet) (O : List (Addr × D)) (I : Inv C) : Ctx C := ⟨c.k, M, cenvOf scope c.env L, G, O, ownCells scope, I⟩

theorem comp_core {elt : Expr} {target iter : Expr} {ifs : List Expr} {gs : List Comprehension} {scope : Scope} {pos cpos : Pos} {tg : Expr → Prop} {α : Type} {l : List α} {toD : α → D} {F : α → List D} {G : List (Str × D)} {A : Around} {s : Shared} {use : Option (Value → Sem Unit)} {Q : Value → Shared → Prop} {E : Value → Shared → Prop}
    (hi : EvI c iter (l.map toD) tg) (ht : tg target) (caps : Caps c scope G) (hkind : scope.kind = .function) (hnames : ∀ x ∈ scope.names, x.2 = .local → scope.names.lookup x.1 = some .local) (hfree : ∀ x ∈ scope.names, x.2 = .free → (c.env.cells.lookup x.1).isSome = true)
    (hf : ∀ g ∈ gs, g.is_async = 0 ∧ ∀ L x, foldedSetIterable g.iter (cenvOf scope c.env L) x = pure x) (hf0 : ∀ x, foldedSetIterable iter c.env x = pure x) (hf1 : ∀ L x, foldedSetIterable iter (cenvOf scope c.env L) x = pure x)
    (step : ∀ x ∈ l, ∀ L M O I, ∃ c₂ b, Tg (c.inner scope G L M O I) target (toD x) c₂ ∧ Over (c.inner scope G L M O I) c₂ ∧ EvIfs c₂ ifs b ∧ (b = true → Emits elt gs c₂ (F x)) ∧ (b = false → F x = []))
    (hsz : (l.flatMap F).length ≤ sizeLine) (rm : Room c.k A) (p : c.P s.heap)
    (hQ : ∀ (h₂ h' : Heap) tk, s.heap.get? h₂.objs.size = none → ¬ C.T h₂.objs.size → s.heap.get? (h₂.objs.size + 1) = none → ((c.comp scope G s.heap h₂).acc h₂.objs.size (l.flatMap F)).P h' →
      compPost (model C.prog C.w) A E use Q (.ref h₂.objs.size) (h₂.objs.size + 1) (.ok .next) { s with heap := h', toks := tk }) :
    wpAny (model C.prog C.w) A (comprehension (.ListComp elt (⟨target, iter, ifs, 0⟩ :: gs) scope pos) scope c.env cpos (newList []) false (eval iter c.env) use) Q E s := by
  refine wpAny_comprehension_free rfl hf0 (closureFor_closL hfree) hkind hnames (wpAny_mono (hi A s (fun it s₂ => wpAny (model C.prog C.w) A (newList []) (fun acc s₃ =>
      wpAny (model C.prog C.w) A (newFunctionEnv scope c.env.globals (closL c.env.cells scope.names []) [] c.env.qual none .none (some c.env)) (fun cenv s₄ =>
        codeAny (model C.prog C.w) A (.compStart (.ListComp elt (⟨target, iter, ifs, 0⟩ :: gs) scope pos) 0 it acc { cenv with scope := relabel scope c.env }) (compPost (model C.prog C.w) A E use Q acc cenv.locals) s₄) E s₃) E s₂) E rm p fun it h₂ tk₂ W St k₂ w₂ hW S st => ?_) (fun x s₁ h => h) fun _ _ e => e)
  refine wpAny_newObj_type (wpAny_newEnvComp ?_)
  have x2 : Ext C.T s.heap h₂ := fun b o t e => k₂ b o t e
  have w2 : Wf C c.M h₂ := w₂.less (fun _ => .inl) p.wf.tM
  have eB := fresh_of_ext x2 w2 (Nat.le_refl _)
  have eC := fresh_of_ext x2 w2 (Nat.le_succ _)
  have tB : ¬ C.T h₂.objs.size := fun t => w2.fresh (w2.tM _ t)
  have hz : (h₂.push { cls := .type "list", dict := none, data := .seq ([] : List Value).toArray }).objs.size = h₂.objs.size + 1 := Heap.size_push ..
  have pc := Ctx.P.comp (S := S) p k₂ w₂ hW st hkind caps
  have FF : Off (c.comp scope G s.heap h₂) W := by
    refine ⟨fun b hb hm => ?_, fun b t => .inl (p.wf.tM b t), ?_, fun x b e => ?_, fun b n => .inl n⟩
    · rcases hm with hm | hm
      · obtain ⟨o, e⟩ := p.wf.lt b hm; rw [(hW b hb).1] at e; cases e
      · obtain ⟨o, e⟩ := (hW b hb).2; exact absurd (Heap.lt_size e) (Nat.not_lt.mpr hm.1)
    · have := pc.at_.fM
      rcases this with q | q
      · exact q
      · obtain ⟨o, e⟩ := (hW _ q).2; exact absurd (Heap.lt_size e) (by show ¬ h₂.objs.size + 1 < h₂.objs.size; omega)
    · have := (pc.at_.cM x b e).1
      rcases this with q | q
      · exact q
      · -- a cell is no iterator
        have hb : b < h₂.objs.size := by obtain ⟨o, e⟩ := (hW _ q).2; exact Heap.lt_size e
        have e : (cellsFrom (h₂.objs.size + 1 + 1) scope.names (closL c.env.cells scope.names [])).lookup x = some b := e
        rw [cellsFrom_append] at e
        rcases lookup_append_cases e with e | e
        · have := ((compHeap_cells (h₂ := h₂) scope).empty x b e).2
          exact absurd (Nat.le_trans (Nat.le_add_right _ 2) this) (Nat.not_le.mpr hb)
        · exact .inl (p.at_.cM x b ((closL_lookup e).resolve_left (by intro q; cases q))).1
  have loop : codeAny (model C.prog C.w) A (.compLoop (.ListComp elt (⟨target, iter, ifs, 0⟩ :: gs) scope pos) 0 it (.ref h₂.objs.size) (c.comp scope G s.heap h₂).env) (compPost (model C.prog C.w) A E use Q (.ref h₂.objs.size) (h₂.objs.size + 1)) { s with heap := compHeap h₂ scope, toks := tk₂ } := by
    refine loop_emits (gs := gs) (target := target) (iter := iter) (ifs := ifs) rfl rfl (run_emits gs 1 rfl) ?_ ht ?_ (S := S) FF (A := A) (s := { s with heap := compHeap h₂ scope, toks := tk₂ }) (l₀ := []) (B := h₂.objs.size) rm rfl pc (by simpa using hsz) fun h' tk p' => hQ h₂ h' tk eB tB eC (by simpa using p')
    · intro g hg
      rcases List.mem_cons.mp hg with rfl | hg
      · exact ⟨rfl, hf1 _⟩
      · exact ⟨(hf g hg).1, (hf g hg).2 _⟩
    · intro x hx c' hin hG
      obtain ⟨k, M, env, G', O, cw, I⟩ := c'
      obtain ⟨e1, e2, e3, _, _⟩ := hin
      dsimp only at e1 e2 e3 hG
      subst e1 e2 e3 hG
      exact step x hx _ M O I
  have fin := compStart_at rfl loop fun E => S.self pc.x.2 loop
  rw [hz]
  exact fin

/-! others' objects set aside -/
def Inv.pad (I : Inv C) (W : ASet) : Inv C where
  N := fun b => I.N b ∨ W b
  X := I.X
  keep := fun x tM k => I.keep x tM fun b o t hb e => k b o t (hb.imp id .inl) e
  grow := I.grow
  anti := I.anti
def Ctx.pad (c : Ctx C) (W : ASet) : Ctx C := { c with M := fun b => c.M b ∨ W b, I := c.I.pad W }
theorem Ctx.P.unpad {W : ASet} (F : Off c W) (p : (c.pad W).P h) (k : ∀ b o, ¬ W b → h.get? b = some o → h'.get? b = some o) : c.P h' := by
  have kc : ∀ b o, c.M b → h.get? b = some o → h'.get? b = some o := fun b o hb e => k b o (fun q => F.w b q hb) e
  have hM : ∀ b, c.M b → (c.M b ∨ W b) := fun b => .inl
  have lW : ¬ W c.env.locals := fun q => F.w _ q F.l
  have cW : ∀ x b, c.env.cells.lookup x = some b → ¬ W b := fun x b e q => F.w _ q (F.ce x b e)
  have kM : ∀ b o, ¬ (c.M b ∨ W b) → h.get? b = some o → h'.get? b = some o := fun b o hb e => k b o (fun q => hb (.inr q)) e
  refine { at_ := ?_, loc := fun q => p.loc (.inl q), cel := fun x cw b e q => p.cel x cw b e (.inl q), o := ?_, nd := p.nd, nM := F.n, x := ?_ }
  · refine { p.at_ with wf := p.wf.drop hM F.t fun b o hb e => k b o (fun q => hb.elim (fun n => n (.inr q)) fun m => F.w b q m) e, fM := F.l, cM := fun y b e => ⟨F.ce y b e, (p.at_.cM y b e).2⟩, ns := ?_, cC := ?_, vars := ?_ }
    · obtain ⟨m, hn⟩ := p.at_.ns; exact ⟨m, hn.at fun o e => k _ o lW e⟩
    · intro x b e; obtain ⟨v, o, ho, hd⟩ := p.at_.cC x b e; exact ⟨v, o, k _ _ (cW x b e) ho, hd⟩
    · intro y d e
      obtain ⟨v, b, hv⟩ := p.at_.vars y d e
      exact ⟨v, b.at (fun o e => k _ o lW e) (fun cc hc o e => k _ o (cW y cc hc) e), (hv.keep kM).anti hM⟩
  · intro q hq
    have z := p.o q hq
    have hm : c.M q.1 := z.m.elim id fun n => absurd (Or.inr n) z.n
    exact ⟨(z.own.keep (fun o e => kc _ o hm e) kM).anti hM, hm, z.t, fun n => z.n (.inl n), z.l, z.c⟩
  · exact c.I.anti (c.I.keep p.x (fun b t => .inl (F.t b t)) fun b o t hb e => k b o (fun q => hb.elim (fun n => n (.inr q)) fun n => F.w b q (F.n b n)) e) hM
theorem Ctx.P.ownPad (p : c.P h) {a : Addr} {d : D} {W : ASet} (k : ∀ b o, ¬ C.T b → h.get? b = some o → h'.get? b = some o) (n : h.get? a = none) (nW : ∀ b, W b → h.get? b = none) (aW : ¬ W a) (w : Wf C (fun b => (c.M b ∨ b = a) ∨ W b) h') (ow : Owns C h' (fun b => (c.M b ∨ b = a) ∨ W b) a d) (t : ¬ C.T a) : ((c.own a d).pad W).P h' := by
  have x : Ext C.T h h' := fun b o t e => k b o t e
  have p' := p.ext x (w.less (fun _ q => .inl (.inl q)) p.wf.tM)
  have tM := p.wf.tM
  have nM : ∀ {b}, h.get? b = none → ¬ c.M b := fun n hm => by obtain ⟨o, e⟩ := p.wf.lt _ hm; rw [n] at e; cases e
  have gr : ∀ b o, ((c.M b ∨ b = a) ∨ W b) → ¬ c.M b → h.get? b = some o → False := fun b o hb hn e => by
    rcases hb with (hb | hb) | hb
    · exact hn hb
    · rw [hb, n] at e; cases e
    · rw [nW b hb] at e; cases e
  have kM : ∀ b o, ¬ ((c.M b ∨ b = a) ∨ W b) → h.get? b = some o → h'.get? b = some o := fun b o hb e => k b o (fun t => hb (.inl (.inl (tM b t)))) e
  refine { at_ := ?_, loc := fun q => q.elim p.loc fun q => nM (nW _ q) p.at_.fM, cel := fun y cw b e q => q.elim (p.cel y cw b e) fun q => nM (nW _ q) (p.at_.cM y b e).1, o := ?_, nd := ?_, nM := fun b hb => hb.elim (fun q => .inl (.inl (p.nM b q))) .inr, x := ?_ }
  · refine { p'.at_ with wf := w, fM := .inl (.inl p.at_.fM), cM := fun y b e => ⟨.inl (.inl (p.at_.cM y b e).1), (p.at_.cM y b e).2⟩, vars := ?_ }
    intro y d e
    obtain ⟨v, b, hv⟩ := p.at_.vars y d e
    exact ⟨v, b.at (fun o e => k _ o p.at_.fT e) (fun cc hc o e => k _ o (p.at_.cM y cc hc).2.1 e), (hv.grow gr).keep kM⟩
  · intro q hq
    rcases List.mem_cons.mp hq with rfl | hq
    · exact ⟨ow, .inl (.inr rfl), t, fun q => q.elim (fun q => nM n (p.nM _ q)) aW, fun (q : a = c.env.locals) => nM n (q ▸ p.at_.fM), fun y b e (q : a = b) => nM n (q ▸ (p.at_.cM y b e).1)⟩
    · have z := p.o q hq
      exact ⟨(z.own.grow gr).keep (fun o e => k _ o z.t e) kM, .inl (.inl z.m), z.t, fun q => q.elim z.n fun q => nM (nW _ q) z.m, z.l, z.c⟩
  · show ((a :: c.O.map (·.1))).Nodup
    refine List.nodup_cons.mpr ⟨fun hm => ?_, p.nd⟩
    obtain ⟨q, hq, e⟩ := List.mem_map.mp hm
    exact nM n (e ▸ (p.o q hq).m)
  · exact c.I.keep (c.I.grow p.x tM gr) (fun b t => .inl (.inl (tM b t))) fun b o t _ e => k b o t e

theorem EvF.comp {elt : Expr} {target iter : Expr} {ifs : List Expr} {gs : List Comprehension} {scope : Scope} {pos : Pos} {tg : Expr → Prop} {α : Type} (l : List α) (toD : α → D) (F : α → List D) (G : List (Str × D))
    (hi : EvI c iter (l.map toD) tg) (ht : tg target) (caps : Caps c scope G)
    (step : ∀ x ∈ l, ∀ L M O I, ∃ c₂ b, Tg (c.inner scope G L M O I) target (toD x) c₂ ∧ Over (c.inner scope G L M O I) c₂ ∧ EvIfs c₂ ifs b ∧ (b = true → Emits elt gs c₂ (F x)) ∧ (b = false → F x = []))
    (hsz : (l.flatMap F).length ≤ sizeLine) (hkind : scope.kind = .function := by rfl) (hnames : ∀ x ∈ scope.names, x.2 = .local → scope.names.lookup x.1 = some .local := by decide)
    (hfree : ∀ x ∈ scope.names, x.2 = .free → (c.env.cells.lookup x.1).isSome = true := by intro x hx; revert hx; simp only [List.mem_cons, List.not_mem_nil, or_false]; rintro (rfl | hx) <;> simp)
    (hf : ∀ g ∈ gs, g.is_async = 0 ∧ ∀ L x, foldedSetIterable g.iter (cenvOf scope c.env L) x = pure x) (hf0 : ∀ x, foldedSetIterable iter c.env x = pure x := by intro _; rfl) (hf1 : ∀ L x, foldedSetIterable iter (cenvOf scope c.env L) x = pure x := by intro _ _; rfl) :
    EvF c (.ListComp elt (⟨target, iter, ifs, 0⟩ :: gs) scope pos) (.lst (l.flatMap F)) := by
  intro A s Q E rm p hQ
  rw [eval_ListComp]
  refine comp_core hi ht caps hkind hnames hfree hf hf0 hf1 step hsz rm p fun h₂ h' tk eB tB eC p' => ?_
  refine ⟨_, p'.at_.ns.choose_spec, fun h'' sb => ?_⟩
  obtain ⟨a1, a2, a3⟩ := comp_leaves p eB tB eC p' sb
  exact hQ _ _ _ a1 eB a2 a3 tB
theorem Ex1.assignComp {x : Str} {px spos : Pos} {elt : Expr} {target iter : Expr} {ifs : List Expr} {gs : List Comprehension} {scope : Scope} {pos : Pos} {tg : Expr → Prop} {α : Type} (l : List α) (toD : α → D) (F : α → List D) (G : List (Str × D))
    (hi : EvI c iter (l.map toD) tg) (ht : tg target) (caps : Caps c scope G)
    (step : ∀ x ∈ l, ∀ L M O I, ∃ c₂ b, Tg (c.inner scope G L M O I) target (toD x) c₂ ∧ Over (c.inner scope G L M O I) c₂ ∧ EvIfs c₂ ifs b ∧ (b = true → Emits elt gs c₂ (F x)) ∧ (b = false → F x = []))
    (hsz : (l.flatMap F).length ≤ sizeLine) (w : c.env.kindOf x = some .local) (hr : ∀ a h, ((c.own a (.lst (l.flatMap F))).set x (.ptr a)).P h → R .next h)
    (hsw : swapsWith (.ListComp elt (⟨target, iter, ifs, 0⟩ :: gs) scope pos) (some (.Name x px)) spos.line c.env = pure true)
    (hkind : scope.kind = .function := by rfl) (hnames : ∀ x ∈ scope.names, x.2 = .local → scope.names.lookup x.1 = some .local := by decide)
    (hfree : ∀ x ∈ scope.names, x.2 = .free → (c.env.cells.lookup x.1).isSome = true)
    (hf : ∀ g ∈ gs, g.is_async = 0 ∧ ∀ L x, foldedSetIterable g.iter (cenvOf scope c.env L) x = pure x) (hf0 : ∀ x, foldedSetIterable iter c.env x = pure x := by intro _; rfl) (hf1 : ∀ L x, foldedSetIterable iter (cenvOf scope c.env L) x = pure x := by intro _ _; rfl) :
    Ex1 c (.Assign [.Name x px] (.ListComp elt (⟨target, iter, ifs, 0⟩ :: gs) scope pos) spos) R := by
  intro A s Q E rm p hQ
  rw [exec_Assign_Name_used _ _ _ _ hsw]
  refine wpAny_bind (wpAny_standAt (wpAny_bind ?_))
  show wpAny _ A (do let _ ← comprehension (.ListComp elt (⟨target, iter, ifs, 0⟩ :: gs) scope pos) scope c.env _ (newList []) false (eval iter c.env) (some (PySem.assign (.Name x px) c.env))) _ _ s
  refine wpAny_bind (wpAny_mono (comp_core (use := some (PySem.assign (.Name x px) c.env)) (Q := fun _ s' => Q .next s') (E := E) hi ht caps hkind hnames hfree hf hf0 hf1 step hsz rm p fun h₂ h' tk eB tB eC p' => ?_) (fun _ s' hq => wpAny_pure (wpAny_pure hq)) fun _ _ e => e)
  -- the list is stored while the comprehension's names still stand
  have z := p'.o _ (List.mem_singleton.mpr rfl)
  have hL : ((c.comp scope G s.heap h₂).acc h₂.objs.size (l.flatMap F)).M (h₂.objs.size + 1) := p'.at_.fM
  have sub : ∀ b, ((c.M b ∨ b = h₂.objs.size) ∨ b = h₂.objs.size + 1) → ((c.comp scope G s.heap h₂).acc h₂.objs.size (l.flatMap F)).M b := fun b hb => by
    rcases hb with (hb | hb) | hb
    · exact .inl hb
    · subst hb; exact z.m
    · subst hb; exact hL
  have pp : ((c.own h₂.objs.size (.lst (l.flatMap F))).pad (fun b => b = h₂.objs.size + 1)).P h' :=
    p.ownPad (fun b o t e => p'.x.1 b o t (fun q => q) e) eB (fun b hb => hb ▸ eC) (by simp) (p'.wf.less sub fun b t => .inl (.inl (p.wf.tM b t))) (z.own.anti sub) tB
  have FF : Off (c.own h₂.objs.size (.lst (l.flatMap F))) (fun b => b = h₂.objs.size + 1) := by
    have nC : ¬ c.M (h₂.objs.size + 1) := fun hm => by obtain ⟨o, e⟩ := p.wf.lt _ hm; rw [eC] at e; cases e
    refine ⟨fun b hb hm => ?_, fun b t => .inl (p.wf.tM b t), .inl p.at_.fM, fun y b e => .inl (p.at_.cM y b e).1, fun b n => .inl (p.nM b n)⟩
    subst hb
    exact hm.elim nC (by simp)
  have hns : ∃ m, h'.Ns (h₂.objs.size + 1) m := p'.at_.ns
  show wpAny _ A (PySem.assign (.Name x px) c.env (.ref h₂.objs.size)) _ _ _
  refine wpAny_assign_Name (wpAny_storeN (c := (c.own h₂.objs.size (.lst (l.flatMap F))).pad (fun b => b = h₂.objs.size + 1)) (s := { s with heap := h', toks := tk }) pp (.inl w) (.ptr h₂.objs.size) fun h₃ tk₃ p₃ k₃ => ?_)
  obtain ⟨m, hm⟩ := hns
  refine ⟨m, hm.at fun o e => k₃ _ o (.inr (.inr rfl)) e, fun h₄ sb => hQ _ _ _ (hr h₂.objs.size h₄ ?_)⟩
  have FF' : Off ((c.own h₂.objs.size (.lst (l.flatMap F))).set x (.ptr h₂.objs.size)) (fun b => b = h₂.objs.size + 1) := ⟨FF.w, FF.t, FF.l, FF.ce, FF.n⟩
  exact Ctx.P.unpad FF' p₃ fun b o hb e => (sb.2 b hb).trans e
end
end Mine
end
section
open PySem PySem.W PySem.Calls PyProof.Rows
namespace Mine
section
variable {C : Cfg} {c : Ctx C} {h h₂ h' : Heap} {rest : List Stmt} {R : Flow → Heap → Prop}

theorem len1 {α : Type} {vs : List α} (h : vs.length = 1) : ∃ a, vs = [a] := by
  match vs, h with
  | [a], _ => exact ⟨a, rfl⟩
theorem len2 {α : Type} {vs : List α} (h : vs.length = 2) : ∃ a b, vs = [a, b] := by
  match vs, h with
  | [a, b], _ => exact ⟨a, b, rfl⟩
theorem len3 {α : Type} {vs : List α} (h : vs.length = 3) : ∃ a b c, vs = [a, b, c] := by
  match vs, h with
  | [a, b, c], _ => exact ⟨a, b, c, rfl⟩
theorem len5 {α : Type} {vs : List α} (h : vs.length = 5) : ∃ a b c d e, vs = [a, b, c, d, e] := by
  match vs, h with
  | [a, b, c, d, e], _ => exact ⟨a, b, c, d, e, rfl⟩
/-! functions of the text -/
def Fn (C : Cfg) (k : Nat) (fa : Addr) (ds : List D) (d : D) : Prop :=
  ∀ (M : ASet) (A : Around) (s : Shared) (Q : Value → Shared → Prop) (E : Value → Shared → Prop) (vs : List Value), Room k A → Wf C M s.heap → HasL C s.heap M vs ds →
    (∀ v h' tk, Ext C.T s.heap h' → Wf C M h' → Has C h' M v d → Q v { s with heap := h', toks := tk }) → wpAny (model C.prog C.w) A (call (.ref fa) vs) Q E s
/-- what an activation hands back -/
def RetR (I : Inv C) (d : D) : Flow → Heap → Prop := fun f h => ∃ v M, (f = .ret v ∨ (f = .next ∧ v = .none)) ∧ Wf C M h ∧ (∀ b, I.N b → M b) ∧ I.X M h ∧ Has C h M v d
theorem RetR.of {v : Value} {d : D} (p : c.P h) (hv : Has C h c.M v d) : RetR c.I d (.ret v) h := ⟨v, c.M, .inl rfl, p.wf, p.nM, p.x, hv⟩
def fctx (C : Cfg) (k : Nat) (fd : FuncData) (fa L : Addr) (M : ASet) (G : List (Str × D)) (I : Inv C) : Ctx C := ⟨k, M, callEnvC fd L fa, G, [], fun _ => true, I⟩

theorem bindL_other {kindOf : Str → Option NameKind} {x : Str} : ∀ {bs : List (Str × Value)} {m : Str → Option Value}, (∀ p ∈ bs, p.1 ≠ x) → bindL kindOf bs m x = m x
  | [], m, _ => rfl
  | (n, v) :: r, m, hn => by
    unfold bindL
    rw [bindL_other fun p hp => hn p (List.mem_cons_of_mem _ hp)]
    split
    · exact if_neg (Ne.symm (hn (n, v) List.mem_cons_self))
    · rfl
theorem bindC_other {kindOf : Str → Option NameKind} {x : Str} : ∀ {bs : List (Str × Value)} {m : Str → Option Value}, (∀ p ∈ bs, p.1 ≠ x) → bindC kindOf bs m x = m x
  | [], m, _ => rfl
  | (n, v) :: r, m, hn => by
    unfold bindC
    rw [bindC_other fun p hp => hn p (List.mem_cons_of_mem _ hp)]
    split
    · rfl
    · exact if_neg (Ne.symm (hn (n, v) List.mem_cons_self))
theorem bind_at {kindOf : Str → Option NameKind} {x : Str} {v : Value} : ∀ {bs : List (Str × Value)} {m m' : Str → Option Value}, (bs.map (·.1)).Nodup → (x, v) ∈ bs → (kindOf x = some .local → bindL kindOf bs m x = some v) ∧ (kindOf x ≠ some .local → bindC kindOf bs m' x = some v)
  | [], m, m', _, hm => by cases hm
  | (n, u) :: r, m, m', hn, hm => by
    rw [List.map_cons, List.nodup_cons] at hn
    rcases List.mem_cons.mp hm with e | hm
    · cases e
      have no : ∀ p ∈ r, p.1 ≠ x := fun p hp q => hn.1 (q ▸ List.mem_map.mpr ⟨p, hp, rfl⟩)
      refine ⟨fun hk => ?_, fun hk => ?_⟩
      · unfold bindL; rw [bindL_other no, if_pos hk]; exact if_pos rfl
      · unfold bindC; rw [bindC_other no, if_neg hk]; exact if_pos rfl
    · have ih := fun m m' => bind_at (kindOf := kindOf) (m := m) (m' := m') hn.2 hm
      refine ⟨fun hk => ?_, fun hk => ?_⟩
      · unfold bindL; exact (ih _ m').1 hk
      · unfold bindC; exact (ih m _).2 hk
theorem zip_has {M : ASet} : ∀ {names : List Str} {vs : List Value} {ds : List D} {x : Str} {d : D}, HasL C h M vs ds → (names.zip ds).lookup x = some d → ∃ v, (x, v) ∈ names.zip vs ∧ Has C h M v d
  | [], vs, ds, x, d, _, e => by simp at e
  | n :: ns, _, _, x, d, .nil, e => by simp at e
  | n :: ns, v :: vs, dd :: ds, x, d, .cons a b, e => by
    rw [List.zip_cons_cons, lookup_cons_if] at e
    by_cases q : x = n
    · rw [if_pos q] at e; cases e; subst q; exact ⟨v, List.mem_cons_self, a⟩
    · rw [if_neg q] at e
      obtain ⟨v', hm, hv⟩ := zip_has b e
      exact ⟨v', List.mem_cons_of_mem _ hm, hv⟩

theorem Fn.mk {k : Nat} {fa : Addr} {ds : List D} {d : D} {fd : FuncData} {body : List Stmt} {names : List Str} {o oc : Obj} {ca : Addr} {cvs : Array Value} {ct : Tok} (ho : C.K.lookup fa = some o) (hdata : o.data = .func fd) (hbody : fd.body = .stmts body) (hco : fd.code = .ref ca) (hcl : C.K.lookup ca = some oc) (hcd : oc.data = .fields cvs) (hcn : cvs[1]? = some (.str fd.qualname ct))
    (hbind : ∀ vs : List Value, vs.length = ds.length → bindArgs fd ⟨vs, []⟩ = pure (names.zip vs)) (hlen : names.length = ds.length) (hnd : names.Nodup)
    (hkinds : ∀ x ∈ names, fd.scope.names.lookup x = some .local ∨ (fd.scope.names.lookup x = some .cell ∧ ∀ n, ((cellsFrom n fd.scope.names []).lookup x).isSome = true))
    (hx : ∀ L M I, Ex (fctx C k fd fa L M (names.zip ds) I) body (RetR I d))
    (hclo : fd.closure = [] := by rfl) (hgl : fd.globals = mainGlobals := by rfl) (hbn : fd.builtins = builtinsNs := by rfl) (hco2 : fd.scope.isCoroutine = false := by rfl) (hgen : fd.scope.isGenerator = false := by rfl) (hkind : fd.scope.kind = .function := by rfl) : Fn C (k + 1) fa ds d := by
  intro M A s Q E vs rm w hv hQ
  have hk := w.k fa o ho
  have hvl : vs.length = ds.length := hv.length
  have hbl : ∀ x ∈ names.zip vs, x.1 ∈ names := fun x hx => (List.of_mem_zip hx).1
  refine wpAny_call (codeAny_call_cells (by have := rm.dp; omega) hk.1 hdata w.nl ⟨ca, oc, cvs, ct, hco, (w.k ca oc hcl).1, hcd, hcn⟩ hbody (hbind vs hvl) hclo (fun x hx => (hkinds x.1 (hbl x hx)).imp id fun q => ⟨q.1, q.2 _⟩) (fun s₁ x => ?_) hco2 hgen hkind)
  obtain ⟨h₁, tk₁, rfl⟩ := x.toInCall.same
  have keep := x.toInCall.keep
  have newM : ∀ b, s.heap.objs.size ≤ b → ¬ M b := fun b hb hm => w.freshT hb hm
  have liveL : ∃ o, h₁.get? s.heap.objs.size = some o := by obtain ⟨o, _, _, e, _⟩ := x.toInCall.ns; exact ⟨o, e⟩
  have cel : ∀ y b, (callEnvC fd s.heap.objs.size fa).cells.lookup y = some b → s.heap.objs.size < b ∧ ∃ v, h₁.IsCell b v := fun y b e => ⟨x.above y b (mem_of_lookup e), _, x.cell y b e⟩
  have w₁ : Wf C (fun b => M b ∨ (s.heap.objs.size ≤ b ∧ ∃ o, h₁.get? b = some o)) h₁ := w.wider keep fun b hb => hb
  have tn : ∀ b, s.heap.objs.size ≤ b → ¬ C.T b := fun b hb t => newM b hb (w.tM b t)
  have gr : ∀ b o, (M b ∨ (s.heap.objs.size ≤ b ∧ ∃ o, h₁.get? b = some o)) → ¬ M b → s.heap.get? b = some o → False := fun b o hb hn e => absurd (Heap.lt_size e) (Nat.not_lt.mpr (hb.resolve_left hn).1)
  have hmapz : ((names.zip vs).map (·.1)).Nodup := by
    rw [List.map_fst_zip (by omega)]; exact hnd
  have pB : (fctx C k fd fa s.heap.objs.size (fun b => M b ∨ (s.heap.objs.size ≤ b ∧ ∃ o, h₁.get? b = some o)) (names.zip ds) (Inv.base C s.heap M fun _ => False)).P h₁ := by
    refine { at_ := { wf := w₁, kind := hkind, gl := hgl, bn := hbn, ns := ⟨_, x.toInCall.ns⟩, fM := .inr ⟨Nat.le_refl _, liveL⟩, fT := tn _ (Nat.le_refl _), cM := ?_, cA := ?_, cC := fun y b e => (cel y b e).2, vars := ?_ }, loc := newM _ (Nat.le_refl _), cel := ?_, o := (fun q hq => by cases hq), nd := List.nodup_nil, nM := fun b hb => .inl hb, x := ⟨fun b o _ _ e => keep b o e, ?_⟩ }
    · intro y b e
      obtain ⟨h1, v, o, ho, _⟩ := cel y b e
      exact ⟨.inr ⟨Nat.le_of_lt h1, o, ho⟩, tn b (Nat.le_of_lt h1), Nat.ne_of_gt h1⟩
    · intro y y' b e e'
      exact name_of_addr x.apart (mem_of_lookup e) (mem_of_lookup e')
    · intro y dy e
      obtain ⟨v, hm, hv'⟩ := zip_has hv e
      have hyn : y ∈ names := (List.of_mem_zip hm).1
      have bb := bind_at (kindOf := (callEnvC fd s.heap.objs.size fa).kindOf) (m := fun _ => none) (m' := fun _ => none) hmapz hm
      refine ⟨v, ?_, (hv'.grow gr).keep fun b o hb e => keep b o e⟩
      rcases hkinds y hyn with hl | ⟨hc, hs⟩
      · exact .inl ⟨hl, _, x.toInCall.ns, bb.1 hl⟩
      · obtain ⟨b, hb⟩ := Option.isSome_iff_exists.mp (hs (s.heap.objs.size + 1))
        have hc' : (callEnvC fd s.heap.objs.size fa).kindOf y = some .cell := hc
        refine .inr ⟨.inl hc', b, hb, ?_⟩
        have := x.cell y b hb
        rw [bb.2 (by rw [hc']; simp)] at this
        exact this
    · intro y _ b e q
      exact newM b (Nat.le_of_lt (cel y b e).1) q
    · intro b hb hn t _
      exact get_none_of_le (hb.resolve_left hn).1
  have rm' : Room k (A.deeper (callEnvC fd s.heap.objs.size fa)) := ⟨rm.hh, by have := rm.dp; show A.depth + 1 + k < _; omega, by have := rm.un; show A.units + 3 + 8 * k + 8 < _; omega⟩
  refine hx _ _ _ _ { s with heap := h₁, toks := tk₁ } _ _ rm' pB fun f h' tk hr => ?_
  obtain ⟨v, M', hf, wf', hN, hX, hv'⟩ := hr
  have fin := hQ v h' tk (fun b o t e => hX.1 b o t (fun q => q) e) (wf'.less hN w.tM) (hv'.anti hN)
  rcases hf with rfl | ⟨rfl, rfl⟩
  · exact fin
  · exact fin

/-- a def of the text, by its global name -/
def Gl (C : Cfg) (env : Env) (x : Str) (fa : Addr) : Prop := nsIn C.K mainGlobals x = some (some (.ref fa)) ∧ env.kindOf x = some .globalImplicit ∧ (x == ("__debug__" : Str)) = false ∧ ∃ o fd, C.K.lookup fa = some o ∧ o.data = .func fd
theorem Ev.callF {x : Str} {np pos : Pos} {es : List Expr} {ds : List D} {d : D} {k : Nat} {fa : Addr} (b : Gl C c.env x fa) (hfn : Fn C k fa ds d) (hk : k ≤ c.k) (hes : EvA c es ds) : Ev c (.Call (.Name x np) es [] pos) d := by
  intro A s Q E rm p hQ
  obtain ⟨b1, b2, b3, o, fd, b4, b5⟩ := b
  show wpAny _ A (do callWith pos (← eval (.Name x np) c.env) [] (backTo pos (starEach es c.env)) []) Q E s
  refine wpAny_bind (Calls.Name_function_global p.at_.kind b2 (Calls.loadGlobal_global (by rw [p.at_.gl]; exact p.wf.g) (p.wf.glob b1) ?_) b3)
  refine Calls.callWith_function (o := o) (fd := fd) ?_
  refine hes A s _ E pos _ rm p fun vs h₁ tk₁ x₁ w₁ g₁ => ⟨⟨(w₁.k fa o b4).1, b5⟩, ?_⟩
  exact hfn c.M A { s with heap := h₁, toks := tk₁ } Q E vs (rm.less hk) w₁ g₁ fun v h₂ tk₂ x₂ w₂ g₂ => hQ _ _ _ (x₁.trans x₂) w₂ g₂
end
end Mine
end
section
open PySem PySem.W PySem.Calls PyProof.Rows
namespace Mine
section
variable {C : Cfg} {c : Ctx C} {h h₂ h' : Heap} {rest : List Stmt} {R : Flow → Heap → Prop}

theorem Wf.big {M : ASet} (w : Wf C M h) : sysModules < h.objs.size := by
  obtain ⟨o, _, _, ho, _⟩ := w.g
  have := Heap.lt_size ho
  exact Nat.lt_trans (by decide) this

/-! dicts made -/
theorem DictIs.new {M : ASet} (h : Heap) : DictIs C (h.push { cls := .type "dict", data := .dict #[] }) M h.objs.size [] := ⟨[], Heap.DictOfH.new h, by simp, by simp, rfl⟩
theorem EvF.dict {pos : Pos} : EvF c (.Dict [] [] pos) (.dic []) := by
  intro A s Q E rm p hQ
  refine wpAny_Dict_empty (hQ _ _ s.toks (fun b o t e => Heap.get?_push_of_some _ e) (get_none_of_le (Nat.le_refl _)) (p.wf.wider1 _ rfl) ⟨DictIs.new _, ?_⟩ fun t => p.wf.fresh (p.wf.tM _ t))
  exact Nat.ne_of_gt p.wf.big
/-- an object that no fact speaks of is written -/
theorem wf_same {M : ASet} {a : Addr} (w : Wf C M h) (sb : Heap.SameBut a h h') (hM : ¬ M a) (hg : a ≠ mainGlobals) (hc : a ≠ cStatics) (hk : C.K.lookup a = none) (hb : ∀ o, h.get? a = some o → o.cls ≠ .type "module") (hf : ∀ o, h.get? a = some o → ∀ vs, o.data ≠ .fields vs) : Wf C M h' := by
  have kT : ∀ b o, C.T b → h.get? b = some o → h'.get? b = some o := fun b o t e => (sb.2 b fun q => hM (q ▸ w.tM b t)).trans e
  exact {
    tM := w.tM
    lt := fun b hm => let ⟨o, e⟩ := w.lt b hm; ⟨o, (sb.2 b fun q => hM (q ▸ hm)).trans e⟩
    g := w.g.at fun o e => (sb.2 _ (Ne.symm hg)).trans e
    gM := w.gM
    b := w.b.at fun o e => kT _ o (.inr rfl) e
    b0 := kT _ _ (.inr rfl) w.b0
    bi := w.bi
    nl := let ⟨mc, x, y⟩ := w.nl; ⟨mc, x.at fun o e => (sb.2 _ (Ne.symm hc)).trans e, y⟩
    nM := w.nM
    k := fun b o e => ⟨(sb.2 b fun q => by rw [q, hk] at e; cases e).trans (w.k b o e).1, (w.k b o e).2⟩
    bt := let ⟨bm, o, a1, a2, a3, a4, a5, a6, a7, a8⟩ := w.bt; ⟨bm, o, a1, a2, a3, (sb.2 _ fun q => hb o (q ▸ a4) a5).trans a4, a5, a6, a7, a8⟩
    tab := fun q hq => by
      obtain ⟨h0, h1, h2, h3⟩ := w.tab q hq
      have hT : C.T q.2.1 := .inl ⟨q, hq, rfl⟩
      refine ⟨h0, h1, codeHd_at h2 fun o e => (sb.2 _ fun z => ?_).trans e, ?_⟩
      · obtain ⟨o', vs, file, tf, flags, tg, inF, text, tt, e', _, dd, r⟩ := h2
        exact hf o' (z ▸ e') vs dd
      · rcases h3 with h3 | ⟨c', n1, n2, n3⟩
        · exact .inl (kT _ _ hT h3)
        · refine .inr ⟨c', n1, kT _ _ hT n2, CodeRec_at n3 fun o e => (sb.2 _ fun z => ?_).trans e⟩
          obtain ⟨c₂, o₂, vs, t, e1, g, d, r⟩ := n3
          cases e1
          exact hf o₂ (z ▸ g) vs d }
theorem Ev.dict1 {ke ve : Expr} {pos : Pos} {k : List Atom} {i : Int} (hk : Ev c ke (tupOf k)) (hv : Ev c ve (.int i)) (hpt : ∃ f, pairTrees [some ke] [ve] c.env pos = [(eval ke c.env, f)] ∧ ∀ (A : Around) (s : Shared) (Q : Value → Shared → Prop) (E : Value → Shared → Prop), wpAny (model C.prog C.w) A (eval ve c.env) Q E s → wpAny (model C.prog C.w) A f Q E s) :
    Ev c (.Dict [some ke] [ve] pos) (.dic [(k, i)]) := by
  intro A s Q E rm p hQ
  obtain ⟨f, hf, hfe⟩ := hpt
  refine wpAny_Dict_any (by rfl) (by rfl) (by simp) (by simp) ?_
  rw [hf]
  have w0 := p.wf.push { cls := .type "dict", data := .dict #[] }
  have p0 := p.ext (Ext.push C.T s.heap { cls := .type "dict", data := .dict #[] }) w0
  have nT : ¬ C.T s.heap.objs.size := fun t => p.wf.fresh (p.wf.tM _ t)
  refine evalPairs_cons (hk A { s with heap := s.heap.push { cls := .type "dict", data := .dict #[] } } _ E rm p0 fun kv h₁ tk₁ x₁ w₁ g₁ => hfe _ _ _ _ ?_)
  refine hv A { s with heap := h₁, toks := tk₁ } _ E rm (p0.ext x₁ w₁) fun vv h₂ tk₂ x₂ w₂ g₂ => evalPairs_nil ?_
  obtain ⟨a, rfl, ha, hkey⟩ := key_of (g₁.ext x₂ w₂)
  (first | obtain ⟨_, rfl⟩ := Has.int_inv g₂ | obtain rfl := Has.bool_inv g₂ | obtain rfl := Has.ptr_inv g₂ | obtain rfl := HasL.nil_inv g₂ | obtain rfl := Has.none_inv g₂ | cases g₂)
  rename_i t
  have dk : ∀ o, (s.heap.push { cls := .type "dict", data := .dict #[] }).get? s.heap.objs.size = some o → h₂.get? s.heap.objs.size = some o := fun o e => x₂ _ _ nT (x₁ _ _ nT e)
  have hd : h₂.DictOfH (tkind C.prog C.w) s.heap.objs.size [] := ⟨_, #[], 0, dk _ (Heap.get?_push_size _ rfl), ⟨rfl, rfl, rfl⟩, rfl, rfl, fun _ hx => by simp at hx, List.nodup_nil⟩
  unfold storeAll
  rw [List.forIn_cons]
  refine wpAny_bind (wpAny_bind (wpAny_dictSet_heap (knd := tkind C.prog C.w) (s := { s with heap := h₂, toks := tk₂ }) rm.u hkey hd (hsz := by simp) (fun h' hd' sb => wpAny_pure ?_)))
  dsimp only
  rw [List.forIn_nil]
  refine wpAny_pure ?_
  replace sb : Heap.SameBut s.heap.objs.size h₂ h' := sb
  have kk : ∀ b o, b ≠ s.heap.objs.size → h₂.get? b = some o → h'.get? b = some o := fun b o hb e => (sb.2 b hb).trans e
  -- the dict itself is nobody's: what is known of the heap before it stays
  have xx : Ext C.T s.heap h' := fun b o t e => kk b o (Nat.ne_of_lt (Heap.lt_size e)) (x₂ b o t (x₁ b o t (Heap.get?_push_of_some _ e)))
  have lvD : ∃ o, h'.get? s.heap.objs.size = some o := by obtain ⟨o, _, _, ho, _⟩ := hd'; exact ⟨o, ho⟩
  have obj : ∀ o, h₂.get? s.heap.objs.size = some o → o.cls = .type "dict" ∧ ∀ vs, o.data ≠ .fields vs := fun o e => by
    have := dk _ (Heap.get?_push_size _ rfl)
    rw [this] at e; cases e
    exact ⟨rfl, fun vs q => by cases q⟩
  have w' : Wf C c.M h' := by
    refine wf_same w₂ sb p.wf.fresh ?_ ?_ ?_ (fun o e q => by rw [(obj o e).1] at q; exact absurd q (by decide)) fun o e => (obj o e).2
    · intro q
      obtain ⟨o, _, _, ho, _⟩ := p.wf.g
      rw [← q] at ho; exact Nat.lt_irrefl _ (Heap.lt_size ho)
    · intro q
      obtain ⟨mc, ⟨o, _, _, ho, _⟩, _⟩ := p.wf.nl
      rw [← q] at ho; exact Nat.lt_irrefl _ (Heap.lt_size ho)
    · cases e : C.K.lookup s.heap.objs.size with
      | none => rfl
      | some o => exact absurd (Heap.lt_size (p.wf.k _ _ e).1) (Nat.lt_irrefl _)
  refine hQ _ _ _ xx w' (.dic p.wf.fresh (Nat.ne_of_gt p.wf.big) ⟨_, hd', ?_, ?_, rfl⟩)
  · intro y hy
    simp [storedH, atKey] at hy
    subst hy; exact ha
  · intro y hy
    simp [storedH, atKey] at hy
    subst hy; exact ⟨i, t, rfl, trivial⟩

/-! methods of values that are known -/
theorem wpAny_method {A : Around} {s : Shared} {Q : Value → Shared → Prop} {E : Value → Shared → Prop} {o : Expr} {name : Str} {T id : String} {apos pos : Pos} {es : List Expr} {d : D} {ds : List D} (p : c.P s.heap) (rm : Room c.k A)
    (ho : Ev c o d) (hT : ∀ h v, Has C h c.M v d → ∀ a, v = .ref a → ∃ ob, h.get? a = some ob ∧ ob.dict = Option.none) (hT2 : ∀ (s' : Shared) v, Has C s'.heap c.M v d → s'.TypeIs v T) (pa : PlainAttrs T) (slot : Slot T name id) (hty : typeOf (.builtin id) = pure (.type "method_descriptor")) (hes : EvA c es ds)
    (h : ∀ v vs h₁ tk, Ext C.T s.heap h₁ → Wf C c.M h₁ → c.P h₁ → Has C h₁ c.M v d → HasL C h₁ c.M vs ds → wpAny (model C.prog C.w) A (call (.builtin id) (v :: vs)) Q E { s with heap := h₁, toks := tk })
    (hbase : attributeBase o name c.env (eval o c.env) = eval o c.env)
    (hfew : ((backTo pos (starEach es c.env)).all (fun x => !x.1) && (backToKw pos (keywordEach [] c.env)).all (fun x => x.1.isSome)
      && decide (es.length + ([] : List Keyword).length + (if ([] : List Keyword).isEmpty then 0 else 1) < 30)) = true)
    (hline : (apos.endLine == pos.line) = true)
    (hany : (backTo pos (starEach es c.env)).any (·.1) = false) :
    wpAny (model C.prog C.w) A (eval (.Call (.Attribute o name apos) es [] pos) c.env) Q E s := by
  refine wpAny_Call_method hbase hfew hline pa slot hty (ho A s _ E rm p fun v h₁ tk₁ x₁ w₁ g₁ => ?_)
  have p1 := p.ext x₁ w₁
  refine ⟨hT2 { s with heap := h₁, toks := tk₁ } v g₁, hT h₁ v g₁, ?_⟩
  refine Calls.callWith_builtin hany ?_
  refine hes A { s with heap := h₁, toks := tk₁ } _ E pos _ rm p1 fun vs h₂ tk₂ x₂ w₂ g₂ => ?_
  exact h v vs h₂ tk₂ (x₁.trans x₂) w₂ (p1.ext x₂ w₂) (g₁.ext x₂ w₂) g₂
theorem Has.dicT {M : ASet} {es : ES} {s' : Shared} {v : Value} (g : Has C s'.heap M v (.dic es)) : s'.TypeIs v "dict" := by
  have q9 := Has.dic_inv g; clear g; obtain ⟨_, rfl, ha, hs, hD⟩ := q9
  obtain ⟨xs, hd, _⟩ := hD; exact hd.typeIs
theorem Has.dicO {M : ASet} {es : ES} {v : Value} (g : Has C h M v (.dic es)) : ∀ a, v = .ref a → ∃ ob, h.get? a = some ob ∧ ob.dict = Option.none := by
  have g' := g
  have q9 := Has.dic_inv g; clear g; obtain ⟨_, rfl, ha, hs, hD⟩ := q9
  obtain ⟨xs, ⟨o, _, _, ho, hc, _⟩, _⟩ := hD
  exact fun a e => by cases e; exact ⟨o, ho, hc.2.1⟩
theorem call_items {A : Around} {s : Shared} {Q : Value → Shared → Prop} {E : Value → Shared → Prop} {d : Addr} (hT : s.TypeIs (.ref d) "dict") (hd : (d == sysModules) = false) (hQ : Q (.ref s.heap.objs.size) { s with heap := s.heap.push { cls := .type "dict_items", data := .fields #[.ref d] } }) :
    wpAny (model C.prog C.w) A (call (.builtin "dict.items") [.ref d]) Q E s := by
  refine wpAny_call_entry F.slot_dict_items hT F.entry_dict_items ?_ (F.args_dict_items_1 _)
  unfold Builtin.«dict.items»
  refine wpAny_bind ?_
  unfold Builtin.Dict.noArgs
  refine wpAny_bind (wpAny_notOrdered_dict hT ?_)
  show wpAny _ _ (pure d) _ _ s
  refine wpAny_pure ?_
  show wpAny _ _ (Builtin.Dict.showsAll d >>= _) _ _ s
  unfold Builtin.Dict.showsAll
  rw [if_neg (by rw [hd]; exact Bool.false_ne_true)]
  refine wpAny_bind (wpAny_pure ?_)
  exact wpAny_bind (wpAny_newObj_type (wpAny_pure ⟨_, rfl, hQ⟩))
theorem call_values {A : Around} {s : Shared} {Q : Value → Shared → Prop} {E : Value → Shared → Prop} {d : Addr} (hT : s.TypeIs (.ref d) "dict") (hd : (d == sysModules) = false) (hQ : Q (.ref s.heap.objs.size) { s with heap := s.heap.push { cls := .type "dict_values", data := .fields #[.ref d] } }) :
    wpAny (model C.prog C.w) A (call (.builtin "dict.values") [.ref d]) Q E s := by
  refine wpAny_call_entry F.slot_dict_values hT F.entry_dict_values ?_ (F.args_dict_values_1 _)
  refine wpAny_bind ?_
  unfold Builtin.Dict.noArgs
  refine wpAny_bind (wpAny_notOrdered_dict hT ?_)
  show wpAny _ _ (pure d) _ _ s
  refine wpAny_pure ?_
  show wpAny _ _ (Builtin.Dict.showsAll d >>= _) _ _ s
  unfold Builtin.Dict.showsAll
  rw [if_neg (by rw [hd]; exact Bool.false_ne_true)]
  refine wpAny_bind (wpAny_pure ?_)
  exact wpAny_bind (wpAny_newObj_type (wpAny_pure ⟨_, rfl, hQ⟩))
theorem Ev.itemsOf {o : Expr} {apos pos : Pos} {es : ES} (ho : Ev c o (.dic es)) (hbase : attributeBase o "items" c.env (eval o c.env) = eval o c.env := by rfl) (hline : (apos.endLine == pos.line) = true := by rfl) : Ev c (.Call (.Attribute o "items" apos) [] [] pos) (.items es) := by
  intro A s Q E rm p hQ
  refine wpAny_method p rm ho (fun h v g => g.dicO) (fun s' v g => g.dicT) F.plainAttrs_dict F.slot_dict_items F.type_dict_items EvA.nil (fun v vs h₁ tk x₁ w₁ p1 g gs => ?_) hbase (by rfl) hline (by rfl)
  (first | obtain ⟨_, rfl⟩ := Has.int_inv gs | obtain rfl := Has.bool_inv gs | obtain rfl := Has.ptr_inv gs | obtain rfl := HasL.nil_inv gs | obtain rfl := Has.none_inv gs | cases gs)
  have g' := g
  have q9 := Has.dic_inv g; clear g; obtain ⟨_, rfl, ha, hs, hD⟩ := q9
  refine call_items (s := { s with heap := h₁, toks := tk }) (Has.dicT (s' := { s with heap := h₁, toks := tk }) g') (by simpa using hs) ?_
  exact hQ _ _ _ (x₁.trans (Ext.push _ _ _)) (w₁.push _) (.items w₁.fresh ⟨_, Heap.get?_push_size _ rfl, rfl, rfl⟩ ha (hD.keep (fun b o hb e => Heap.get?_push_of_some _ e) ha))
theorem Ev.valuesOf {o : Expr} {apos pos : Pos} {es : ES} (ho : Ev c o (.dic es)) (hbase : attributeBase o "values" c.env (eval o c.env) = eval o c.env := by rfl) (hline : (apos.endLine == pos.line) = true := by rfl) : Ev c (.Call (.Attribute o "values" apos) [] [] pos) (.vals es) := by
  intro A s Q E rm p hQ
  refine wpAny_method p rm ho (fun h v g => g.dicO) (fun s' v g => g.dicT) F.plainAttrs_dict F.slot_dict_values F.type_dict_values EvA.nil (fun v vs h₁ tk x₁ w₁ p1 g gs => ?_) hbase (by rfl) hline (by rfl)
  (first | obtain ⟨_, rfl⟩ := Has.int_inv gs | obtain rfl := Has.bool_inv gs | obtain rfl := Has.ptr_inv gs | obtain rfl := HasL.nil_inv gs | obtain rfl := Has.none_inv gs | cases gs)
  have g' := g
  have q9 := Has.dic_inv g; clear g; obtain ⟨_, rfl, ha, hs, hD⟩ := q9
  refine call_values (s := { s with heap := h₁, toks := tk }) (Has.dicT (s' := { s with heap := h₁, toks := tk }) g') (by simpa using hs) ?_
  exact hQ _ _ _ (x₁.trans (Ext.push _ _ _)) (w₁.push _) (.vals w₁.fresh ⟨_, Heap.get?_push_size _ rfl, rfl, rfl⟩ ha (hD.keep (fun b o hb e => Heap.get?_push_of_some _ e) ha))
theorem Ev.bits {o : Expr} {apos pos : Pos} {a : Int} (ho : Ev c o (.int a)) (hbase : attributeBase o "bit_length" c.env (eval o c.env) = eval o c.env := by rfl) (hline : (apos.endLine == pos.line) = true := by rfl) : Ev c (.Call (.Attribute o "bit_length" apos) [] [] pos) (.int (Builtin.Int.intBits a)) := by
  intro A s Q E rm p hQ
  refine wpAny_method p rm ho (T := "int") (fun h v g a e => by subst e; cases g) (fun s' v g => by cases g; exact typeIs_int _ _ _) F.plainAttrs_int PySem.F.slot_int_bit_length PySem.F.type_int_bit_length EvA.nil (fun v vs h₁ tk x₁ w₁ p1 g gs => ?_) hbase (by rfl) hline (by rfl)
  (first | obtain ⟨_, rfl⟩ := Has.int_inv gs | obtain rfl := Has.bool_inv gs | obtain rfl := Has.ptr_inv gs | obtain rfl := HasL.nil_inv gs | obtain rfl := Has.none_inv gs | cases gs); (first | obtain ⟨_, rfl⟩ := Has.int_inv g | obtain rfl := Has.bool_inv g | obtain rfl := Has.ptr_inv g | obtain rfl := HasL.nil_inv g | obtain rfl := Has.none_inv g | cases g)
  exact PyProof.Rows.call_int_bit_length (hQ _ _ _ x₁ w₁ (.int _ _))
end
end Mine
end
section
open PySem PySem.W PySem.Calls PyProof.Rows
namespace Mine
section
variable {C : Cfg} {c : Ctx C} {h h₂ h' : Heap} {rest : List Stmt} {R : Flow → Heap → Prop}

/-! len -/
theorem OpL.lenL {ds : List D} (hsz : ds.length ≤ sizeLine) : OpL c [.lst ds] (fun vs => call (.builtin "len") vs) (.int ds.length) := by
  intro A s Q E vs rm p g hQ
  have q9 := HasL.cons_inv g; clear g; obtain ⟨_, _, rfl, g, g'⟩ := q9
  (first | obtain ⟨_, rfl⟩ := Has.int_inv g' | obtain rfl := Has.bool_inv g' | obtain rfl := Has.ptr_inv g' | obtain rfl := HasL.nil_inv g' | obtain rfl := Has.none_inv g' | cases g')
  have q9 := Has.lst_inv g; clear g; obtain ⟨_, _, rfl, ha, hl, hg⟩ := q9
  have hz := hg.length
  rw [sizeLine_eq] at hsz
  refine call_len_list hl (by simp at hz; omega) ?_
  have := hQ (.int ds.length (s.toks + 1)) s.heap (s.toks + 1 + 1) (Ext.refl _ _) p.wf (.int _ _)
  rw [← hz] at this
  simpa using this
/-! range, list(range), sum, tuple, sorted, divmod -/
theorem OpL.range1 {n : Nat} (hn : n ≤ 2 ^ 24) : OpL c [.int (n : Int)] (fun vs => call (.type "range") vs) (.rng 0 n) := by
  intro A s Q E vs rm p g hQ
  have q9 := HasL.cons_inv g; clear g; obtain ⟨_, _, rfl, g, g'⟩ := q9
  (first | obtain ⟨_, rfl⟩ := Has.int_inv g' | obtain rfl := Has.bool_inv g' | obtain rfl := Has.ptr_inv g' | obtain rfl := HasL.nil_inv g' | obtain rfl := Has.none_inv g' | cases g'); (first | obtain ⟨_, rfl⟩ := Has.int_inv g | obtain rfl := Has.bool_inv g | obtain rfl := Has.ptr_inv g | obtain rfl := HasL.nil_inv g | obtain rfl := Has.none_inv g | cases g)
  rename_i t
  have e : IsRange (s.heap.push { cls := .type "range", data := .fields #[.int 0 s.toks, .int (n : Int) t, .int 1 (s.toks + 1)] }) s.heap.objs.size 0 (0 + (n : Int)) 1 s.toks t (s.toks + 1) := by
    rw [Int.zero_add]; exact Heap.get?_push_size _ rfl
  exact call_range_1 (hQ _ _ _ (Ext.push _ _ _) (p.wf.push _) (.rng p.wf.fresh ⟨_, _, _, e⟩ (by omega) (by omega) hn))
theorem OpL.range2 {a : Int} {n : Nat} (ha : -(2 ^ 60) ≤ a) (ha2 : a + n < 2 ^ 60) (hn : n ≤ 2 ^ 24) : OpL c [.int a, .int (a + n)] (fun vs => call (.type "range") vs) (.rng a n) := by
  intro A s Q E vs rm p g hQ
  have q9 := HasL.cons_inv g; clear g; obtain ⟨_, _, rfl, g, g'⟩ := q9
  have q9 := HasL.cons_inv g'; clear g'; obtain ⟨_, _, rfl, g2, g'⟩ := q9
  (first | obtain ⟨_, rfl⟩ := Has.int_inv g' | obtain rfl := Has.bool_inv g' | obtain rfl := Has.ptr_inv g' | obtain rfl := HasL.nil_inv g' | obtain rfl := Has.none_inv g' | cases g'); (first | obtain ⟨_, rfl⟩ := Has.int_inv g | obtain rfl := Has.bool_inv g | obtain rfl := Has.ptr_inv g | obtain rfl := HasL.nil_inv g | obtain rfl := Has.none_inv g | cases g); (first | obtain ⟨_, rfl⟩ := Has.int_inv g2 | obtain rfl := Has.bool_inv g2 | obtain rfl := Has.ptr_inv g2 | obtain rfl := HasL.nil_inv g2 | obtain rfl := Has.none_inv g2 | cases g2)
  exact call_range_2 (hQ _ _ _ (Ext.push _ _ _) (p.wf.push _) (.rng p.wf.fresh ⟨_, _, _, Heap.get?_push_size _ rfl⟩ ha ha2 hn))
theorem preSum_list (ns : List Int) : preSum (fun i => ns.getD i 0) ns.length = ns.sum := by
  have key : ∀ k, k ≤ ns.length → preSum (fun i => ns.getD i 0) k = (ns.take k).sum := by
    intro k
    induction k with
    | zero => intro _; simp [preSum]
    | succ k ih =>
      intro hk
      have hlt : k < ns.length := by omega
      rw [preSum, ih (by omega), List.take_add_one, List.getElem?_eq_getElem hlt, List.sum_append]
      simp [List.getD, hlt]
  rw [key _ (Nat.le_refl _), List.take_length]
theorem OpL.sum {ns : List Int} : OpL c [.lst (ns.map .int)] (fun vs => call (.builtin "sum") vs) (.int ns.sum) := by
  intro A s Q E vs rm p g hQ
  have q9 := HasL.cons_inv g; clear g; obtain ⟨_, _, rfl, g, g'⟩ := q9
  (first | obtain ⟨_, rfl⟩ := Has.int_inv g' | obtain rfl := Has.bool_inv g' | obtain rfl := Has.ptr_inv g' | obtain rfl := HasL.nil_inv g' | obtain rfl := Has.none_inv g' | cases g')
  have q9 := Has.lst_inv g; clear g; obtain ⟨l, items, rfl, ha, hl, hg⟩ := q9
  have hI := hg.intsAre
  have hz : items.size = ns.length := by have := hg.length; simpa using this
  have hlt : l < s.heap.objs.size := by obtain ⟨o, e, _⟩ := hl; exact Heap.lt_size e
  refine call_sum_walkG (wpAny_pyIter_list hl ?_)
  refine ⟨s.heap.objs.size, [s.heap.objs.size, l], [s.heap.objs.size], items.size, _, _, fun i => ns.getD i 0, rfl, Walks.list (A := A.in1) rm.hh _ l (Nat.ne_of_lt hlt) items, ⟨⟨_, Heap.get?_push_size _ rfl, rfl, rfl⟩, hl.push _⟩, ?_, ?_, ?_⟩
  · intro b hb
    rw [Heap.size_push]
    rcases List.mem_cons.mp hb with rfl | hb
    · exact Nat.lt_succ_self _
    · rw [List.mem_singleton.mp hb]; exact Nat.lt_succ_of_lt hlt
  · intro i v hv
    have hv' : items.toList[i]? = some v := by rw [Array.getElem?_toList]; exact hv
    obtain ⟨d, e1, g⟩ := hg.get hv'
    rw [List.getElem?_map] at e1
    cases e2 : ns[i]? with
    | none => rw [e2] at e1; cases e1
    | some x =>
      rw [e2] at e1; cases e1; cases g
      exact ⟨_, by simp [List.getD, e2]; rfl⟩
  · intro h' tk t' k
    rw [hz, preSum_list]
    have kk : ∀ b o, s.heap.get? b = some o → h'.get? b = some o := fun b o e => k b o (by simp; exact Nat.ne_of_lt (Heap.lt_size e)) (Heap.get?_push_of_some _ e)
    exact hQ _ _ _ (fun b o _ e => kk b o e) (p.wf.keep kk) (.int _ _)
theorem OpL.divmod {a b : Int} (hb : b ≠ 0) (hs : b.natAbs < 1073741824) : OpL c [.int a, .int b] (fun vs => call (.builtin "divmod") vs) (.tup [.int (a.fdiv b), .int (a.fmod b)]) := by
  intro A s Q E vs rm p g hQ
  have q9 := HasL.cons_inv g; clear g; obtain ⟨_, _, rfl, g, g'⟩ := q9
  have q9 := HasL.cons_inv g'; clear g'; obtain ⟨_, _, rfl, g2, g'⟩ := q9
  (first | obtain ⟨_, rfl⟩ := Has.int_inv g' | obtain rfl := Has.bool_inv g' | obtain rfl := Has.ptr_inv g' | obtain rfl := HasL.nil_inv g' | obtain rfl := Has.none_inv g' | cases g'); (first | obtain ⟨_, rfl⟩ := Has.int_inv g | obtain rfl := Has.bool_inv g | obtain rfl := Has.ptr_inv g | obtain rfl := HasL.nil_inv g | obtain rfl := Has.none_inv g | cases g); (first | obtain ⟨_, rfl⟩ := Has.int_inv g2 | obtain rfl := Has.bool_inv g2 | obtain rfl := Has.ptr_inv g2 | obtain rfl := HasL.nil_inv g2 | obtain rfl := Has.none_inv g2 | cases g2)
  exact divmod_int hb (hQ _ _ _ (Ext.push _ _ _) (p.wf.push _) (.tup p.wf.fresh ⟨_, Heap.get?_push_size _ rfl, rfl, _, rfl⟩ (.cons (.int _ _) (.cons (.int _ _) .nil)))) (.inl (PyProof.noPylong_small hs))

/-! truth of values -/
theorem EvB.int {e : Expr} {a : Int} (he : Ev c e (.int a)) (hp : isTrue e c.env (eval e c.env) = (do let v ← eval e c.env; standAt e.pos; holding [v] (truthy v)) := by rfl) : EvB c e (a != 0) := fun A s Q E rm p hQ =>
  wpAny_isTrue_value (he A s _ E rm p fun v h' tk x w g => by cases g; exact PyProof.Rows.truthy_int (hQ _ _ x w)) hp
theorem EvB.list {e : Expr} {ds : List D} (he : Ev c e (.lst ds)) (hsz : ds.length ≤ sizeLine) (hp : isTrue e c.env (eval e c.env) = (do let v ← eval e c.env; standAt e.pos; holding [v] (truthy v)) := by rfl) : EvB c e (!ds.isEmpty) := fun A s Q E rm p hQ =>
  wpAny_isTrue_value (he A s _ E rm p fun v h' tk x w g => by
    have q9 := Has.lst_inv g; clear g; obtain ⟨l, items, rfl, ha, hl, hg⟩ := q9
    have hz := hg.length
    rw [sizeLine_eq] at hsz
    refine wpAny_truthy_list (s := { s with heap := h', toks := tk }) hl (by simp at hz; omega) ?_
    have e : items.isEmpty = ds.isEmpty := by
      simp at hz
      unfold Array.isEmpty
      rw [hz]; cases ds <;> simp
    rw [e]; exact hQ _ _ x w) hp
theorem Ev.ifT {test body orelse : Expr} {pos : Pos} {d : D} (ht : EvB c test true) (hb : Ev c body d) : Ev c (.IfExp test body orelse pos) d := fun A s Q E rm p hQ =>
  wpAny_IfExp (ht A s _ E rm p fun h' tk x w => by
    simp only [if_true]
    exact hb A { s with heap := h', toks := tk } Q E rm (p.ext x w) fun v h₂ tk₂ x₂ w₂ g => hQ _ _ _ (x.trans x₂) w₂ g)
theorem Ev.ifF {test body orelse : Expr} {pos : Pos} {d : D} (ht : EvB c test false) (hb : Ev c orelse d) : Ev c (.IfExp test body orelse pos) d := fun A s Q E rm p hQ =>
  wpAny_IfExp (ht A s _ E rm p fun h' tk x w => by
    simp only [Bool.false_eq_true, if_false]
    exact hb A { s with heap := h', toks := tk } Q E rm (p.ext x w) fun v h₂ tk₂ x₂ w₂ g => hQ _ _ _ (x.trans x₂) w₂ g)
/-- isinstance(x, tuple) of an int -/
theorem EvB.isInst {np np2 pos : Pos} {e : Expr} {i : Int} (b : Bi C c.env "isinstance" (.builtin "isinstance")) (b2 : Bi C c.env "tuple" (.type "tuple")) (he : Ev c e (.int i))
    (hs : starEach [e, .Name "tuple" np2] c.env = (false, eval e c.env) :: starEach [.Name "tuple" np2] c.env := by rfl) : EvB c (.Call (.Name "isinstance" np) [e, .Name "tuple" np2] [] pos) false := by
  intro A s Q E rm p hQ
  refine wpAny_isTrue_value ?_ rfl
  show wpAny _ A (do callWith pos (← eval (.Name "isinstance" np) c.env) [] (backTo pos (starEach [e, .Name "tuple" np2] c.env)) []) _ E s
  refine wpAny_bind (wpAny_bi p b ?_)
  refine PyProof.Rows.callWith_builtin1 ?_ hs (by rfl)
  refine wpAny_items_cons (he A s _ E rm p fun v h₁ tk₁ x₁ w₁ g₁ => ?_) hs
  refine wpAny_items_cons (wpAny_bi (s := { s with heap := h₁, toks := tk₁ }) (p.ext x₁ w₁) b2 (wpAny_items_nil ?_)) (by rfl)
  (first | obtain ⟨_, rfl⟩ := Has.int_inv g₁ | obtain rfl := Has.bool_inv g₁ | obtain rfl := Has.ptr_inv g₁ | obtain rfl := HasL.nil_inv g₁ | obtain rfl := Has.none_inv g₁ | cases g₁)
  exact PySem.IsiPair.int_tuple (wpAny_truthy_bool (hQ _ _ x₁ w₁))
end
end Mine
end
section
open PySem PySem.W PySem.Calls PyProof.Rows PySem.SeqAt
namespace Mine
section
variable {C : Cfg} {c : Ctx C} {h h₂ h' : Heap} {rest : List Stmt} {R : Flow → Heap → Prop}

def iL (ns : List Int) : D := .lst (ns.map .int)
theorem size_of {ds : List D} {items : Array Value} {M : ASet} (g : HasL C h M items.toList ds) : items.size = ds.length := by have := g.length; simpa using this

theorem Op.neNil {ds : List D} : Op c (.lst ds) (.lst []) (compareOp .NotEq) (.bool (!ds.isEmpty)) := by
  intro A s Q E vx vy rm p hx hy hQ
  have q9 := Has.lst_inv hx; clear hx; obtain ⟨_, _, rfl, ha, hl, hg⟩ := q9
  have q9 := Has.lst_inv hy; clear hy; obtain ⟨_, _, rfl, hb, hm, hk⟩ := q9
  have z1 := size_of hg
  have z2 := size_of hk
  cases ds with
  | nil =>
    refine RcNeAt.lists (e := fun _ => true) hl hm (by rw [z1, z2]) rm.u (fun j h1 h2 => by rw [z2] at h2; exact absurd h2 (by simp)) C.prog C.w E Q ?_
    rw [z1]; exact hQ _ _ s.toks (Ext.refl _ _) p.wf (.bool _)
  | cons d ds =>
    refine RcNeAt.lists_lengths hl hm (by rw [z1, z2]; simp) rm.u C.prog C.w E Q ?_
    exact hQ _ _ s.toks (Ext.refl _ _) p.wf (.bool _)
end
end Mine
end
section
open PySem PySem.W PySem.Calls PyProof.Rows PySem.SeqAt
namespace Mine

/-! the decision tree of the sort, run -/
end Mine
end
section
open PySem PySem.W PySem.Calls PyProof.Rows PySem.SeqAt
namespace Mine

/-! sorting by the lexical order -/
section
variable {C : Cfg} {c : Ctx C} {h : Heap}
end
end Mine
end
section
open PySem PySem.W PySem.Calls PyProof.Rows
namespace Mine
section
variable {C : Cfg} {c : Ctx C} {h h₂ h' : Heap} {rest : List Stmt} {R : Flow → Heap → Prop}

def Inv.and (I : Inv C) (P : ASet → Heap → Prop) (pk : ∀ {M h h'}, P M h → (∀ b o, ¬ M b → Heap.get? h b = some o → Heap.get? h' b = some o) → P M h') (pg : ∀ {M M' : ASet} {h}, P M h → (∀ b o, M' b → ¬ M b → Heap.get? h b = some o → False) → P M' h) (pa : ∀ {M M' : ASet} {h}, P M' h → (∀ b, M b → M' b) → P M h) : Inv C where
  N := I.N
  X := fun M h => I.X M h ∧ P M h
  keep := fun ⟨x, y⟩ tM k => ⟨I.keep x tM k, pk y fun b o hb e => k b o (fun t => hb (tM b t)) (.inl hb) e⟩
  grow := fun ⟨x, y⟩ tM k => ⟨I.grow x tM k, pg y k⟩
  anti := fun ⟨x, y⟩ k => ⟨I.anti x k, pa y k⟩

set_option genInjectivity false in
/-- a def within a def, made -/
structure CloD where
  name : Str
  qual : Str
  params : Arguments
  body : List Stmt
  scope : Scope
  clos : List (Str × Addr)
def CloP (F : Addr) (d : CloD) : ASet → Heap → Prop := fun M h => ∃ doc pm c' ctv, ¬ M F ∧ h.get? F = some (fnMade d.name d.qual d.params d.body d.scope d.clos doc pm c' ctv) ∧ ¬ M c' ∧ h.CodeRec (.ref c') d.qual
theorem CloP.keep {F : Addr} {d : CloD} {M : ASet} (x : CloP F d M h) (k : ∀ b o, ¬ M b → h.get? b = some o → h'.get? b = some o) : CloP F d M h' :=
  let ⟨doc, pm, c', ctv, a, b, e, r⟩ := x; ⟨doc, pm, c', ctv, a, k _ _ a b, e, CodeRec_at r fun o g => k _ o e g⟩
theorem CloP.grow {F : Addr} {d : CloD} {M M' : ASet} (x : CloP F d M h) (k : ∀ b o, M' b → ¬ M b → h.get? b = some o → False) : CloP F d M' h := by
  obtain ⟨doc, pm, c', ctv, a, b, e, r⟩ := x
  refine ⟨doc, pm, c', ctv, fun q => k _ _ q a b, b, fun q => ?_, r⟩
  obtain ⟨c₂, o, vs, t, e1, g, _⟩ := r
  cases e1; exact k _ _ q e g
theorem CloP.anti {F : Addr} {d : CloD} {M M' : ASet} (x : CloP F d M' h) (k : ∀ b, M b → M' b) : CloP F d M h :=
  let ⟨doc, pm, c', ctv, a, b, e, r⟩ := x; ⟨doc, pm, c', ctv, fun q => a (k _ q), b, fun q => e (k _ q), r⟩
def Inv.clo (I : Inv C) (F : Addr) (d : CloD) : Inv C := I.and (CloP F d) (fun x k => x.keep k) (fun x k => x.grow k) fun x k => x.anti k
def Ctx.clo (c : Ctx C) (F : Addr) (d : CloD) : Ctx C := { c with I := c.I.clo F d }

theorem Ex1.def {name : Str} {params : Arguments} {body : List Stmt} {scope : Scope} {pos : Pos} {q : Addr × Addr × Pos × Str} (hq : q ∈ C.tabs) (hd : ∀ r ∈ C.tabs, r.2.1 = q.2.1 → r = q) (hcode : c.env.code = .ref q.1) (hpos : q.2.2.1 = pos) (hqual : qualnameIn c.env name name = q.2.2.2)
    (hfree : ∀ x ∈ scope.names, x.2 = .free → (c.env.cells.lookup x.1).isSome = true) (w : Wr c name)
    (hr : ∀ F h, ((c.clo F ⟨name, q.2.2.2, params, body, scope, closL c.env.cells scope.names []⟩).set name (.ptr F)).P h → R .next h)
    (hd0 : params.defaults = [] := by rfl) (hk0 : params.kw_defaults = [] := by rfl) (ha : annTrees params none c.env = [] := by rfl) : Ex1 c (.FunctionDef name params body [] none [] scope none name pos) R := by
  intro A s Q E rm p hQ
  obtain ⟨cc, P, pos', qual⟩ := q
  dsimp only at hcode hpos hqual hr hd
  subst hpos
  have tb := p.wf.tab _ hq
  dsimp only at tb
  obtain ⟨h0, h1, h2, h3⟩ := tb
  have hT : C.T P := .inl ⟨_, hq, rfl⟩
  have hPM := p.wf.tM P hT
  obtain ⟨bm, ob, b1, b2, b3, b4, b5, b6, b7, b8⟩ := p.wf.bt
  have hba : s.heap.BuiltinsAt C.mg P := ⟨bm, ob, b1, b2, b3, fun e => b8 (e ▸ hPM), b4, b5, b6, b7⟩
  have hgP : mainGlobals ≠ P := fun e => p.wf.gM (e ▸ hPM)
  have fin : ∀ (F : Addr) (h₁ : Heap) (tk : Nat) (o : Obj) (doc pm ctv : Value) (c' : Addr), F = h₁.objs.size → Ext C.T s.heap h₁ → Wf C c.M h₁ → o = fnMade name qual params body scope (closL c.env.cells scope.names []) doc pm c' ctv → ¬ c.M c' → h₁.CodeRec (.ref c') qual →
      wpAny (model C.prog C.w) A (storeName c.env name (.ref F)) (fun _ s'' => Q .next s'') E { s with heap := h₁.push o, toks := tk } := by
    rintro F h₁ tk o doc pm ctv c' rfl x₁ w₁ rfl hc' hrec
    have p1 := p.ext (x₁.trans (Ext.push _ _ (fnMade name qual params body scope (closL c.env.cells scope.names []) doc pm c' ctv))) (w₁.push _)
    have pc : (c.clo h₁.objs.size ⟨name, qual, params, body, scope, closL c.env.cells scope.names []⟩).P (h₁.push (fnMade name qual params body scope (closL c.env.cells scope.names []) doc pm c' ctv)) :=
      { at_ := p1.at_, loc := p1.loc, cel := p1.cel, o := fun q hq => let z := p1.o q hq; ⟨z.own, z.m, z.t, z.n, z.l, z.c⟩, nd := p1.nd, nM := p1.nM, x := ⟨p1.x, doc, pm, c', ctv, w₁.fresh, Heap.get?_push_size _ rfl, hc', CodeRec_at hrec fun o e => Heap.get?_push_of_some _ e⟩ }
    exact wpAny_store (c := c.clo h₁.objs.size ⟨name, qual, params, body, scope, closL c.env.cells scope.names []⟩) (s := { s with heap := h₁.push _, toks := tk }) pc w (.ptr _) fun h₂ tk₂ p₂ k₂ => hQ _ _ _ (hr _ _ p₂)
  refine nestDef_K hd0 hk0 ha ?_
  rw [hqual]
  rcases h3 with h3 | ⟨c', n1, n2, n3⟩
  · refine makeFunction_K (mg := C.mg) (closureFor_closL hfree) p.at_.gl p.wf.g hcode h2 h3 trivial rfl hgP hba fun c' ctv doc h₁ tk hx hge hlt hrec htb => ?_
    have w₁ : Wf C c.M h₁ := p.wf.table _ hq hd hx c' hge (by simpa using htb) hrec
    exact fin _ h₁ tk _ doc _ ctv c' rfl (fun b o t e => hx b o (fun z => t (z ▸ hT)) e) w₁ rfl (p.wf.freshT hge) hrec
  · refine makeFunction_hit (mg := C.mg) (closureFor_closL hfree) p.at_.gl p.wf.g hcode h2 n2 trivial (cv := .ref c') (by simp [codeAmong, rawInt]) hba fun ctv doc h₁ tk hk hsz => ?_
    exact fin _ h₁ tk _ doc _ ctv c' rfl (fun b o t e => hk b o e) (p.wf.keep hk) rfl n1 (n3.keeps hk)

/-- what stands around a call of a made def -/
structure CloAt (C : Cfg) (M : ASet) (h : Heap) (F : Addr) (d : CloD) (Gf : List (Str × D)) : Prop where
  wf : Wf C M h
  fn : CloP F d M h
  cM : ∀ x b, d.clos.lookup x = some b → M b ∧ ¬ C.T b ∧ ∃ v, h.IsCell b v
  cA : ∀ x y b, d.clos.lookup x = some b → d.clos.lookup y = some b → x = y
  gf : ∀ x e, Gf.lookup x = some e → ∃ b v, d.clos.lookup x = some b ∧ h.IsCell b (some v) ∧ Has C h M v e
theorem CloAt.of {F : Addr} {d : CloD} {Gf : List (Str × D)} (p : c.P h) (fn : CloP F d c.M h) (hc : ∀ x b, d.clos.lookup x = some b → c.env.cells.lookup x = some b)
    (hg : ∀ x e, Gf.lookup x = some e → c.G.lookup x = some e ∧ c.env.kindOf x ≠ some .local ∧ (d.clos.lookup x).isSome = true) : CloAt C c.M h F d Gf where
  wf := p.wf
  fn := fn
  cM := fun x b e => ⟨(p.at_.cM x b (hc x b e)).1, (p.at_.cM x b (hc x b e)).2.1, p.at_.cC x b (hc x b e)⟩
  cA := fun x y b e e' => p.at_.cA x y b (hc x b e) (hc y b e')
  gf := fun x e hx => by
    obtain ⟨h1, h2, h3⟩ := hg x e hx
    obtain ⟨v, b, hv⟩ := p.at_.vars x e h1
    obtain ⟨a, ha⟩ := Option.isSome_iff_exists.mp h3
    rcases b with ⟨k, _⟩ | ⟨_, b, q, hb⟩
    · exact absurd k h2
    · rw [hc x a ha] at q; cases q
      exact ⟨a, v, ha, hb, hv⟩

theorem lookupV_cons {x y : Str} {d : Value} {G : List (Str × Value)} : ((x, d) :: G).lookup y = if y = x then some d else G.lookup y := by
  rw [List.lookup_cons]
  by_cases e : y = x
  · subst e; simp
  · rw [beq_eq_false_iff_ne.mpr e, if_neg e]
def cloEnv (d : CloD) (L F : Addr) (cd : Value) : Env := { scope := d.scope, locals := L, globals := mainGlobals, cells := d.clos, qual := d.qual ++ ".<locals>.", func := some F, code := cd, frame := some L, builtins := builtinsNs }
theorem wpAny_callClo {M : ASet} {A : Around} {s : Shared} {Q : Value → Shared → Prop} {E : Value → Shared → Prop} {k : Nat} {F : Addr} {d : CloD} {Gf : List (Str × D)} {names : List Str} {vs : List Value} {ds : List D} {O : List (Addr × D)} {V : ASet} (rm : Room (k + 1) A) (ca : CloAt C M s.heap F d Gf) (hv : HasL C s.heap M vs ds)
    (hbind : ∀ doc pm c' ctv, bindArgs (fnX d.name d.qual d.params d.body d.scope d.clos .none .none doc pm none (.ref c') ctv) ⟨vs, []⟩ = pure (names.zip vs)) (hlen : names.length = ds.length) (hnd : names.Nodup) (hkinds : ∀ x ∈ names, d.scope.names.lookup x = some .local)
    (hfk : ∀ x e, Gf.lookup x = some e → d.scope.names.lookup x = some .free) (hO : ∀ q ∈ O, Owns C s.heap M q.1 q.2 ∧ M q.1 ∧ ¬ C.T q.1 ∧ V q.1 ∧ ∀ x b, d.clos.lookup x = some b → q.1 ≠ b) (hOn : (O.map (·.1)).Nodup)
    (hx : ∀ L cd h₁ tk (c₁ : Ctx C), c₁ = ⟨k, fun b => M b ∨ (s.heap.objs.size ≤ b ∧ ∃ o, h₁.get? b = some o), cloEnv d L F cd, names.zip ds ++ Gf, O, fun _ => false, (Inv.base C s.heap (fun b => M b ∧ ¬ V b) V).clo F d⟩ → c₁.P h₁ →
      Room k (A.deeper c₁.env) → wpAny (model C.prog C.w) (A.deeper c₁.env) (execs d.body c₁.env) (fun f s' => Q (match f with | .ret v => v | _ => .none) s') (fun _ _ => False) { s with heap := h₁, toks := tk })
    (hco2 : d.scope.isCoroutine = false := by rfl) (hgen : d.scope.isGenerator = false := by rfl) (hkind : d.scope.kind = .function := by rfl) (hcell : ∀ x ∈ d.scope.names, x.2 ≠ .cell := by decide) : wpAny (model C.prog C.w) A (call (.ref F) vs) Q E s := by
  obtain ⟨doc, pm, c', ctv, f1, f2, f3, f4⟩ := ca.fn
  have w := ca.wf
  have hvl : vs.length = ds.length := hv.length
  refine wpAny_call (codeAny_call_function (by have := rm.dp; omega) f2 rfl hco2 hgen rfl f4 ?_)
  rw [hbind]
  have hloc : ∀ x ∈ names.zip vs, d.scope.names.lookup x.1 = some .local := fun x hx => hkinds _ (List.of_mem_zip hx).1
  refine wpAny_pure (wpAny_newFunctionEnv hcell hloc (fun h₁ hns hsb => ⟨w.nl.fresh _ hsb, ?_⟩) hkind)
  show codeAny _ _ (.func d.body (cloEnv d s.heap.objs.size F (.ref c'))) _ _
  have keep : ∀ b o, s.heap.get? b = some o → h₁.get? b = some o := fun b o e => hsb.extBut b o (Nat.ne_of_lt (Heap.lt_size e)) (Heap.get?_push_of_some _ e)
  have newM : ∀ b, s.heap.objs.size ≤ b → ¬ M b := fun b hb hm => w.freshT hb hm
  have liveL : ∃ o, h₁.get? s.heap.objs.size = some o := by obtain ⟨o, _, _, e, _⟩ := hns; exact ⟨o, e⟩
  have w₁ : Wf C (fun b => M b ∨ (s.heap.objs.size ≤ b ∧ ∃ o, h₁.get? b = some o)) h₁ := w.wider keep fun b hb => hb
  have tn : ∀ b, s.heap.objs.size ≤ b → ¬ C.T b := fun b hb t => newM b hb (w.tM b t)
  have gr : ∀ b o, (M b ∨ (s.heap.objs.size ≤ b ∧ ∃ o, h₁.get? b = some o)) → ¬ M b → s.heap.get? b = some o → False := fun b o hb hn e => absurd (Heap.lt_size e) (Nat.not_lt.mpr (hb.resolve_left hn).1)
  have hmapz : ((names.zip vs).map (·.1)).Nodup := by
    rw [List.map_fst_zip (by omega)]; exact hnd
  have nL : ∀ {b}, M b → b ≠ s.heap.objs.size := fun hb e => newM _ (Nat.le_refl _) (e ▸ hb)
  have rm' : Room k (A.deeper (cloEnv d s.heap.objs.size F (.ref c'))) := ⟨rm.hh, by have := rm.dp; show A.depth + 1 + k < _; omega, by have := rm.un; show A.units + 3 + 8 * k + 8 < _; omega⟩
  have P1 : (⟨k, fun b => M b ∨ (s.heap.objs.size ≤ b ∧ ∃ o, h₁.get? b = some o), cloEnv d s.heap.objs.size F (.ref c'), names.zip ds ++ Gf, O, fun _ => false, (Inv.base C s.heap (fun b => M b ∧ ¬ V b) V).clo F d⟩ : Ctx C).P h₁ := by
    refine { at_ := { wf := w₁, kind := hkind, gl := rfl, bn := rfl, ns := ⟨_, hns⟩, fM := .inr ⟨Nat.le_refl _, liveL⟩, fT := tn _ (Nat.le_refl _), cM := fun y b e => ⟨.inl (ca.cM y b e).1, (ca.cM y b e).2.1, nL (ca.cM y b e).1⟩, cA := ca.cA, cC := ?_, vars := ?_ }, loc := fun q => newM _ (Nat.le_refl _) q.1, cel := (fun _ q => by cases q), o := ?_, nd := hOn, nM := fun b hb => .inl hb.1, x := ⟨⟨fun b o _ _ e => keep b o e, ?_⟩, ?_⟩ }
    · intro y b e
      obtain ⟨v, hv⟩ := (ca.cM y b e).2.2
      exact ⟨v, hv.keeps keep⟩
    · intro y dy e
      rw [List.lookup_append] at e
      cases ez : (names.zip ds).lookup y with
      | some dz =>
        rw [ez] at e; cases e
        obtain ⟨v, hm, hv'⟩ := zip_has hv ez
        have hyn : y ∈ names := (List.of_mem_zip hm).1
        have bb := bind_at (kindOf := fun _ => some .local) (m := fun _ => none) (m' := fun _ => none) hmapz hm
        refine ⟨v, .inl ⟨hkinds y hyn, _, hns, ?_⟩, (hv'.grow gr).keep fun b o hb e => keep b o e⟩
        have key : ∀ (bs : List (Str × Value)), (bs.map (·.1)).Nodup → (y, v) ∈ bs → bs.reverse.lookup y = some v := by
          intro bs hnb hmb
          have hnr : (bs.reverse.map (·.1)).Nodup := by rw [List.map_reverse]; exact (List.reverse_perm _).nodup_iff.mpr hnb
          have hmr : (y, v) ∈ bs.reverse := List.mem_reverse.mpr hmb
          revert hnr hmr
          generalize bs.reverse = l
          intro hnr hmr
          induction l with
          | nil => cases hmr
          | cons x r ih =>
            obtain ⟨x1, x2⟩ := x
            rw [List.map_cons, List.nodup_cons] at hnr
            rw [lookupV_cons]
            rcases List.mem_cons.mp hmr with e | hm
            · cases e; rw [if_pos rfl]
            · have : y ≠ x1 := fun q => hnr.1 (q ▸ List.mem_map.mpr ⟨_, hm, rfl⟩)
              rw [if_neg this]; exact ih hnr.2 hm
        exact key _ hmapz hm
      | none =>
        rw [ez] at e
        obtain ⟨b, v, e1, e2, e3⟩ := ca.gf y dy e
        exact ⟨v, .inr ⟨.inr (hfk y dy e), b, e1, e2.keeps keep⟩, (e3.grow gr).keep fun b o hb e => keep b o e⟩
    · intro q hq
      obtain ⟨o1, o2, o3, o4, o5⟩ := hO q hq
      exact ⟨(o1.grow gr).keep (fun o e => keep _ _ e) fun b o _ e => keep b o e, .inl o2, o3, fun n => n.2 o4, nL o2, o5⟩
    · intro b hb hn t hV
      rcases hb with hb | hb
      · exact absurd ⟨hb, hV⟩ hn
      · exact get_none_of_le hb.1
    · exact (ca.fn.grow gr).keep fun b o _ e => keep b o e
  exact codeAny_func (wpAny_mono (hx s.heap.objs.size (.ref c') h₁ _ _ rfl P1 rm') (fun f s' h => h) fun _ _ h => h.elim)
end
end Mine
end
section
open PySem PySem.W PySem.Calls PyProof.Rows
namespace Mine
section
variable {C : Cfg} {c : Ctx C} {h h₂ h' : Heap} {rest : List Stmt} {R : Flow → Heap → Prop}

def Ctx.lp (c : Ctx C) (M : ASet) (I : Inv C) (G : List (Str × D)) (O : List (Addr × D)) : Ctx C := ⟨c.k, M, c.env, G, O, c.cw, I⟩
theorem Ctx.P.weakG {G : List (Str × D)} (p : c.P h) (hg : ∀ x d, G.lookup x = some d → c.G.lookup x = some d) : ({ c with G := G } : Ctx C).P h :=
  { at_ := { p.at_ with vars := fun x d e => p.at_.vars x d (hg x d e) }, loc := p.loc, cel := p.cel, o := fun q hq => let z := p.o q hq; ⟨z.own, z.m, z.t, z.n, z.l, z.c⟩, nd := p.nd, nM := p.nM, x := p.x }
/-- names to be kept are among the names that are known -/
def Sub (G G' : List (Str × D)) : Prop := ∀ x d, G.lookup x = some d → G'.lookup x = some d
theorem Sub.nil {G : List (Str × D)} : Sub [] G := fun x d e => by cases e
theorem Sub.cons {G G' : List (Str × D)} {x : Str} {d : D} (r : Sub G G') (h : G'.lookup x = some d := by rfl) : Sub ((x, d) :: G) G' := fun y e he => by
  rw [lookup_cons_if] at he
  by_cases q : y = x
  · rw [if_pos q] at he; cases he; subst q; exact h
  · rw [if_neg q] at he; exact r y e he
theorem Ex.forL {target iter : Expr} {body : List Stmt} {pos : Pos} {tg : Expr → Prop} {α : Type} (l : List α) (toD : α → D) (G : Nat → List (Str × D)) (O : Nat → List (Addr × D)) (hi : EvI c iter (l.map toD) tg) (ht : tg target) (hG : Sub (G 0) c.G) (hO : O 0 = c.O)
    (step : ∀ i x, l[i]? = some x → ∀ M I, ∃ c₂, Tg (c.lp M I (G i) (O i)) target (toD x) c₂ ∧ c₂.env = c.env ∧ c₂.k = c.k ∧ Ex c₂ body (LoopR R (c.lp M I (G (i + 1)) (O (i + 1)))))
    (hr : Ex (c.lp c.M c.I (G l.length) (O l.length)) rest R) (hRb : ∀ h, R .next h → True := by intros; trivial) (hs : ∀ x, foldedSetIterable iter c.env x = pure x := by intro _; rfl) : Ex c (.For target iter body [] pos :: rest) R := by
  refine .seq (Ex1.for G O hi ht (fun h p => ?_) (fun i d hd c' hin hg ho => ?_) (fun h p => ?_) hs)
  · have := p.weakG hG
    show (c.at (G 0) (O 0)).P h
    unfold Ctx.at
    rw [hO]; exact this
  · rw [List.getElem?_map] at hd
    cases e : l[i]? with
    | none => rw [e] at hd; cases hd
    | some x =>
      rw [e] at hd; cases hd
      obtain ⟨k, M, env, G', O', cw, I⟩ := c'
      obtain ⟨e1, e2, e3, _, _⟩ := hin
      dsimp only at e1 e2 e3 hg ho
      subst e1 e2 e3 hg ho
      obtain ⟨c₂, h1, h2, h3, h4⟩ := step i x e M I
      refine ⟨c₂, h1, h2, h3, ?_⟩
      intro A s Q E rm p hQ
      refine h4 A s Q E rm p fun f h tk hf => hQ f h tk ?_
      cases f with
      | next => exact hf
      | cont => exact hf
      | brk => exact hf
      | ret v => exact hf
  · rw [List.length_map] at p
    exact ⟨c.lp c.M c.I (G l.length) (O l.length), rfl, rfl, p, hr⟩
theorem Ex.turnG {c' : Ctx C} (hG : Sub c'.G c.G) (hO : c'.O = c.O := by rfl) (hk : c' = { c with G := c'.G, O := c'.O } := by rfl) : Ex c [] (LoopR R c') := .nil fun h p => by
  show c'.P h
  rw [hk, hO]
  exact p.weakG hG
theorem Ex.setD {o ix e : Expr} {tp pos : Pos} {a : Addr} {es : ES} {k : List Atom} {j : Int} (i : Nat) (he : Ev c e (.int j)) (ho : Ev c o (.ptr a)) (hi : Ev c ix (tupOf k)) (hsz : es.length ≤ sizeLine) (hr : Ex (c.upd i a (.dic (dset es k j))) rest R)
    (hO : c.O[i]? = some (a, .dic es) := by rfl) (hs : swapsWith e (some (.Subscript o ix tp)) pos.line c.env = pure false := by rfl) : Ex c (.Assign [.Subscript o ix tp] e pos :: rest) R :=
  .seq (Ex1.setD i he ho hi hsz (fun h p => ⟨c.upd i a (.dic (dset es k j)), rfl, rfl, p, hr⟩) hO hs)
theorem Ex.augD {o ix e : Expr} {tp pos : Pos} {a : Addr} {es : ES} {k : List Atom} {j₀ j : Int} (i : Nat) (ho : Ev c o (.ptr a)) (hi : Ev c ix (tupOf k)) (he : Ev c e (.int j)) (hg : dget es k = some j₀) (hsz : es.length ≤ sizeLine) (hr : Ex (c.upd i a (.dic (dset es k (j₀ + j)))) rest R)
    (hO : c.O[i]? = some (a, .dic es) := by rfl) (ha : ∀ ov iv new, augStore ix ov iv new = (do holding [new, ov, iv] (setItem ov iv new); release [new, ov, iv] []; pure .next) := by intro _ _ _; rfl) : Ex c (.AugAssign (.Subscript o ix tp) .Add e pos :: rest) R :=
  .seq (Ex1.augD i ho hi he hg hsz (fun h p => ⟨c.upd i a (.dic (dset es k (j₀ + j))), rfl, rfl, p, hr⟩) hO ha)
theorem Ex.setL {o ix e : Expr} {tp pos : Pos} {a : Addr} {l : List D} {j : Int} {d : D} (i : Nat) (he : Ev c e d) (ho : Ev c o (.ptr a)) (hi : Ev c ix (.int j)) (h0 : 0 ≤ j) (h1 : j < l.length) (h2 : j < 2 ^ 63) (hr : Ex (c.upd i a (.lst (l.set j.toNat d))) rest R)
    (hO : c.O[i]? = some (a, .lst l) := by rfl) (hs : swapsWith e (some (.Subscript o ix tp)) pos.line c.env = pure false := by rfl) : Ex c (.Assign [.Subscript o ix tp] e pos :: rest) R :=
  .seq (Ex1.setL i he ho hi h0 h1 h2 (fun h p => ⟨c.upd i a (.lst (l.set j.toNat d)), rfl, rfl, p, hr⟩) hO hs)
theorem Ex.append {o e : Expr} {apos pos epos : Pos} {a : Addr} {l : List D} {d : D} (i : Nat) (ho : Ev c o (.ptr a)) (he : Ev c e d) (hsz : l.length ≤ sizeLine) (hr : Ex (c.upd i a (.lst (l ++ [d]))) rest R) (hO : c.O[i]? = some (a, .lst l) := by rfl)
    (hs : starEach [e] c.env = (false, eval e c.env) :: starEach [] c.env := by rfl)
    (hbase : attributeBase o "append" c.env (eval o c.env) = eval o c.env := by rfl)
    (hfew : ((backTo pos (starEach [e] c.env)).all (fun x => !x.1) && (backToKw pos (keywordEach [] c.env)).all (fun x => x.1.isSome)
      && decide ([e].length + ([] : List Keyword).length + (if ([] : List Keyword).isEmpty then 0 else 1) < 30)) = true := by rfl)
    (hline : (apos.endLine == pos.line) = true := by rfl) (hany : (backTo pos (starEach [e] c.env)).any (·.1) = false := by rfl) (hi : interactive c.env = false := by rfl) (hw : swapsWith (.Call (.Attribute o "append" apos) [e] [] pos) none epos.line c.env = pure false := by rfl) :
    Ex c (.Expr (.Call (.Attribute o "append" apos) [e] [] pos) epos :: rest) R := .seq (Ex1.append i ho he hsz (fun h p => ⟨c.upd i a (.lst (l ++ [d])), rfl, rfl, p, hr⟩) hO hs hbase hfew hline hany hi hw)
end
end Mine
end
section
open PySem PySem.W PySem.Calls PyProof.Rows
namespace Mine
section
variable {C : Cfg} {c : Ctx C} {h h₂ h' : Heap} {rest : List Stmt} {R : Flow → Heap → Prop}

theorem wpAny_nameV {A : Around} {s : Shared} {Q : Value → Shared → Prop} {E : Value → Shared → Prop} {x : Str} {pos : Pos} {d : D} (p : c.P s.heap) (hx : c.G.lookup x = some d) (h : ∀ v, Has C s.heap c.M v d → Q v s) (hd : (x == ("__debug__" : Str)) = false := by decide) (hn : (x == ("__classdict__" : Str)) = false := by decide) :
    wpAny (model C.prog C.w) A (eval (.Name x pos) c.env) Q E s := by
  obtain ⟨v, b, hv⟩ := p.at_.vars x d hx
  refine wpAny_Name ?_ hd
  rcases b with ⟨e, m, hm, hv'⟩ | ⟨e, cc, hc, ho⟩
  · exact wpAny_loadName_local p.at_.kind e hm hv' (h v hv)
  · rcases e with e | e
    · exact wpAny_loadName_cell p.at_.kind e hc ho (h v hv)
    · exact wpAny_loadName_free p.at_.kind e hc ho (h v hv) hn
theorem Ev.callC {x : Str} {np pos : Pos} {es : List Expr} {ds : List D} {d : D} {F : Addr} (hx : c.G.lookup x = some (.ptr F)) (hes : EvA c es ds) (hfn : ∀ h, c.P h → ∃ o fd, h.get? F = some o ∧ o.data = .func fd) (ho : OpL c ds (fun vs => call (.ref F) vs) d)
    (hd : (x == ("__debug__" : Str)) = false := by decide) (hn : (x == ("__classdict__" : Str)) = false := by decide) : Ev c (.Call (.Name x np) es [] pos) d := by
  intro A s Q E rm p hQ
  show wpAny _ A (do callWith pos (← eval (.Name x np) c.env) [] (backTo pos (starEach es c.env)) []) Q E s
  refine wpAny_bind (wpAny_nameV p hx (fun v hv => ?_) hd hn)
  (first | obtain ⟨_, rfl⟩ := Has.int_inv hv | obtain rfl := Has.bool_inv hv | obtain rfl := Has.ptr_inv hv | obtain rfl := HasL.nil_inv hv | obtain rfl := Has.none_inv hv | cases hv)
  obtain ⟨o, fd, h1, h2⟩ := hfn _ p
  by_cases hne : C.T F
  · -- a table is no function
    refine Calls.callWith_function (o := o) (fd := fd) ?_
    refine hes A s _ E pos _ rm p fun vs h₁ tk₁ x₁ w₁ g₁ => ⟨?_, ho A { s with heap := h₁, toks := tk₁ } Q E vs rm (p.ext x₁ w₁) g₁ fun v h₂ tk₂ x₂ w₂ g₂ => hQ _ _ _ (x₁.trans x₂) w₂ g₂⟩
    exfalso
    rcases hne with ⟨q, hq, rfl⟩ | rfl
    · obtain ⟨_, _, _, h3⟩ := p.wf.tab q hq
      rcases h3 with h3 | ⟨_, _, h3, _⟩ <;> (rw [h1] at h3; cases h3; cases h2)
    · obtain ⟨o', _, _, ho', hd', _⟩ := p.wf.b
      rw [h1] at ho'; cases ho'; rw [h2] at hd'; cases hd'
  · refine Calls.callWith_function (o := o) (fd := fd) ?_
    refine hes A s _ E pos _ rm p fun vs h₁ tk₁ x₁ w₁ g₁ => ⟨⟨x₁ F o hne h1, h2⟩, ?_⟩
    exact ho A { s with heap := h₁, toks := tk₁ } Q E vs rm (p.ext x₁ w₁) g₁ fun v h₂ tk₂ x₂ w₂ g₂ => hQ _ _ _ (x₁.trans x₂) w₂ g₂
theorem Ev.glob {x : Str} {pos : Pos} {i : Int} {t : Tok} (h1 : nsIn C.K mainGlobals x = some (some (.int i t))) (h2 : c.env.kindOf x = some .globalImplicit) (h3 : (x == ("__debug__" : Str)) = false := by decide) : Ev c (.Name x pos) (.int i) := by
  intro A s Q E rm p hQ
  exact Calls.Name_function_global p.at_.kind h2 (Calls.loadGlobal_global (by rw [p.at_.gl]; exact p.wf.g) (p.wf.glob h1) (hQ _ _ s.toks (Ext.refl _ _) p.wf (.int _ _))) h3

/-- the first def within a def of the text -/
def nestedOf (K : Frag) (fa : Addr) (cells : List (Str × Addr)) (qual : Str) : Option CloD := match K.lookup fa with
  | some ⟨_, _, .func fd, _⟩ => (match fd.body with
    | .stmts ss => ss.findSome? fun st => match st with
      | .FunctionDef name params body _ _ _ scope _ _ _ => some ⟨name, qual, params, body, scope, closL cells scope.names []⟩
      | _ => none
    | _ => none)
  | _ => none
/-- the list that a call of a made def has written -/
theorem Ctx.P.extBut {i : Nat} {a : Addr} {d d' : D} (p : c.P h) (hO : c.O = [(a, d)]) (k : ∀ b o, ¬ C.T b → b ≠ a → h.get? b = some o → h'.get? b = some o) (w : Wf C c.M h') (ow : Owns C h' c.M a d') : ({ c with O := [(a, d')] } : Ctx C).P h' := by
  have z := p.o (a, d) (by rw [hO]; exact List.mem_singleton.mpr rfl)
  have kM : ∀ b o, ¬ c.M b → h.get? b = some o → h'.get? b = some o := fun b o hb e => k b o (fun t => hb (p.wf.tM b t)) (fun q => hb (q ▸ z.m)) e
  have kL : ∀ o, h.get? c.env.locals = some o → h'.get? c.env.locals = some o := fun o e => k _ o p.at_.fT (Ne.symm z.l) e
  have kC : ∀ x b, c.env.cells.lookup x = some b → ∀ o, h.get? b = some o → h'.get? b = some o := fun x b hb o e => k b o (p.at_.cM x b hb).2.1 (Ne.symm (z.c x b hb)) e
  refine { at_ := { p.at_ with wf := w, ns := ?_, cC := ?_, vars := ?_ }, loc := p.loc, cel := p.cel, o := ?_, nd := by simp, nM := p.nM, x := ?_ }
  · obtain ⟨m, hn⟩ := p.at_.ns; exact ⟨m, hn.at kL⟩
  · intro x b e; obtain ⟨v, o, ho, hd⟩ := p.at_.cC x b e; exact ⟨v, o, kC x b e o ho, hd⟩
  · intro y dy e
    obtain ⟨v, b, hv⟩ := p.at_.vars y dy e
    exact ⟨v, b.at kL (fun cc hc => kC y cc hc), hv.keep kM⟩
  · intro q hq
    rw [List.mem_singleton.mp hq]
    exact ⟨ow, z.m, z.t, z.n, z.l, z.c⟩
  · refine c.I.keep p.x p.wf.tM fun b o t hb e => k b o t (fun q => ?_) e
    subst q
    exact hb.elim (fun n => n z.m) z.n
theorem Op.to {x y d d' : D} {t : Value → Value → Sem Value} (ho : Op c x y t d) (e : d = d') : Op c x y t d' := e ▸ ho
theorem Ev.to {x : Expr} {d d' : D} (ho : Ev c x d) (e : d = d') : Ev c x d' := e ▸ ho
theorem EvB.to {x : Expr} {d d' : Bool} (ho : EvB c x d) (e : d = d') : EvB c x d' := e ▸ ho
/-- a call of a made def that hands back a value and writes nothing old -/
theorem callClo_ret {M : ASet} {A : Around} {s : Shared} {Q : Value → Shared → Prop} {E : Value → Shared → Prop} {k : Nat} {F : Addr} {d : CloD} {Gf : List (Str × D)} {names : List Str} {vs : List Value} {ds : List D} {dr : D} (rm : Room (k + 1) A) (ca : CloAt C M s.heap F d Gf) (hv : HasL C s.heap M vs ds)
    (hbind : ∀ doc pm c' ctv, bindArgs (fnX d.name d.qual d.params d.body d.scope d.clos .none .none doc pm none (.ref c') ctv) ⟨vs, []⟩ = pure (names.zip vs)) (hlen : names.length = ds.length) (hnd : names.Nodup) (hkinds : ∀ x ∈ names, d.scope.names.lookup x = some .local)
    (hfk : ∀ x e, Gf.lookup x = some e → d.scope.names.lookup x = some .free)
    (hx : ∀ L cd M' (I : Inv C), Ex ⟨k, M', cloEnv d L F cd, names.zip ds ++ Gf, [], fun _ => false, I.clo F d⟩ d.body (RetR (I.clo F d) dr))
    (hQ : ∀ v h' tk, Ext C.T s.heap h' → Wf C M h' → Has C h' M v dr → Q v { s with heap := h', toks := tk })
    (hco2 : d.scope.isCoroutine = false) (hgen : d.scope.isGenerator = false) (hkind : d.scope.kind = .function) (hcell : (d.scope.names.all fun x => x.2 != .cell) = true) : wpAny (model C.prog C.w) A (call (.ref F) vs) Q E s := by
  refine wpAny_callClo (V := fun _ => False) (O := []) rm ca hv hbind hlen hnd hkinds hfk (fun q hq => by cases hq) List.nodup_nil (fun L cd h₁ tk c₁ e p₁ rm₁ => ?_) hco2 hgen hkind (fun x hx => by simpa using List.all_eq_true.mp hcell x hx)
  subst e
  refine hx L cd _ _ _ { s with heap := h₁, toks := tk } _ _ rm₁ p₁ fun f h' tk' hr => ?_
  obtain ⟨v, M', hf, wf', hN, hX, hv'⟩ := hr
  have sub : ∀ b, M b → M' b := fun b hb => hN b ⟨hb, fun q => q⟩
  have fin := hQ v h' tk' (fun b o t e => hX.1.1 b o t (fun q => q) e) (wf'.less sub ca.wf.tM) (hv'.anti sub)
  rcases hf with rfl | ⟨rfl, rfl⟩
  · exact fin
  · exact fin
def cellsOf (K : Frag) (fa L : Addr) : List (Str × Addr) := match K.lookup fa with
  | some ⟨_, _, .func fd, _⟩ => cellsFrom (L + 1) fd.scope.names []
  | _ => []
def nestedPos (K : Frag) (fa : Addr) : Pos := match K.lookup fa with
  | some ⟨_, _, .func fd, _⟩ => (match fd.body with
    | .stmts ss => (ss.findSome? fun st => match st with
      | .FunctionDef _ _ _ _ _ _ _ _ _ pos => some pos
      | _ => none).getD ⟨0, 0, 0, 0⟩
    | _ => ⟨0, 0, 0, 0⟩)
  | _ => ⟨0, 0, 0, 0⟩
def GfOk {C : Cfg} (c : Ctx C) (d : CloD) (Gf : List (Str × D)) : Prop := ∀ x e, Gf.lookup x = some e → c.G.lookup x = some e ∧ c.env.kindOf x ≠ some .local ∧ (d.clos.lookup x).isSome = true
theorem GfOk.nil {d : CloD} : GfOk c d [] := fun x e h => by cases h
theorem GfOk.cons {d : CloD} {x : Str} {e : D} {Gf : List (Str × D)} (r : GfOk c d Gf) (h1 : c.G.lookup x = some e := by rfl) (h2 : (c.env.kindOf x == some .local) = false := by rfl) (h3 : (d.clos.lookup x).isSome = true := by rfl) : GfOk c d ((x, e) :: Gf) := fun y ey hy => by
  rw [lookup_cons_if] at hy
  by_cases q : y = x
  · rw [if_pos q] at hy; cases hy; subst q
    exact ⟨h1, by simpa using h2, h3⟩
  · rw [if_neg q] at hy; exact r y ey hy
def FreeIn (d : CloD) (Gf : List (Str × D)) : Prop := ∀ x e, Gf.lookup x = some e → d.scope.names.lookup x = some .free
theorem FreeIn.nil {d : CloD} : FreeIn d [] := fun x e h => by cases h
theorem FreeIn.cons {d : CloD} {x : Str} {e : D} {Gf : List (Str × D)} (r : FreeIn d Gf) (h1 : d.scope.names.lookup x = some .free := by rfl) : FreeIn d ((x, e) :: Gf) := fun y ey hy => by
  rw [lookup_cons_if] at hy
  by_cases q : y = x
  · subst q; exact h1
  · rw [if_neg q] at hy; exact r y ey hy
theorem CloP.func {F : Addr} {d : CloD} {M : ASet} (x : CloP F d M h) : ∃ o fd, h.get? F = some o ∧ o.data = .func fd := let ⟨_, _, _, _, _, e, _⟩ := x; ⟨_, _, e, rfl⟩
end
end Mine
end
section
open PySem PySem.W PySem.Calls PyProof.Rows
namespace Mine
/-! the call of the law from outside -/
def quad (K : Frag) (tabs : List (Addr × Addr × Pos × Str)) : Bool := tabs.all fun q => (K.lookup q.2.1).isNone && decide (q.2.1 ≠ builtinsNs) && decide (q.2.1 ≠ mainGlobals) && decide (q.2.1 ≠ cStatics) && decide (q.1 ≠ builtinsNs) && tabs.all fun r => decide (q.1 ≠ r.2.1)
theorem wf_top {p : Program} {loose : List Str} {mean : ExcName → Option Value} {mg mb : Str → Option Value} {h : Heap} {prog : Program} {w : World} {K : Frag} {tabs : List (Addr × Addr × Pos × Str)} {ob : Obj}
    (T : Top p loose mean mg mb h) (X : K.In h) (hT : TabsAt (tabs.map fun q => (q.1, q.2.1)) h) (ok : quad K tabs = true) (hK0 : K.lookup builtinsNs = none) (hob : h.get? builtinsNs = some ob) : Wf ⟨prog, w, mg, mb, K, tabs, ob⟩ (Cfg.T ⟨prog, w, mg, mb, K, tabs, ob⟩) h := by
  have ok' : ∀ q ∈ tabs, K.lookup q.2.1 = none ∧ q.2.1 ≠ builtinsNs ∧ q.2.1 ≠ mainGlobals ∧ q.2.1 ≠ cStatics ∧ q.1 ≠ builtinsNs ∧ ∀ r ∈ tabs, q.1 ≠ r.2.1 := fun q hq => by
    have := List.all_eq_true.mp ok q hq
    simp only [Bool.and_eq_true, decide_eq_true_eq, List.all_eq_true, Option.isNone_iff_eq_none] at this
    obtain ⟨⟨⟨⟨⟨a, b⟩, c⟩, d⟩, e⟩, f⟩ := this
    exact ⟨a, b, c, d, e, f⟩
  have ht : ∀ q ∈ tabs, CodeHd h q.1 q.2.1 ∧ h.get? q.2.1 = some (tabObj #[]) := fun q hq => hT (q.1, q.2.1) (List.mem_map.mpr ⟨q, hq, rfl⟩)
  have ns : ∀ {m : Str → Option Value}, h.Ns builtinsNs m → ∃ o es n, h.get? builtinsNs = some o ∧ o.data = .dict es n := fun ⟨o, es, n, e, d, _⟩ => ⟨o, es, n, e, d⟩
  refine { tM := fun _ t => t, lt := ?_, g := T.g, gM := ?_, b := T.b, b0 := hob, bi := T.builtins, nl := T.nolimit, nM := ?_, k := fun a o e => ⟨X a o e, ?_⟩, bt := ?_, tab := ?_ }
  · rintro a (⟨q, hq, rfl⟩ | rfl)
    · exact ⟨_, (ht q hq).2⟩
    · exact ⟨_, hob⟩
  · rintro (⟨q, hq, e⟩ | e)
    · exact (ok' q hq).2.2.1 e
    · exact absurd e (by decide)
  · rintro (⟨q, hq, e⟩ | e)
    · exact (ok' q hq).2.2.2.1 e
    · exact absurd e (by decide)
  · rintro (⟨q, hq, rfl⟩ | rfl)
    · rw [(ok' q hq).1] at e; cases e
    · rw [hK0] at e; cases e
  · obtain ⟨bm, o, h1, h2, h3, h4, h5, h6⟩ := T.bmain
    refine ⟨bm, o, h1, h2, ?_, h3, h4, h5, h6, ?_⟩
    · rintro rfl
      obtain ⟨o', es, n, e, d, _⟩ := T.g
      rw [h3] at e; cases e
      rw [h6] at d; cases d
    · rintro (⟨q, hq, e⟩ | e)
      · have := (ht q hq).2
        rw [show q.2.1 = bm from e, h3] at this
        cases this; cases h4
      · exact h2 e
  · intro q hq
    obtain ⟨a, b, c, d, e, f⟩ := ok' q hq
    refine ⟨b, ?_, (ht q hq).1, .inl (ht q hq).2⟩
    rintro (⟨r, hr, z⟩ | z)
    · exact f r hr z.symm
    · exact e z
theorem oldK_of {C : Cfg} {M : ASet} {h h' : Heap} (x : Ext C.T h h') (w : Wf C M h') (hob : h.get? builtinsNs = some C.ob) (hT : TabsAt (C.tabs.map fun q => (q.1, q.2.1)) h) : OldK h h' := by
  have tabs : ∀ q ∈ C.tabs, CodeHd h q.1 q.2.1 ∧ h.get? q.2.1 = some (tabObj #[]) := fun q hq => hT (q.1, q.2.1) (List.mem_map.mpr ⟨q, hq, rfl⟩)
  have grown : ∀ q ∈ C.tabs, ∃ ps, h'.get? q.2.1 = some (tabObj ps) := fun q hq => by
    obtain ⟨_, _, _, h3⟩ := w.tab q hq
    rcases h3 with h3 | ⟨c', _, h3, _⟩
    · exact ⟨_, h3⟩
    · exact ⟨_, h3⟩
  refine ⟨fun b o e => ?_, fun b o e => ?_⟩
  · by_cases hb : C.T b
    · rcases hb with ⟨q, hq, rfl⟩ | rfl
      · obtain ⟨ps, hP⟩ := grown q hq
        have e2 := (tabs q hq).2
        rw [e] at e2; cases e2
        exact .inr (.inl ⟨((tabs q hq).1.tab (tabs q hq).2).isCodeTable, rfl, #[], ps, rfl, by rw [Array.empty_append]; exact hP⟩)
      · rw [hob] at e; cases e
        exact .inl w.b0
    · exact .inl (x b o hb e)
  · by_cases hb : C.T b
    · rcases hb with ⟨q, hq, rfl⟩ | rfl
      · obtain ⟨ps, hP⟩ := grown q hq; exact ⟨_, hP⟩
      · exact ⟨_, w.b0⟩
    · exact ⟨o, x b o hb e⟩
theorem join {p : Program} {loose : List Str} {mean mean' : ExcName → Option Value} {mg mb : Str → Option Value} {s₁ : Shared} {prog : Program} {w : World} {K : Frag} {tabs : List (Addr × Addr × Pos × Str)} {cw : ClaimW} {cl : Str → Option Addr} {args : List WData}
    {fa a : Addr} {vs : List Value} {ns : List Int} {k : Nat} (T : Top p loose mean mg mb s₁.heap) (X : K.In s₁.heap) (hT : TabsAt (tabs.map fun q => (q.1, q.2.1)) s₁.heap) (ok : quad K tabs = true) (hK0 : K.lookup builtinsNs = none)
    (hL : s₁.heap.IsList a vs.toArray) (hI : IntsAre vs ns) (hg : s₁.gens = #[]) (hk : k ≤ 400) (hr : ∀ cls, cw.raises args cls = false) (hp : cw.post args (.bool true) args = true)
    (F : ∀ ob, Fn ⟨prog, w, mg, mb, K, tabs, ob⟩ k fa [.lst (ns.map .int)] (.bool true)) :
    wpAny (model prog w) callerA (call (.ref fa) [.ref a]) (fun v s' => GoodWG cw cl mean' args s₁ (.ok (.ret v)) s') (fun e s' => GoodWG cw cl mean' args s₁ (.error e) s') s₁ := by
  obtain ⟨ob, es, n, hob, hdo, _⟩ := id T.b
  have wf := wf_top (prog := prog) (w := w) T X hT ok hK0 hob
  refine F ob (Cfg.T ⟨prog, w, mg, mb, K, tabs, ob⟩) callerA s₁ _ _ [.ref a] ⟨rfl, ?_, ?_⟩ wf (.cons (.lst ?_ hL ?_) .nil) fun v h' tk x w' g => ?_
  · show 1 + claimMargin + k < recursionLimit
    have : claimMargin ≤ 400 := by decide
    have : recursionLimit = 1000 := rfl
    omega
  · show 4 + 8 * k + 8 < cLine
    have : cLine = 9900 := rfl
    omega
  · obtain ⟨o, ho, hc, m, hd⟩ := hL
    rintro (⟨q, hq, rfl⟩ | rfl)
    · have := (hT (q.1, q.2.1) (List.mem_map.mpr ⟨q, hq, rfl⟩)).2
      rw [ho] at this; cases this; cases hc
    · rw [hob] at ho; cases ho; rw [hdo] at hd; cases hd
  · simpa using HasL.ints hI
  · (first | obtain ⟨_, rfl⟩ := Has.int_inv g | obtain rfl := Has.bool_inv g | obtain rfl := Has.ptr_inv g | obtain rfl := HasL.nil_inv g | obtain rfl := Has.none_inv g | cases g)
    exact ⟨.inl ⟨_, .bool true, [], rfl, hr, .bool _, hp, fun _ => ⟨List.nodup_nil, fun _ h => by cases h⟩⟩, oldK_of x w' hob hT, rfl, .of_eq hg⟩
end Mine
end
section
open PySem PySem.W PyProof.Rows
namespace Mine
open_top hd01 for PySem.Challenge.rw_hs0001_01
end Mine
end
section
open PySem PySem.W PySem.Calls PyProof.Rows
namespace Mine
theorem sum_take (ns : List Int) {i : Nat} {x : Int} (h : ns[i]? = some x) : (ns.take (i + 1)).sum = (ns.take i).sum + x := by
  rw [List.take_add_one, h, List.sum_append]; simp
theorem count_calls_ok {C : Cfg} {p : Params} (hK : C.K = hd01.heap_39 p) (es : ES) : Fn C 1 28 [.dic es] (.int (es.map (·.2)).sum) := by
  refine Fn.mk (names := ["callers"]) (k := 0) (by rw [hK]; rfl) (by rfl) (by rfl) (by rfl) (by rw [hK]; rfl) (by rfl) (by rfl) ?_ (by rfl) (by decide) ?_ ?_
  · intro vs h
    obtain ⟨a, rfl⟩ := len1 h
    rfl
  · intro x hx
    simp only [List.mem_singleton] at hx
    subst hx; exact .inl (by rfl)
  · intro L M I
    refine .assign Ev.int (.inl (by rfl)) ?_
    refine .forL es (fun q => .int q.2) (fun i => [("nc", .int ((es.map (·.2)).take i).sum), ("callers", .dic es)]) (fun _ => []) (EvI.vals (Ev.valuesOf (Ev.name (by rfl)))) trivial (.cons (.cons .nil)) rfl ?_ ?_
    · intro i q hq M I
      refine ⟨_, Tg.name (.inl (by rfl)), rfl, rfl, ?_⟩
      have e := sum_take (es.map (·.2)) (i := i) (x := q.2) (by rw [List.getElem?_map, hq]; rfl)
      exact .aug (d₀ := .int ((es.map (·.2)).take i).sum) (d₁ := .int q.2) (by rfl) (Ev.name (by rfl)) Op.iadd (.inl (by rfl)) (.turnG (.cons (.cons .nil) (by rw [e]; rfl)))
    · refine .ret (Ev.name (by rfl)) fun v h p hv => RetR.of p ?_
      have e : (es.map (·.2)).take es.length = es.map (·.2) := by rw [List.take_of_length_le (by simp)]
      rw [e] at hv
      exact hv
end Mine
end
section
open PySem PySem.W PySem.Calls PyProof.Rows
namespace Mine
/-! add_callers, in plain words -/
def copyD (es : ES) : ES := es.foldl (fun acc p => dset acc p.1 p.2) []
def addOne (acc : ES) (p : List Atom × Int) : ES := match dget acc p.1 with | some v => dset acc p.1 (v + p.2) | none => dset acc p.1 p.2
def addD (es src : ES) : ES := src.foldl addOne (copyD es)
theorem dset_len (es : ES) (k : List Atom) (i : Int) : (dset es k i).length ≤ es.length + 1 := by
  unfold dset; split <;> simp
theorem addOne_len (es : ES) (p : List Atom × Int) : (addOne es p).length ≤ es.length + 1 := by
  unfold addOne; split <;> exact dset_len _ _ _
theorem fold_len {f : ES → List Atom × Int → ES} (hf : ∀ a p, (f a p).length ≤ a.length + 1) : ∀ (l : ES) (a : ES), (l.foldl f a).length ≤ a.length + l.length
  | [], a => Nat.le_refl _
  | p :: r, a => by
    rw [List.foldl_cons, List.length_cons]
    have := fold_len hf r (f a p)
    have := hf a p
    omega
theorem fold_take {α β : Type} (f : β → α → β) (b : β) (l : List α) {i : Nat} {x : α} (h : l[i]? = some x) : (l.take (i + 1)).foldl f b = f ((l.take i).foldl f b) x := by
  rw [List.take_add_one, h, List.foldl_append]; rfl

theorem add_callers_ok {C : Cfg} {p : Params} (hK : C.K = hd01.heap_39 p) (es src : ES) (hsz : es.length + src.length ≤ sizeLine) : Fn C 1 21 [.dic es, .dic src] (.dic (addD es src)) := by
  have bi1 : ∀ env : Env, env.kindOf "isinstance" = some .globalImplicit → Bi C env "isinstance" (.builtin "isinstance") := fun env h => ⟨by rw [hK]; rfl, by rfl, h, by decide, by decide⟩
  have bi2 : ∀ env : Env, env.kindOf "tuple" = some .globalImplicit → Bi C env "tuple" (.type "tuple") := fun env h => ⟨by rw [hK]; rfl, by rfl, h, by decide, by decide⟩
  refine Fn.mk (names := ["target", "source"]) (k := 0) (by rw [hK]; rfl) (by rfl) (by rfl) (by rfl) (by rw [hK]; rfl) (by rfl) (by rfl) ?_ (by rfl) (by decide) ?_ ?_
  · intro vs h
    obtain ⟨a, b, rfl⟩ := len2 h
    rfl
  · intro x hx
    simp only [List.mem_cons, List.not_mem_nil, or_false] at hx
    rcases hx with rfl | rfl <;> exact .inl (by rfl)
  · intro L M I
    refine .assignF EvF.dict (.inl (by rfl)) fun a => ?_
    refine .forL es (fun q => .tup [tupOf q.1, .int q.2]) (fun i => [("new_callers", .ptr a), ("source", .dic src)]) (fun i => [(a, .dic ((es.take i).foldl (fun acc p => dset acc p.1 p.2) []))]) (EvI.items (Ev.itemsOf (Ev.name (by rfl)))) ⟨_, _, _, rfl⟩ (.cons (.cons .nil)) rfl ?_ ?_
    · intro i q hq M I
      refine ⟨_, Tg.tuple (.cons (Tg.name (.inl (by rfl))) (.cons (Tg.name (.inl (by rfl))) .nil)) (by rfl), rfl, rfl, ?_⟩
      have hl : ((es.take i).foldl (fun acc p => dset acc p.1 p.2) []).length ≤ sizeLine := by
        have := fold_len (f := fun acc p => dset acc p.1 p.2) (fun a p => dset_len a p.1 p.2) (es.take i) []
        have h2 : (es.take i).length ≤ es.length := by simp; omega
        simp only [List.length_nil] at this
        omega
      have e := fold_take (fun (acc : ES) (p : List Atom × Int) => dset acc p.1 p.2) [] es hq
      exact .setD 0 (j := q.2) (k := q.1) (Ev.name (by rfl)) (Ev.name (by rfl)) (Ev.name (by rfl)) hl (.turnG (.cons (.cons .nil)) (by rw [show (List.foldl (fun acc p => dset acc p.1 p.2) [] (List.take (i + 1) es)) = _ from e]; rfl))
    · have e0 : es.take es.length = es := List.take_of_length_le (Nat.le_refl _)
      refine .forL src (fun q => .tup [tupOf q.1, .int q.2]) (fun i => [("new_callers", .ptr a)]) (fun i => [(a, .dic ((src.take i).foldl addOne (copyD es)))]) (EvI.items (Ev.itemsOf (Ev.name (by rfl)))) ⟨_, _, _, rfl⟩ (.cons .nil) (by show [(a, D.dic _)] = [(a, D.dic _)]; rw [e0]; rfl) ?_ ?_
      · intro i q hq M I
        refine ⟨_, Tg.tuple (.cons (Tg.name (.inl (by rfl))) (.cons (Tg.name (.inl (by rfl))) .nil)) (by rfl), rfl, rfl, ?_⟩
        have hl : ((src.take i).foldl addOne (copyD es)).length ≤ sizeLine := by
          have h1 := fold_len (f := fun acc p => dset acc p.1 p.2) (fun a p => dset_len a p.1 p.2) es []
          have h2 := fold_len (f := addOne) addOne_len (src.take i) (copyD es)
          have h3 : (src.take i).length ≤ src.length := by simp; omega
          have h4 : (copyD es).length ≤ es.length := by simpa [copyD] using h1
          omega
        have e := fold_take addOne (copyD es) src hq
        generalize hacc : (src.take i).foldl addOne (copyD es) = acc at hl e
        refine .ite (EvB.cmp (Ev.name (d := tupOf q.1) (by rfl)) (Ev.name (d := .ptr a) (by rfl)) (Op.inO (es := acc) (a := a) 0)) ?_
        cases hg : dget acc q.1 with
        | none =>
          exact .setD 0 (es := acc) (j := q.2) (k := q.1) (Ev.name (by rfl)) (Ev.name (by rfl)) (Ev.name (by rfl)) hl (.nil fun h p => .intro (c' := _) (.turnG (.cons .nil) (by
            show [(a, D.dic _)] = [(a, D.dic _)]
            rw [e]; unfold addOne; rw [hg])) p)
        | some v =>
          refine .ite (EvB.isInst (bi1 _ (by rfl)) (bi2 _ (by rfl)) (Ev.name (d := .int q.2) (by rfl))) ?_
          refine .augD 0 (es := acc) (j := q.2) (k := q.1) (Ev.name (by rfl)) (Ev.name (by rfl)) (Ev.name (by rfl)) hg hl (.nil fun h p => ?_)
          refine .intro (c' := _) (.nil fun h p => .intro (c' := _) (.turnG (.cons .nil) (by
            show [(a, D.dic _)] = [(a, D.dic _)]
            rw [e]; unfold addOne; rw [hg])) p) p
      · have e1 : src.take src.length = src := List.take_of_length_le (Nat.le_refl _)
        refine .frz 0 "new_callers" (a := a) (d := .dic ((src.take src.length).foldl addOne (copyD es))) ?_
        refine .ret (Ev.name (by rfl)) fun v h p hv => RetR.of p ?_
        rw [e1] at hv
        exact hv
end Mine
end
section
open PySem PySem.W PySem.Calls PyProof.Rows
namespace Mine
theorem div2_ok {C : Cfg} {p : Params} (hK : C.K = hd01.heap_39 p) {a b n : Int} (ha : 0 ≤ a) (ha2 : a < 2 ^ 60) (hb : 0 < b) (hb2 : b < 2 ^ 20) (hn : 0 ≤ n) : Fn C 1 35 [.int a, .int b, .int n] (.tup [.int (a / b), .int (a % b)]) := by
  have bi : ∀ env : Env, env.kindOf "divmod" = some .globalImplicit → Bi C env "divmod" (.builtin "divmod") := fun env h => ⟨by rw [hK]; rfl, by rfl, h, by decide, by decide⟩
  have hbits : (Builtin.Int.intBits a : Int) ≤ 64 := by have := intBits_le_64 (k := a) (by omega) (by omega); omega
  refine Fn.mk (names := ["a", "b", "n"]) (k := 0) (by rw [hK]; rfl) (by rfl) (by rfl) (by rfl) (by rw [hK]; rfl) (by rfl) (by rfl) ?_ (by rfl) (by decide) ?_ ?_
  · intro vs h
    obtain ⟨a, b, c, rfl⟩ := len3 h
    rfl
  · intro x hx
    simp only [List.mem_cons, List.not_mem_nil, or_false] at hx
    rcases hx with rfl | rfl | rfl <;> exact .inl (by rfl)
  · intro L M I
    obtain ⟨t, g⟩ : ∃ t, nsIn C.K mainGlobals "_DIV_LIMIT" = some (some (.int 4000 t)) := ⟨_, by rw [hK]; rfl⟩
    refine .ite (b := true) (EvB.cmp (x := .int ((Builtin.Int.intBits a : Int) - n)) (y := .int 4000) (Ev.bin (Ev.bits (a := a) (Ev.name (by rfl))) (Ev.name (d := .int n) (by rfl)) Op.sub) (Ev.glob g (by rfl)) (Op.le.to (congrArg D.bool (decide_eq_true (by omega))))) ?_
    refine .ret (Ev.callB (bi _ (by rfl)) (.cons (Ev.name (by rfl)) (.cons (Ev.name (by rfl)) .nil)) (OpL.divmod (a := a) (b := b) (by omega) (by omega))) fun v h p hv => RetR.of p ?_
    rw [Int.fdiv_eq_ediv_of_nonneg _ (by omega), Int.fmod_eq_emod_of_nonneg _ (by omega)] at hv
    exact hv

/-! figures to the base 2^n -/
def valB (n : Nat) : List Int → Int
  | [] => 0
  | d :: r => d + 2 ^ n * valB n r
theorem valB_append (n : Nat) : ∀ (x y : List Int), valB n (x ++ y) = valB n x + 2 ^ (n * x.length) * valB n y
  | [], y => by simp [valB]
  | d :: x, y => by
    rw [List.cons_append, valB, valB_append n x y, valB, List.length_cons, Nat.mul_add, Nat.mul_one, Int.pow_add, Int.mul_add, ← Int.mul_assoc, Int.mul_comm (2 ^ n) (2 ^ (n * x.length))]
    omega
theorem valB_bound (n : Nat) : ∀ (x : List Int), (∀ d ∈ x, 0 ≤ d ∧ d < 2 ^ n) → 0 ≤ valB n x ∧ valB n x < 2 ^ (n * x.length)
  | [], _ => by simp [valB]
  | d :: x, h => by
    obtain ⟨h1, h2⟩ := valB_bound n x fun e he => h e (List.mem_cons_of_mem _ he)
    obtain ⟨h3, h4⟩ := h d List.mem_cons_self
    rw [valB, List.length_cons, Nat.mul_add, Nat.mul_one, Int.pow_add]
    have hp : (0 : Int) < 2 ^ n := Int.pow_pos (by decide)
    have e1 : 0 ≤ (2 : Int) ^ n * valB n x := Int.mul_nonneg (by omega) h1
    have e2 : (2 : Int) ^ n * (valB n x + 1) ≤ 2 ^ n * 2 ^ (n * x.length) := Int.mul_le_mul_of_nonneg_left (by omega) (by omega)
    rw [Int.mul_add, Int.mul_one] at e2
    rw [Int.mul_comm (2 ^ (n * x.length)) (2 ^ n)]
    omega
def part (ds : List Int) (L R : Nat) : List Int := (ds.drop L).take (R - L)
theorem part_split {ds : List Int} {L m R : Nat} (h1 : L ≤ m) (h2 : m ≤ R) : part ds L R = part ds L m ++ part ds m R := by
  unfold part
  have e : (ds.drop L).take (R - L) = (ds.drop L).take ((m - L) + (R - m)) := by congr 1; omega
  rw [e, List.take_add, List.drop_drop]
  congr 3
  omega
theorem part_length {ds : List Int} {L R : Nat} (h : R ≤ ds.length) : (part ds L R).length = R - L := by
  unfold part; simp; omega
theorem part_one {ds : List Int} {L : Nat} {d : Int} (h : ds[L]? = some d) : part ds L (L + 1) = [d] := by
  unfold part
  obtain ⟨hl, e⟩ := List.getElem?_eq_some_iff.mp h
  rw [show L + 1 - L = 1 from by omega, List.drop_eq_getElem_cons hl, e]
  rfl
theorem part_mem {ds : List Int} {L R : Nat} {d : Int} (h : d ∈ part ds L R) : d ∈ ds := List.mem_of_mem_drop (List.mem_of_mem_take h)
end Mine
end
section
open PySem PySem.W PySem.Calls PyProof.Rows
namespace Mine
def tabsOf (K : Frag) : List (Addr × Addr × Pos × Str) := [(55, 51, nestedPos K 56, "_digits2int.<locals>.inner"), (48, 44, nestedPos K 49, "_int2digits.<locals>.inner")]
theorem shr1 {x : Int} (h : 0 ≤ x) : x.fdiv (2 ^ (1 : Int).toNat) = x / 2 := by
  rw [show (2 : Int) ^ (1 : Int).toNat = 2 from rfl, Int.fdiv_eq_ediv_of_nonneg _ (by decide)]
theorem d2i_inner {C : Cfg} {p : Params} (hK : C.K = hd01.heap_39 p) {L₀ : Addr} {d : CloD} (hd : nestedOf (hd01.heap_39 p) 56 (cellsOf (hd01.heap_39 p) 56 L₀) "_digits2int.<locals>.inner" = some d) {n : Nat} {ds : List Int} (hn : ∀ d ∈ ds, 0 ≤ d ∧ d < 2 ^ n) (hl : n * ds.length ≤ 60) (hl2 : ds.length ≤ 60) {F : Addr} :
    ∀ (m L R : Nat), L < R → R ≤ ds.length → R - L ≤ m → ∀ (M : ASet) (A : Around) (s : Shared) (Q : Value → Shared → Prop) (E : Value → Shared → Prop) (vs : List Value), Room m A → CloAt C M s.heap F d [("digits", iL ds), ("n", .int n), ("inner", .ptr F)] → HasL C s.heap M vs [.int L, .int R] →
      (∀ v h' tk, Ext C.T s.heap h' → Wf C M h' → Has C h' M v (.int (valB n (part ds L R))) → Q v { s with heap := h', toks := tk }) → wpAny (model C.prog C.w) A (call (.ref F) vs) Q E s := by
  change some _ = some d at hd
  cases hd
  intro m
  induction m with
  | zero => intro L R h1 h2 h3; omega
  | succ m ih =>
    intro L R h1 h2 h3 M A s Q E vs rm ca hv hQ
    refine callClo_ret (names := ["L", "R"]) (k := m) rm ca hv ?_ (by rfl) (by decide) ?_ ?_ ?_ hQ (by rfl) (by rfl) (by rfl) (by rfl)
    · intro doc pm c' ctv
      have := hv.length
      obtain ⟨a, b, rfl⟩ := len2 this
      rfl
    · intro x hx
      simp only [List.mem_cons, List.not_mem_nil, or_false] at hx
      rcases hx with rfl | rfl <;> rfl
    · exact FreeIn.cons (.cons (.cons .nil))
    · intro L' cd M' I
      by_cases h1' : L + 1 = R
      · subst h1'
        obtain ⟨x, hx⟩ : ∃ x, ds[L]? = some x := ⟨ds[L]'(by omega), List.getElem?_eq_getElem (by omega)⟩
        refine .ite (b := true) (EvB.cmp (x := .int ((L : Int) + 1)) (y := .int ((L + 1 : Nat) : Int)) (Ev.bin (Ev.name (d := .int L) (by rfl)) Ev.int Op.add) (Ev.name (by rfl)) (Op.eq.to (congrArg D.bool (by simp)))) ?_
        refine .ret (Ev.sub (Ev.name (d := iL ds) (by rfl)) (Ev.name (d := .int (L : Int)) (by rfl)) (Item.lst (by omega) (by omega) (by rw [Int.toNat_natCast, List.getElem?_map, hx]; rfl))) fun v h p hv => RetR.of p ?_
        rw [part_one hx]
        simpa [valB] using hv
      · have hn60 : n ≤ 60 := Nat.le_trans (Nat.le_mul_of_pos_right n (by omega)) hl
        have hm : ∃ mid : Nat, mid = (L + R) / 2 := ⟨_, rfl⟩
        obtain ⟨mid, hmid⟩ := hm
        refine .ifF (EvB.cmp (x := .int ((L : Int) + 1)) (y := .int (R : Int)) (Ev.bin (Ev.name (d := .int L) (by rfl)) Ev.int Op.add) (Ev.name (by rfl)) (Op.eq.to (congrArg D.bool (by simp; omega)))) ?_
        refine .assign (d := .int (mid : Int)) ((Ev.bin (x := .int ((L : Int) + R)) (y := .int 1) (Ev.bin (Ev.name (d := .int L) (by rfl)) (Ev.name (d := .int R) (by rfl)) Op.add) Ev.int (Op.shr (by decide))).to (by rw [shr1 (by omega), hmid]; congr 1)) (.inl (by rfl)) ?_
        refine .assign (d := .int ((((mid - L : Nat) * n : Nat) : Int))) ((Ev.bin (x := .int ((mid : Int) - L)) (y := .int n) (Ev.bin (Ev.name (d := .int mid) (by rfl)) (Ev.name (d := .int L) (by rfl)) Op.sub) (Ev.name (by rfl)) (Op.mul (by omega) (by omega))).to (by congr 1; rw [Int.natCast_mul, Int.ofNat_sub (by omega)])) (.inl (by rfl)) ?_
        have hs1 : (mid - L) * n ≤ 60 := Nat.le_trans (Nat.mul_le_mul_right n (show mid - L ≤ ds.length by omega)) (by rw [Nat.mul_comm]; exact hl)
        have hb := valB_bound n (part ds mid R) fun e he => hn e (part_mem he)
        rw [part_length h2] at hb
        have hb2 : (2 : Int) ^ (n * (R - mid)) ≤ 2 ^ 60 := by
          have : n * (R - mid) ≤ 60 := Nat.le_trans (Nat.mul_le_mul_left n (show R - mid ≤ ds.length by omega)) hl
          exact_mod_cast Nat.pow_le_pow_right (by decide) this
        refine .ret (d := .int (valB n (part ds mid R) * 2 ^ (((mid - L) * n : Nat) : Int).toNat + valB n (part ds L mid))) (Ev.bin (Ev.bin (x := .int (valB n (part ds mid R)))
          (Ev.callC (F := F) (ds := [.int (mid : Int), .int (R : Int)]) (by rfl) (.cons (.cons (Ev.name (by rfl)) (.cons (Ev.name (by rfl)) .nil))) (fun h p => p.x.2.func) fun A s Q E vs rm p hv hQ => ih mid R (by omega) h2 (by omega) _ A s Q E vs rm (CloAt.of p p.x.2 (fun _ _ e => e) (GfOk.cons (.cons (.cons .nil)))) hv hQ)
          (Ev.name (by rfl)) (Op.shl (by omega) (by omega) (by omega)))
          (Ev.callC (F := F) (ds := [.int (L : Int), .int (mid : Int)]) (by rfl) (.cons (.cons (Ev.name (by rfl)) (.cons (Ev.name (by rfl)) .nil))) (fun h p => p.x.2.func) fun A s Q E vs rm p hv hQ => ih L mid (by omega) (by omega) (by omega) _ A s Q E vs rm (CloAt.of p p.x.2 (fun _ _ e => e) (GfOk.cons (.cons (.cons .nil)))) hv hQ)
          Op.add) fun v h p hv => RetR.of p ?_
        rw [part_split (show L ≤ mid by omega) (show mid ≤ R by omega), valB_append, part_length (by omega)]
        have e : valB n (part ds mid R) * 2 ^ (((mid - L) * n : Nat) : Int).toNat + valB n (part ds L mid) = valB n (part ds L mid) + 2 ^ (n * (mid - L)) * valB n (part ds mid R) := by
          rw [Int.toNat_natCast, Nat.mul_comm (mid - L) n, Int.mul_comm, Int.add_comm]
        rw [← e]
        exact hv
end Mine
end
section
open PySem PySem.W PySem.Calls PyProof.Rows
namespace Mine
theorem Ex.def {C : Cfg} {c : Ctx C} {rest : List Stmt} {R : Flow → Heap → Prop} {name : Str} {params : Arguments} {body : List Stmt} {scope : Scope} {pos : Pos} {q : Addr × Addr × Pos × Str} (hq : q ∈ C.tabs) (hd : ∀ r ∈ C.tabs, r.2.1 = q.2.1 → r = q) (hcode : c.env.code = .ref q.1) (hpos : q.2.2.1 = pos) (hqual : qualnameIn c.env name name = q.2.2.2)
    (hfree : (scope.names.all fun x => x.2 != .free || (c.env.cells.lookup x.1).isSome) = true) (w : Wr c name)
    (hr : ∀ F, Ex ((c.clo F ⟨name, q.2.2.2, params, body, scope, closL c.env.cells scope.names []⟩).set name (.ptr F)) rest R)
    (hd0 : params.defaults = [] := by rfl) (hk0 : params.kw_defaults = [] := by rfl) (ha : annTrees params none c.env = [] := by rfl) : Ex c (.FunctionDef name params body [] none [] scope none name pos :: rest) R :=
  .seq (Ex1.def hq hd hcode hpos hqual (fun x hx hk => by have := List.all_eq_true.mp hfree x hx; rw [hk] at this; simpa using this) w (fun F h p => ⟨(c.clo F ⟨name, q.2.2.2, params, body, scope, closL c.env.cells scope.names []⟩).set name (.ptr F), rfl, rfl, p, hr F⟩) hd0 hk0 ha)
theorem tabs_one {K : Frag} {q : Addr × Addr × Pos × Str} (hq : q ∈ tabsOf K) : ∀ r ∈ tabsOf K, r.2.1 = q.2.1 → r = q := by
  intro r hr e
  unfold tabsOf at hq hr
  simp only [List.mem_cons, List.not_mem_nil, or_false] at hq hr
  rcases hq with rfl | rfl <;> rcases hr with rfl | rfl
  · rfl
  · exact absurd (show (44 : Nat) = 51 from e) (by decide)
  · exact absurd (show (51 : Nat) = 44 from e) (by decide)
  · rfl
theorem RetR.unclo {C : Cfg} {I : Inv C} {F : Addr} {d : CloD} {dr : D} {f : Flow} {h : Heap} (x : RetR (I.clo F d) dr f h) : RetR I dr f h := let ⟨v, M, a, b, e, g, k⟩ := x; ⟨v, M, a, b, e, g.1, k⟩
theorem d2i_ok {C : Cfg} {p : Params} (hK : C.K = hd01.heap_39 p) (hT : C.tabs = tabsOf (hd01.heap_39 p)) {n : Nat} {ds : List Int} (hn : ∀ d ∈ ds, 0 ≤ d ∧ d < 2 ^ n) (hl : n * ds.length ≤ 60) (hl2 : ds.length ≤ 60) : Fn C (ds.length + 1) 56 [iL ds, .int n] (.int (valB n ds)) := by
  have bi : ∀ env : Env, env.kindOf "len" = some .globalImplicit → Bi C env "len" (.builtin "len") := fun env h => ⟨by rw [hK]; rfl, by rfl, h, by decide, by decide⟩
  refine Fn.mk (names := ["digits", "n"]) (k := ds.length) (by rw [hK]; rfl) (by rfl) (by rfl) (by rfl) (by rw [hK]; rfl) (by rfl) (by rfl) ?_ (by rfl) (by decide) ?_ ?_
  · intro vs h
    obtain ⟨a, b, rfl⟩ := len2 h
    rfl
  · intro x hx
    simp only [List.mem_cons, List.not_mem_nil, or_false] at hx
    rcases hx with rfl | rfl <;> exact .inr ⟨by rfl, fun n => by rfl⟩
  · intro L M I
    refine Ex.def (q := (55, 51, nestedPos (hd01.heap_39 p) 56, "_digits2int.<locals>.inner")) (by rw [hT]; exact List.mem_cons_self ..) (by rw [hT]; exact tabs_one (List.mem_cons_self ..)) (by rfl) (by rfl) (by rfl) (by rfl) (.inr ⟨by rfl, by rfl, by rfl⟩) fun F => ?_
    have hsz : (ds.map D.int).length ≤ sizeLine := by rw [sizeLine_eq, List.length_map]; omega
    by_cases hds : ds = []
    · refine .ret (d := .int 0) (Ev.ifF ((EvB.list (ds := ds.map .int) (Ev.name (by rfl)) hsz).to (by rw [hds]; rfl)) Ev.int) fun v h p hv => (RetR.of p ?_).unclo
      rw [hds]; exact hv
    · have hpos : 0 < ds.length := List.length_pos_iff.mpr hds
      have hne : (!(ds.map D.int).isEmpty) = true := by simpa using hds
      refine .ret (d := .int (valB n (part ds 0 ds.length))) (Ev.ifT ((EvB.list (ds := ds.map .int) (Ev.name (by rfl)) hsz).to hne) (Ev.callC (F := F) (ds := [.int ((0 : Nat) : Int), .int (ds.length : Int)]) (by rfl) (.cons (.cons Ev.int (.cons ((Ev.callB (bi _ (by rfl)) (.cons (Ev.name (by rfl)) .nil) (OpL.lenL hsz)).to (by rw [List.length_map])) .nil))) (fun h p => p.x.2.func)
        fun A s Q E vs rm p hv hQ => d2i_inner hK (L₀ := L) (by rfl) hn hl hl2 ds.length 0 ds.length hpos (Nat.le_refl _) (Nat.le_refl _) _ A s Q E vs rm (CloAt.of p p.x.2 (fun x b e => (closL_lookup e).resolve_left (by intro q; cases q)) (GfOk.cons (.cons (.cons .nil)))) hv hQ)) fun v h p hv => (RetR.of p ?_).unclo
      have e : part ds 0 ds.length = ds := by unfold part; simp
      rw [e] at hv
      exact hv
end Mine
end
section
open PySem PySem.W PySem.Calls PyProof.Rows
namespace Mine
section
variable {C : Cfg} {c : Ctx C} {h h' : Heap} {rest : List Stmt} {R : Flow → Heap → Prop}
theorem rep_core {A : Around} {s : Shared} {Q : Value → Shared → Prop} {E : Value → Shared → Prop} {l : Addr} {items : Array Value} {x : Int} {u : Tok} (hl : s.heap.IsList l items) (h0 : -(2 ^ 63 : Int) ≤ x) (h1 : x < 2 ^ 63) (hsz : items.size * x.toNat ≤ 2 ^ 24)
    (hQ : Q (.ref s.heap.objs.size) { s with heap := s.heap.push { cls := Value.type "list", data := Data.seq (List.foldl (fun x1 x2 => x1 ++ x2) #[] (List.replicate (if items.isEmpty = true then 0 else x.toNat) items)) } }) : wpAny (model C.prog C.w) A (binaryOp .Mult (.ref l) (.int x u)) Q E s := by
  obtain ⟨⟨cls, d, data, sl⟩, ho, hcl, k, hd⟩ := id hl
  simp only at hcl hd
  subst hcl hd
  exact wpAny_binaryOp_repeat_ref (T := "list") (U := "int") (by decide) ⟨_, ho, rfl⟩ (fun s' => typeIs_int s' x u) noFill_list_mul PySem.F.fills_int_mul PySem.F.slot_int_rmul repeat_list PySem.F.slot_int_index.lookup
      (call_meets PySem.F.slot_int_rmul (typeIs_int s x u) PySem.F.entry_int_rmul (PySem.F.args_int_rmul_2 _ _) (lm_int_rmul_list_any x u l items k d sl)
        ⟨ho, rfl, ⟨_, ho, rfl⟩, call_meets PySem.F.slot_list_mul ⟨_, ho, rfl⟩ PySem.F.entry_list_mul (PySem.F.args_list_mul_2 _ _)
          (lm_list_mul_any l items k d sl x u (by simp [Builtin.List.listFitsIndex]; omega) (by omega) (by simp [Builtin.List.listTooLong, sizeLine]; omega))
          ⟨ho, hQ⟩⟩)
theorem EvF.rep {a b : Expr} {pos : Pos} {ds : List D} {x : Int} (ha : Ev c a (.lst ds)) (hb : Ev c b (.int x)) (h0 : -(2 ^ 63 : Int) ≤ x) (h1 : x < 2 ^ 63) (hsz : ds.length * x.toNat ≤ 2 ^ 24) : EvF c (.BinOp a .Mult b pos) (.lst (List.replicate x.toNat ds).flatten) := by
  intro A s Q E rm p hQ
  refine wpAny_BinOp (ha A s _ E rm p fun vx h₁ tk₁ x₁ w₁ g₁ => ?_)
  refine hb A _ _ E rm (p.ext x₁ w₁) fun vy h₂ tk₂ x₂ w₂ g₂ => ?_
  have g := g₁.ext x₂ w₂
  (first | obtain ⟨_, rfl⟩ := Has.int_inv g₂ | obtain rfl := Has.bool_inv g₂ | obtain rfl := Has.ptr_inv g₂ | obtain rfl := HasL.nil_inv g₂ | obtain rfl := Has.none_inv g₂ | cases g₂)
  have q9 := Has.lst_inv g; clear g; obtain ⟨l, items, rfl, ha', hl, hg⟩ := q9
  have hz := size_of hg
  refine rep_core (s := { s with heap := h₂, toks := tk₂ }) hl h0 h1 (by rw [hz]; exact hsz) ?_
  have w3 := w₂.wider1 { cls := Value.type "list", data := Data.seq (List.foldl (fun x1 x2 => x1 ++ x2) #[] (List.replicate (if items.isEmpty = true then 0 else x.toNat) items)) } rfl
  refine hQ _ _ _ (fun b o t e => Heap.get?_push_of_some _ (x₂ b o t (x₁ b o t e))) ?_ w3 ⟨_, ⟨_, Heap.get?_push_size _ rfl⟩, ?_⟩ fun t => w₂.fresh (w₂.tM _ t)
  · exact fresh_of_ext (x₁.trans x₂) w₂ (Nat.le_refl _)
  · rw [show (List.foldl (fun x1 x2 => x1 ++ x2) #[] (List.replicate (if items.isEmpty = true then 0 else x.toNat) items)).toList = (List.replicate x.toNat items.toList).flatten from by rw [listMul_foldl_if]]
    refine ((hg.grow (M' := fun b => c.M b ∨ b = h₂.objs.size) fun b o hb hn e => ?_).keep fun b o hb e => Heap.get?_push_of_some _ e).rep x.toNat
    have q : b = h₂.objs.size := hb.resolve_left hn
    rw [q] at e; exact Nat.lt_irrefl _ (Heap.lt_size e)
theorem Ex1.callS {x : Str} {np pos epos : Pos} {es : List Expr} {ds : List D} {F : Addr} {c' : Ctx C} (hx : c.G.lookup x = some (.ptr F)) (hes : EvA c es ds) (hfn : ∀ h, c.P h → ∃ o fd, h.get? F = some o ∧ o.data = .func fd)
    (ho : ∀ (A : Around) (s : Shared) (Q : Value → Shared → Prop) (E : Value → Shared → Prop) (vs : List Value), Room c.k A → c.P s.heap → HasL C s.heap c.M vs ds → (∀ h' tk, c'.P h' → Q .none { s with heap := h', toks := tk }) → wpAny (model C.prog C.w) A (call (.ref F) vs) Q E s)
    (hr : ∀ h, c'.P h → R .next h) (hd : (x == ("__debug__" : Str)) = false := by decide) (hn : (x == ("__classdict__" : Str)) = false := by decide) (hi : interactive c.env = false := by rfl) (hw : swapsWith (.Call (.Name x np) es [] pos) none epos.line c.env = pure false := by rfl) :
    Ex1 c (.Expr (.Call (.Name x np) es [] pos) epos) R := by
  intro A s Q E rm p hQ
  refine wpAny_Expr ?_ hi hw
  show wpAny _ A (do callWith pos (← eval (.Name x np) c.env) [] (backTo pos (starEach es c.env)) []) _ E s
  refine wpAny_bind (wpAny_nameV p hx (fun v hv => ?_) hd hn)
  (first | obtain ⟨_, rfl⟩ := Has.int_inv hv | obtain rfl := Has.bool_inv hv | obtain rfl := Has.ptr_inv hv | obtain rfl := HasL.nil_inv hv | obtain rfl := Has.none_inv hv | cases hv)
  obtain ⟨o, fd, h1, h2⟩ := hfn _ p
  refine Calls.callWith_function (o := o) (fd := fd) ?_
  refine hes A s _ E pos _ rm p fun vs h₁ tk₁ x₁ w₁ g₁ => ⟨?_, ho A { s with heap := h₁, toks := tk₁ } _ E vs rm (p.ext x₁ w₁) g₁ fun h₂ tk₂ p₂ => hQ _ _ _ (hr _ p₂)⟩
  by_cases hne : C.T F
  · exfalso
    rcases hne with ⟨q, hq, rfl⟩ | rfl
    · obtain ⟨_, _, _, h3⟩ := p.wf.tab q hq
      rcases h3 with h3 | ⟨_, _, h3, _⟩ <;> (rw [h1] at h3; cases h3; cases h2)
    · obtain ⟨o', _, _, ho', hd', _⟩ := p.wf.b
      rw [h1] at ho'; cases ho'; rw [h2] at hd'; cases hd'
  · exact ⟨x₁ F o hne h1, h2⟩
theorem Ex.callS {x : Str} {np pos epos : Pos} {es : List Expr} {ds : List D} {F : Addr} (c' : Ctx C) (hE : c'.env = c.env) (hk : c'.k = c.k) (hx : c.G.lookup x = some (.ptr F)) (hes : EvA c es ds) (hfn : ∀ h, c.P h → ∃ o fd, h.get? F = some o ∧ o.data = .func fd)
    (ho : ∀ (A : Around) (s : Shared) (Q : Value → Shared → Prop) (E : Value → Shared → Prop) (vs : List Value), Room c.k A → c.P s.heap → HasL C s.heap c.M vs ds → (∀ h' tk, c'.P h' → Q .none { s with heap := h', toks := tk }) → wpAny (model C.prog C.w) A (call (.ref F) vs) Q E s)
    (hr : Ex c' rest R) (hd : (x == ("__debug__" : Str)) = false := by decide) (hn : (x == ("__classdict__" : Str)) = false := by decide) (hi : interactive c.env = false := by rfl) (hw : swapsWith (.Call (.Name x np) es [] pos) none epos.line c.env = pure false := by rfl) :
    Ex c (.Expr (.Call (.Name x np) es [] pos) epos :: rest) R := .seq (Ex1.callS hx hes hfn ho (fun h p => ⟨c', hE, hk, p, hr⟩) hd hn hi hw)
/-- a call of a made def that writes one list -/
theorem callClo_own {M : ASet} {A : Around} {s : Shared} {Q : Value → Shared → Prop} {E : Value → Shared → Prop} {k : Nat} {F B : Addr} {d : CloD} {Gf : List (Str × D)} {names : List Str} {vs : List Value} {ds : List D} {d₀ d₁ : D} (rm : Room (k + 1) A) (ca : CloAt C M s.heap F d Gf) (hv : HasL C s.heap M vs ds)
    (ow : Owns C s.heap M B d₀) (hM : M B) (hT : ¬ C.T B) (hB : ∀ x b, d.clos.lookup x = some b → B ≠ b)
    (hbind : ∀ doc pm c' ctv, bindArgs (fnX d.name d.qual d.params d.body d.scope d.clos .none .none doc pm none (.ref c') ctv) ⟨vs, []⟩ = pure (names.zip vs)) (hlen : names.length = ds.length) (hnd : names.Nodup) (hkinds : ∀ x ∈ names, d.scope.names.lookup x = some .local)
    (hfk : FreeIn d Gf)
    (hx : ∀ L cd M' (I : Inv C), Ex ⟨k, M', cloEnv d L F cd, names.zip ds ++ Gf, [(B, d₀)], fun _ => false, I.clo F d⟩ d.body (fun f h => (f = .ret .none ∨ f = .next) ∧ ∃ c₁ : Ctx C, c₁.P h ∧ c₁.I = I.clo F d ∧ c₁.O = [(B, d₁)]))
    (hQ : ∀ h' tk, (∀ b o, ¬ C.T b → b ≠ B → s.heap.get? b = some o → h'.get? b = some o) → Wf C M h' → Owns C h' M B d₁ → Q .none { s with heap := h', toks := tk })
    (hco2 : d.scope.isCoroutine = false) (hgen : d.scope.isGenerator = false) (hkind : d.scope.kind = .function) (hcell : (d.scope.names.all fun x => x.2 != .cell) = true) : wpAny (model C.prog C.w) A (call (.ref F) vs) Q E s := by
  refine wpAny_callClo (V := fun b => b = B) (O := [(B, d₀)]) rm ca hv hbind hlen hnd hkinds hfk (fun q hq => by rw [List.mem_singleton.mp hq]; exact ⟨ow, hM, hT, rfl, hB⟩) (by simp) (fun L cd h₁ tk c₁ e p₁ rm₁ => ?_) hco2 hgen hkind (fun x hx => by simpa using List.all_eq_true.mp hcell x hx)
  subst e
  refine hx L cd _ _ _ { s with heap := h₁, toks := tk } _ _ rm₁ p₁ fun f h' tk' hr => ?_
  obtain ⟨hf, c₁, pc, hI, hO⟩ := hr
  have z := pc.o (B, d₁) (by rw [hO]; exact List.mem_singleton.mpr rfl)
  have hN : ∀ b, (M b ∧ b ≠ B) → c₁.M b := fun b hb => pc.nM b (by rw [hI]; exact hb)
  have hX := pc.x
  rw [hI] at hX
  have sub : ∀ b, M b → c₁.M b := fun b hb => by
    by_cases e : b = B
    · subst e; exact z.m
    · exact hN b ⟨hb, e⟩
  have fin := hQ h' tk' (fun b o t ne e => hX.1.1 b o t ne e) (pc.wf.less sub ca.wf.tM) (z.own.anti sub)
  rcases hf with rfl | rfl
  · exact fin
  · exact fin
end
/-! the figures of a number -/
def digs (n : Nat) (x : Int) : Nat → List Int
  | 0 => []
  | k + 1 => x % 2 ^ n :: digs n (x / 2 ^ n) k
theorem digs_length (n : Nat) : ∀ (k : Nat) (x : Int), (digs n x k).length = k
  | 0, _ => rfl
  | k + 1, x => by rw [digs, List.length_cons, digs_length n k]
theorem digs_bound (n : Nat) : ∀ (k : Nat) (x : Int), ∀ d ∈ digs n x k, 0 ≤ d ∧ d < 2 ^ n
  | 0, _, d, h => by cases h
  | k + 1, x, d, h => by
    have hp : (0 : Int) < 2 ^ n := Int.pow_pos (by decide)
    rcases List.mem_cons.mp h with rfl | h
    · exact ⟨Int.emod_nonneg _ (by omega), Int.emod_lt_of_pos _ hp⟩
    · exact digs_bound n k _ d h
theorem digs_val (n : Nat) : ∀ (k : Nat) (x : Int), 0 ≤ x → x < 2 ^ (n * k) → valB n (digs n x k) = x
  | 0, x, h0, h1 => by
    simp at h1
    rw [digs, valB]; omega
  | k + 1, x, h0, h1 => by
    have hp : (0 : Int) < 2 ^ n := Int.pow_pos (by decide)
    rw [digs, valB, digs_val n k (x / 2 ^ n) (Int.ediv_nonneg h0 (by omega)) ?_]
    · have := Int.emod_add_mul_ediv x (2 ^ n); omega
    · rw [Nat.mul_add, Nat.mul_one, Int.pow_add, Int.mul_comm] at h1
      exact Int.ediv_lt_of_lt_mul hp (by rwa [Int.mul_comm])
theorem digs_split (n : Nat) : ∀ (j k : Nat) (x : Int), digs n x (j + k) = digs n (x % 2 ^ (n * j)) j ++ digs n (x / 2 ^ (n * j)) k
  | 0, k, x => by simp [digs]
  | j + 1, k, x => by
    have hp : (0 : Int) < 2 ^ n := Int.pow_pos (by decide)
    have hq : (0 : Int) < 2 ^ (n * j) := Int.pow_pos (by decide)
    rw [show j + 1 + k = (j + k) + 1 from by omega, digs, digs_split n j k, digs, List.cons_append]
    have e1 : x % 2 ^ (n * (j + 1)) % 2 ^ n = x % 2 ^ n := by
      rw [Nat.mul_add, Nat.mul_one, Int.pow_add, Int.mul_comm]
      exact Int.emod_emod_of_dvd _ (Int.dvd_mul_right _ _)
    have e2 : x % 2 ^ (n * (j + 1)) / 2 ^ n = x / 2 ^ n % 2 ^ (n * j) := by
      rw [Nat.mul_add, Nat.mul_one, Int.pow_add, Int.mul_comm, Int.emod_def x, Int.emod_def (x / 2 ^ n), Int.mul_assoc,
        show x - 2 ^ n * (2 ^ (n * j) * (x / (2 ^ n * 2 ^ (n * j)))) = x + 2 ^ n * (-(2 ^ (n * j) * (x / (2 ^ n * 2 ^ (n * j))))) from by rw [Int.mul_neg, Int.sub_eq_add_neg],
        Int.add_mul_ediv_left _ _ (by omega), Int.ediv_ediv_of_nonneg (by omega), ← Int.sub_eq_add_neg]
    have e3 : x / 2 ^ n / 2 ^ (n * j) = x / 2 ^ (n * (j + 1)) := by
      rw [Nat.mul_add, Nat.mul_one, Int.pow_add, Int.mul_comm, Int.ediv_ediv_of_nonneg (by omega)]
    rw [e1, e2, e3]
end Mine
end
section
open PySem PySem.W PySem.Calls PyProof.Rows
namespace Mine
theorem bitOr_pp (a b : Nat) : Builtin.bitOr a b = ((a ||| b : Nat) : Int) := by
  have nn : ∀ x : Int, Builtin.bitNot (Builtin.bitNot x) = x := fun x => by unfold Builtin.bitNot; omega
  unfold Builtin.bitOr
  rw [bitAnd_nn (by unfold Builtin.bitNot; omega) (by unfold Builtin.bitNot; omega), nn, nn, nn]
  rfl
theorem xor_top {x : Int} {s : Nat} (h : 0 ≤ x) : Builtin.bitXor x (x / 2 ^ s * 2 ^ s) = x % 2 ^ s := by
  have hp : (0 : Int) < 2 ^ s := Int.pow_pos (by decide)
  obtain ⟨n, rfl⟩ := Int.eq_ofNat_of_zero_le h
  have e1 : ((n : Int) / 2 ^ s * 2 ^ s) = ((n / 2 ^ s * 2 ^ s : Nat) : Int) := by push_cast; rfl
  have hb : ∀ i, (n / 2 ^ s * 2 ^ s).testBit i = (decide (s ≤ i) && n.testBit i) := by
    intro i
    rw [Nat.testBit_mul_two_pow, Nat.testBit_div_two_pow]
    by_cases q : s ≤ i
    · simp [q]
    · simp [q]
  have e2 : n ||| (n / 2 ^ s * 2 ^ s) = n := Nat.eq_of_testBit_eq fun i => by
    rw [Nat.testBit_or, hb]
    cases n.testBit i <;> simp
  have e3 : n &&& (n / 2 ^ s * 2 ^ s) = n / 2 ^ s * 2 ^ s := Nat.eq_of_testBit_eq fun i => by
    rw [Nat.testBit_and, hb]
    cases n.testBit i <;> simp
  unfold Builtin.bitXor
  rw [e1, bitOr_pp, bitAnd_pp (by omega) (by omega), Int.toNat_natCast, Int.toNat_natCast, e2, e3, ← e1]
  have := Int.emod_add_mul_ediv (n : Int) (2 ^ s)
  rw [Int.mul_comm] at this
  omega

/-! a stretch of a list is written over -/
def put (ws : List D) (L : Nat) (xs : List D) : List D := ws.take L ++ xs ++ ws.drop (L + xs.length)
theorem put_length {ws : List D} {L : Nat} {xs : List D} (h : L + xs.length ≤ ws.length) : (put ws L xs).length = ws.length := by
  unfold put; simp; omega
theorem put_put {ws : List D} {L m : Nat} {xs ys : List D} (hm : m = L + xs.length) (h : m + ys.length ≤ ws.length) : put (put ws L xs) m ys = put ws L (xs ++ ys) := by
  have hl : (ws.take L ++ xs).length = m := by simp; omega
  have e1 : (put ws L xs).take m = ws.take L ++ xs := by
    unfold put; rw [List.take_append_of_le_length (by omega), List.take_of_length_le (by omega)]
  have e2 : (put ws L xs).drop (m + ys.length) = ws.drop (L + (xs ++ ys).length) := by
    unfold put
    rw [List.drop_append, hl, List.drop_of_length_le (by omega), List.nil_append, List.drop_drop, List.length_append]
    congr 1; omega
  unfold put at e1 e2 ⊢
  rw [e1, e2]
  simp
theorem put_one {ws : List D} {L : Nat} {x : D} (h : L < ws.length) : ws.set L x = put ws L [x] := by
  unfold put
  rw [List.set_eq_take_append_cons_drop, if_pos h]
  simp
theorem put_all {ws xs : List D} (h : ws.length = xs.length) : put ws 0 xs = xs := by
  unfold put
  rw [List.drop_of_length_le (by omega)]; simp
section
variable {C : Cfg} {c : Ctx C} {h h' : Heap} {rest : List Stmt} {R : Flow → Heap → Prop}
/-- a call for its effect on the one owned object -/
theorem Ex.callOwn {x : Str} {np pos epos : Pos} {es : List Expr} {ds : List D} {F B : Addr} {d₀ d₁ : D} (hO : c.O = [(B, d₀)]) (hx : c.G.lookup x = some (.ptr F)) (hes : EvA c es ds) (hfn : ∀ h, c.P h → ∃ o fd, h.get? F = some o ∧ o.data = .func fd)
    (ho : ∀ (A : Around) (s : Shared) (Q : Value → Shared → Prop) (E : Value → Shared → Prop) (vs : List Value), Room c.k A → c.P s.heap → HasL C s.heap c.M vs ds → (∀ h' tk, (∀ b o, ¬ C.T b → b ≠ B → s.heap.get? b = some o → h'.get? b = some o) → Wf C c.M h' → Owns C h' c.M B d₁ → Q .none { s with heap := h', toks := tk }) → wpAny (model C.prog C.w) A (call (.ref F) vs) Q E s)
    (hr : Ex { c with O := [(B, d₁)] } rest R) (hd : (x == ("__debug__" : Str)) = false := by decide) (hn : (x == ("__classdict__" : Str)) = false := by decide) (hi : interactive c.env = false := by rfl) (hw : swapsWith (.Call (.Name x np) es [] pos) none epos.line c.env = pure false := by rfl) :
    Ex c (.Expr (.Call (.Name x np) es [] pos) epos :: rest) R :=
  .callS { c with O := [(B, d₁)] } rfl rfl hx hes hfn (fun A s Q E vs rm p hv hQ => ho A s Q E vs rm p hv fun h' tk k w o => hQ h' tk (p.extBut (i := 0) hO k w o)) hr hd hn hi hw
end
theorem i2d_inner {C : Cfg} {p : Params} (hK : C.K = hd01.heap_39 p) {L₀ : Addr} {d : CloD} (hd : nestedOf (hd01.heap_39 p) 49 (cellsOf (hd01.heap_39 p) 49 L₀) "_int2digits.<locals>.inner" = some d) {n len : Nat} (hl : n * len ≤ 60) (hl2 : len ≤ 60) {F B : Addr} :
    ∀ (m L R : Nat), L < R → R ≤ len → R - L ≤ m → ∀ (x : Int), 0 ≤ x → x < 2 ^ (n * (R - L)) → ∀ (ws : List D), ws.length = len → ∀ (M : ASet) (A : Around) (s : Shared) (Q : Value → Shared → Prop) (E : Value → Shared → Prop) (vs : List Value), Room m A → CloAt C M s.heap F d [("a_digits", .ptr B), ("n", .int n), ("inner", .ptr F)] → HasL C s.heap M vs [.int x, .int L, .int R] →
      Owns C s.heap M B (.lst ws) → M B → ¬ C.T B → (∀ x b, d.clos.lookup x = some b → B ≠ b) →
      (∀ h' tk, (∀ b o, ¬ C.T b → b ≠ B → s.heap.get? b = some o → h'.get? b = some o) → Wf C M h' → Owns C h' M B (.lst (put ws L ((digs n x (R - L)).map .int))) → Q .none { s with heap := h', toks := tk }) → wpAny (model C.prog C.w) A (call (.ref F) vs) Q E s := by
  change some _ = some d at hd
  cases hd
  intro m
  induction m with
  | zero => intro L R h1 h2 h3; omega
  | succ m ih =>
    intro L R h1 h2 h3 x hx0 hx1 ws hws M A s Q E vs rm ca hv ow hM hT hB hQ
    refine callClo_own (names := ["x", "L", "R"]) (k := m) rm ca hv ow hM hT hB ?_ (by rfl) (by decide) ?_ ?_ ?_ hQ (by rfl) (by rfl) (by rfl) (by rfl)
    · intro doc pm c' ctv
      have := hv.length
      obtain ⟨a, b, c, rfl⟩ := len3 this
      rfl
    · intro x hx
      simp only [List.mem_cons, List.not_mem_nil, or_false] at hx
      rcases hx with rfl | rfl | rfl <;> rfl
    · exact FreeIn.cons (.cons (.cons .nil))
    · intro L' cd M' I
      by_cases h1' : L + 1 = R
      · subst h1'
        refine .ite (b := true) (EvB.cmp (x := .int ((L : Int) + 1)) (y := .int ((L + 1 : Nat) : Int)) (Ev.bin (Ev.name (d := .int L) (by rfl)) Ev.int Op.add) (Ev.name (by rfl)) (Op.eq.to (congrArg D.bool (by simp)))) ?_
        refine .setL 0 (a := B) (l := ws) (j := (L : Int)) (Ev.name (d := .int x) (by rfl)) (Ev.name (d := .ptr B) (by rfl)) (Ev.name (by rfl)) (by omega) (by omega) (by omega) ?_
        refine .retNone fun h p => ⟨.inl rfl, _, p, rfl, ?_⟩
        show [(B, D.lst _)] = [(B, D.lst _)]
        have e : x % 2 ^ n = x := Int.emod_eq_of_lt hx0 (by simpa using hx1)
        rw [Int.toNat_natCast, put_one (by omega), show L + 1 - L = 1 from by omega, digs, digs, e]
        rfl
      · have hn60 : n ≤ 60 := Nat.le_trans (Nat.le_mul_of_pos_right n (by omega)) hl
        have hm : ∃ mid : Nat, mid = (L + R) / 2 := ⟨_, rfl⟩
        obtain ⟨mid, hmid⟩ := hm
        refine .ifF (EvB.cmp (x := .int ((L : Int) + 1)) (y := .int (R : Int)) (Ev.bin (Ev.name (d := .int L) (by rfl)) Ev.int Op.add) (Ev.name (by rfl)) (Op.eq.to (congrArg D.bool (by simp; omega)))) ?_
        refine .assign (d := .int (mid : Int)) ((Ev.bin (x := .int ((L : Int) + R)) (y := .int 1) (Ev.bin (Ev.name (d := .int L) (by rfl)) (Ev.name (d := .int R) (by rfl)) Op.add) Ev.int (Op.shr (by decide))).to (by rw [shr1 (by omega), hmid]; congr 1)) (.inl (by rfl)) ?_
        refine .assign (d := .int ((((mid - L : Nat) * n : Nat) : Int))) ((Ev.bin (x := .int ((mid : Int) - L)) (y := .int n) (Ev.bin (Ev.name (d := .int mid) (by rfl)) (Ev.name (d := .int L) (by rfl)) Op.sub) (Ev.name (by rfl)) (Op.mul (by omega) (by omega))).to (by congr 1; rw [Int.natCast_mul, Int.ofNat_sub (by omega)])) (.inl (by rfl)) ?_
        have hs1 : (mid - L) * n ≤ 60 := Nat.le_trans (Nat.mul_le_mul_right n (show mid - L ≤ len by omega)) (by rw [Nat.mul_comm]; exact hl)
        obtain ⟨sh, hsh⟩ : ∃ sh : Nat, sh = (mid - L) * n := ⟨_, rfl⟩
        rw [← hsh] at hs1 ⊢
        have hp : (0 : Int) < 2 ^ sh := Int.pow_pos (by decide)
        have hup0 : 0 ≤ x / 2 ^ sh := Int.ediv_nonneg hx0 (by omega)
        have hup1 : x / 2 ^ sh < 2 ^ (n * (R - mid)) := by
          refine Int.ediv_lt_of_lt_mul hp ?_
          rw [← Int.pow_add]
          have e : n * (R - mid) + sh = n * (R - L) := by rw [hsh, Nat.mul_comm (mid - L) n, ← Nat.mul_add]; congr 1; omega
          rw [e]; exact hx1
        have hlo0 : 0 ≤ x % 2 ^ sh := Int.emod_nonneg _ (by omega)
        have hlo1 : x % 2 ^ sh < 2 ^ (n * (mid - L)) := by
          rw [Nat.mul_comm n, ← hsh]; exact Int.emod_lt_of_pos _ hp
        have hb2 : (2 : Int) ^ (n * (R - mid)) ≤ 2 ^ 60 := by
          have : n * (R - mid) ≤ 60 := Nat.le_trans (Nat.mul_le_mul_left n (show R - mid ≤ len by omega)) hl
          exact_mod_cast Nat.pow_le_pow_right (by decide) this
        refine .assign (d := .int (x / 2 ^ sh)) ((Ev.bin (x := .int x) (y := .int (sh : Int)) (Ev.name (by rfl)) (Ev.name (by rfl)) (Op.shr (by omega))).to (by rw [Int.toNat_natCast, Int.fdiv_eq_ediv_of_nonneg _ (by omega)])) (.inl (by rfl)) ?_
        refine .assign (d := .int (x % 2 ^ sh)) ((Ev.bin (x := .int x) (y := .int (x / 2 ^ sh * 2 ^ sh)) (Ev.name (by rfl)) ((Ev.bin (x := .int (x / 2 ^ sh)) (y := .int (sh : Int)) (Ev.name (by rfl)) (Ev.name (by rfl)) (Op.shl (by omega) (by omega) (by omega))).to (by rw [Int.toNat_natCast])) Op.xor).to (by rw [xor_top hx0])) (.inl (by rfl)) ?_
        refine .callOwn (F := F) (B := B) (ds := [.int (x % 2 ^ sh), .int (L : Int), .int (mid : Int)]) (by rfl) (by rfl) (.cons (.cons (Ev.name (by rfl)) (.cons (Ev.name (by rfl)) (.cons (Ev.name (by rfl)) .nil)))) (fun h p => p.x.2.func) (fun A s Q E vs rm p hv hQ =>
          let z := p.o (B, _) (List.mem_singleton.mpr rfl)
          ih L mid (by omega) (by omega) (by omega) _ hlo0 hlo1 ws hws _ A s Q E vs rm (CloAt.of p p.x.2 (fun _ _ e => e) (GfOk.cons (.cons (.cons .nil)))) hv z.own z.m z.t z.c hQ) ?_
        refine .callOwn (F := F) (B := B) (ds := [.int (x / 2 ^ sh), .int (mid : Int), .int (R : Int)]) (by rfl) (by rfl) (.cons (.cons (Ev.name (by rfl)) (.cons (Ev.name (by rfl)) (.cons (Ev.name (by rfl)) .nil)))) (fun h p => p.x.2.func) (fun A s Q E vs rm p hv hQ =>
          let z := p.o (B, _) (List.mem_singleton.mpr rfl)
          ih mid R (by omega) (by omega) (by omega) _ hup0 hup1 _ (by rw [put_length (by rw [List.length_map, digs_length]; omega)]; exact hws) _ A s Q E vs rm (CloAt.of p p.x.2 (fun _ _ e => e) (GfOk.cons (.cons (.cons .nil)))) hv z.own z.m z.t z.c hQ) ?_
        refine .nil fun h p => ⟨.inr rfl, _, p, rfl, ?_⟩
        show [(B, D.lst _)] = [(B, D.lst _)]
        have e : digs n x (R - L) = digs n (x % 2 ^ sh) (mid - L) ++ digs n (x / 2 ^ sh) (R - mid) := by
          rw [show R - L = (mid - L) + (R - mid) from by omega, digs_split, Nat.mul_comm n (mid - L), ← hsh]
        rw [put_put (by rw [List.length_map, digs_length]; omega) (by rw [List.length_map, digs_length]; omega), e, List.map_append]
end Mine
end
section
open PySem PySem.W PySem.Calls PyProof.Rows
namespace Mine
theorem lt_bits {a : Int} (h : 0 ≤ a) : a < 2 ^ Builtin.Int.intBits a := by
  unfold Builtin.Int.intBits
  by_cases ha : a = 0
  · subst ha; decide
  · have hb : (a == 0) = false := by simpa using ha
    rw [hb]
    simp only [Bool.false_eq_true, if_false]
    have h2 := @Nat.lt_log2_self a.natAbs
    have h3 : a = (a.natAbs : Int) := by omega
    rw [h3]
    simp only [Int.natAbs_natCast]
    exact_mod_cast h2
def figs (n : Nat) (a : Int) : Nat := (Builtin.Int.intBits a + n - 1) / n
theorem figs_le {n : Nat} {a : Int} : n * figs n a ≤ Builtin.Int.intBits a + n - 1 := Nat.mul_div_le _ _
theorem figs_ge {n : Nat} {a : Int} (hn : 0 < n) : Builtin.Int.intBits a ≤ n * figs n a := by
  have := Nat.lt_mul_div_succ (Builtin.Int.intBits a + n - 1) hn
  unfold figs
  rw [Nat.mul_add, Nat.mul_one] at this
  omega
theorem figs_lt {n : Nat} {a : Int} (hn : 0 < n) (h : 0 ≤ a) : a < 2 ^ (n * figs n a) := by
  have h1 := lt_bits h
  have h2 : (2 : Int) ^ Builtin.Int.intBits a ≤ 2 ^ (n * figs n a) := by exact_mod_cast Nat.pow_le_pow_right (by decide) (figs_ge hn)
  omega
theorem flat_one (n : Nat) (d : D) : (List.replicate n [d]).flatten = List.replicate n d := by
  induction n with
  | zero => rfl
  | succ n ih => rw [List.replicate_succ, List.flatten_cons, ih, List.replicate_succ]; rfl
theorem EvF.rep1 {C : Cfg} {c : Ctx C} {a b : Expr} {pos : Pos} {d : D} {n : Nat} (ha : Ev c a (.lst [d])) (hb : Ev c b (.int (n : Int))) (h : n ≤ 1000) : EvF c (.BinOp a .Mult b pos) (.lst (List.replicate n d)) := by
  have := EvF.rep (pos := pos) ha hb (by omega) (by omega) (by simp; omega)
  rw [Int.toNat_natCast, flat_one] at this
  exact this
theorem i2d_ok {C : Cfg} {p : Params} (hK : C.K = hd01.heap_39 p) (hT : C.tabs = tabsOf (hd01.heap_39 p)) {n : Nat} {a : Int} (hn : 0 < n) (ha : 0 ≤ a) (hb : Builtin.Int.intBits a + n ≤ 60) : Fn C (figs n a + 1) 49 [.int a, .int n] (iL (digs n a (figs n a))) := by
  have bi : ∀ env : Env, env.kindOf "len" = some .globalImplicit → Bi C env "len" (.builtin "len") := fun env h => ⟨by rw [hK]; rfl, by rfl, h, by decide, by decide⟩
  have hlen1 : n * figs n a ≤ 60 := Nat.le_trans figs_le (by omega)
  have hlen2 : figs n a ≤ 60 := Nat.le_trans (Nat.le_mul_of_pos_left _ hn) hlen1
  have hlt := figs_lt hn ha
  refine Fn.mk (names := ["a", "n"]) (k := figs n a) (by rw [hK]; rfl) (by rfl) (by rfl) (by rfl) (by rw [hK]; rfl) (by rfl) (by rfl) ?_ (by rfl) (by decide) ?_ ?_
  · intro vs h
    obtain ⟨a, b, rfl⟩ := len2 h
    rfl
  · intro x hx
    simp only [List.mem_cons, List.not_mem_nil, or_false] at hx
    rcases hx with rfl | rfl
    · exact .inl (by rfl)
    · exact .inr ⟨by rfl, fun n => by rfl⟩
  · intro L M I
    obtain ⟨len, hlen⟩ : ∃ len, len = figs n a := ⟨_, rfl⟩
    rw [← hlen] at hlen1 hlen2 hlt ⊢
    have hval : ((Builtin.Int.intBits a : Int) + n - 1).fdiv n = (len : Int) := by
      rw [Int.fdiv_eq_ediv_of_nonneg _ (by omega), show (Builtin.Int.intBits a : Int) + n - 1 = ((Builtin.Int.intBits a + n - 1 : Nat) : Int) from by omega, hlen]
      unfold figs
      rw [Int.natCast_ediv]
    refine .assignF (EvF.rep1 (n := len) (d := .int 0) (Ev.list (.cons Ev.int .nil)) ((Ev.bin (x := .int ((Builtin.Int.intBits a : Int) + n - 1)) (y := .int n) (Ev.bin (x := .int ((Builtin.Int.intBits a : Int) + n)) (y := .int 1) (Ev.bin (Ev.bits (a := a) (Ev.name (by rfl))) (Ev.name (d := .int n) (by rfl)) Op.add) Ev.int Op.sub) (Ev.name (by rfl)) (Op.fdiv (by omega) (by omega))).to (by rw [hval])) (by omega)) (.inr ⟨by rfl, by rfl, by rfl⟩) fun B => ?_
    refine Ex.def (q := (48, 44, nestedPos (hd01.heap_39 p) 49, "_int2digits.<locals>.inner")) (by rw [hT]; exact List.mem_cons_of_mem _ (List.mem_cons_self ..)) (by rw [hT]; exact tabs_one (List.mem_cons_of_mem _ (List.mem_cons_self ..))) (by rfl) (by rfl) (by rfl) (by rfl) (.inr ⟨by rfl, by rfl, by rfl⟩) fun F => ?_
    have hsz : (List.replicate len (D.int 0)).length ≤ sizeLine := by rw [sizeLine_eq, List.length_replicate]; omega
    by_cases h0 : a = 0
    · have hl0 : len = 0 := by
        rw [hlen, h0]; unfold figs
        exact Nat.div_eq_of_lt (by show 0 + n - 1 < n; omega)
      refine .ifF ((EvB.int (Ev.name (d := .int a) (by rfl))).to (by rw [h0]; rfl)) ?_
      refine .frz 0 "a_digits" (a := B) (d := .lst (List.replicate len (.int 0))) ?_
      refine .ret (d := .lst (List.replicate len (.int 0))) (Ev.name (by rfl)) fun v h p hv => (RetR.of p ?_).unclo
      rw [hl0] at hv ⊢
      exact hv
    · have hpos : 0 < len := by
        refine Nat.pos_of_ne_zero fun e => h0 ?_
        rw [e] at hlt
        simp at hlt
        omega
      refine .ite (b := true) ((EvB.int (Ev.name (d := .int a) (by rfl))).to (by simpa using h0)) ?_
      refine .callOwn (F := F) (B := B) (d₁ := .lst ((digs n a len).map .int)) (ds := [.int a, .int ((0 : Nat) : Int), .int (len : Int)]) (by rfl) (by rfl) (.cons (.cons (Ev.name (by rfl)) (.cons Ev.int (.cons ((Ev.lenO (a := B) 0 (bi _ (by rfl)) (Ev.name (by rfl)) hsz).to (by rw [List.length_replicate])) .nil)))) (fun h p => p.x.2.func) (fun A s Q E vs rm p hv hQ =>
          let z := p.o (B, _) (List.mem_singleton.mpr rfl)
          i2d_inner hK (L₀ := L) (by rfl) hlen1 hlen2 len 0 len hpos (Nat.le_refl _) (Nat.le_refl _) a ha (by simpa using hlt) _ (List.length_replicate ..) _ A s Q E vs rm (CloAt.of p p.x.2 (fun x b e => (closL_lookup e).resolve_left (by intro q; cases q)) (GfOk.cons (.cons (.cons .nil)))) hv z.own z.m z.t (fun x b e => z.c x b ((closL_lookup e).resolve_left (by intro q; cases q)))
            (fun h' tk k w o => hQ h' tk k w (by rw [put_all (by simp [digs_length])] at o; exact o))) ?_
      refine .nil fun h p => .intro (c' := _) (.frz 0 "a_digits" (a := B) (d := .lst ((digs n a len).map .int)) ?_) p
      exact .ret (d := iL (digs n a len)) (Ev.name (by rfl)) fun v h p hv => (RetR.of p hv).unclo
end Mine
end
section
open PySem PySem.W PySem.Calls PyProof.Rows
namespace Mine
section
variable {C : Cfg} {c : Ctx C} {h h' : Heap} {rest : List Stmt} {R : Flow → Heap → Prop}
theorem Ex.assignT {ts : List Expr} {k : Nat} {tpos pos : Pos} {e : Expr} {d : D} {c' : Ctx C} (he : Ev c e d) (ht : Tg c (.Tuple ts k tpos) d c') (hr : Ex c' rest R) (hE : c'.env = c.env := by rfl) (hk : c'.k = c.k := by rfl)
    (hs : swapsWithSole [.Tuple ts k tpos] e pos.line c.env = pure false := by rfl) (hw : swappedStores [.Tuple ts k tpos] e c.env = pure none := by rfl) : Ex c (.Assign [.Tuple ts k tpos] e pos :: rest) R := by
  refine .seq fun A s Q E rm p hQ => ?_
  refine PyProof.Rows.Assign_Tuple (he A s _ E rm p fun v h₁ tk₁ x₁ w₁ g₁ => ?_) hs hw
  exact ht A { s with heap := h₁, toks := tk₁ } _ E v rm (p.ext x₁ w₁) g₁ fun h₂ tk₂ p₂ k₂ => hQ _ _ _ ⟨c', hE, hk, p₂, hr⟩
end
theorem EvI.revI {C : Cfg} {c : Ctx C} {np pos : Pos} {e : Expr} {ns : List Int} (b : Bi C c.env "reversed" (.type "reversed")) (he : Ev c e (iL ns))
    (hs : starEach [e] c.env = (false, eval e c.env) :: starEach [] c.env := by rfl) : EvI c (.Call (.Name "reversed" np) [e] [] pos) (ns.reverse.map .int) Any := by
  rw [List.map_reverse]; exact EvI.rev b he hs
theorem fold_inv {α β : Type} {P : β → Prop} {f : β → α → β} (hf : ∀ b a, P b → P (f b a)) : ∀ (l : List α) (b : β), P b → P (l.foldl f b)
  | [], b, h => h
  | a :: l, b, h => fold_inv hf l (f b a) (hf b a h)
/-! division by hand -/
def dstep (n : Nat) (b : Int) (s : List Int × Int) (d : Int) : List Int × Int := (s.1 ++ [(s.2 * 2 ^ n + d) / b], (s.2 * 2 ^ n + d) % b)
def dst (n : Nat) (b : Int) (l : List Int) : List Int × Int := l.foldl (dstep n b) ([], 0)
theorem dst_rem {n : Nat} {b : Int} (hb : 0 < b) (l : List Int) : 0 ≤ (dst n b l).2 ∧ (dst n b l).2 < b := by
  unfold dst
  refine fold_inv (P := fun s : List Int × Int => 0 ≤ s.2 ∧ s.2 < b) (fun s d _ => ?_) l _ ⟨Int.le_refl _, hb⟩
  exact ⟨Int.emod_nonneg _ (by omega), Int.emod_lt_of_pos _ hb⟩
theorem dst_len {n : Nat} {b : Int} : ∀ (l : List Int) (s : List Int × Int), (l.foldl (dstep n b) s).1.length = s.1.length + l.length
  | [], s => rfl
  | a :: l, s => by
    rw [List.foldl_cons, dst_len l, dstep, List.length_append, List.length_cons, List.length_cons]
    simp; omega
theorem dst_snoc {n : Nat} {b : Int} (l : List Int) (d : Int) : dst n b (l ++ [d]) = dstep n b (dst n b l) d := by unfold dst; rw [List.foldl_append]; rfl
theorem dst_ok {n : Nat} {b : Int} (hb : 0 < b) : ∀ (l : List Int), (∀ d ∈ l, 0 ≤ d ∧ d < 2 ^ n) → valB n (dst n b l.reverse).1.reverse = valB n l / b ∧ (dst n b l.reverse).2 = valB n l % b ∧ ∀ q ∈ (dst n b l.reverse).1, 0 ≤ q ∧ q < 2 ^ n
  | [], _ => by simp [dst, valB]
  | d :: l, h => by
    obtain ⟨h1, h2, h3⟩ := dst_ok hb l fun e he => h e (List.mem_cons_of_mem _ he)
    obtain ⟨h4, h5⟩ := h d List.mem_cons_self
    have hr := dst_rem (n := n) hb l.reverse
    have hp : (0 : Int) < 2 ^ n := Int.pow_pos (by decide)
    rw [List.reverse_cons, dst_snoc, dstep, valB]
    have e : d + 2 ^ n * valB n l = ((dst n b l.reverse).2 * 2 ^ n + d) + b * (2 ^ n * (valB n l / b)) := by
      have := Int.mul_ediv_add_emod (valB n l) b
      rw [h2]
      calc d + 2 ^ n * valB n l = d + 2 ^ n * (b * (valB n l / b) + valB n l % b) := by rw [this]
        _ = valB n l % b * 2 ^ n + d + b * (2 ^ n * (valB n l / b)) := by
          rw [Int.mul_add, Int.mul_left_comm, Int.mul_comm (2 ^ n) (valB n l % b)]; omega
    have q0 : 0 ≤ (dst n b l.reverse).2 * 2 ^ n + d := by
      have := Int.mul_nonneg hr.1 (Int.le_of_lt hp); omega
    have q1 : (dst n b l.reverse).2 * 2 ^ n + d < 2 ^ n * b := by
      have : ((dst n b l.reverse).2 + 1) * 2 ^ n ≤ b * 2 ^ n := Int.mul_le_mul_of_nonneg_right (by omega) (Int.le_of_lt hp)
      rw [Int.add_mul, Int.one_mul] at this
      rw [Int.mul_comm (2 ^ n) b]
      omega
    refine ⟨?_, ?_, ?_⟩
    · simp only
      rw [List.reverse_append, List.reverse_singleton, List.singleton_append, valB, h1, e, Int.add_mul_ediv_left _ _ (by omega)]
    · simp only
      rw [e, Int.add_mul_emod_self_left]
    · intro q hq
      rcases List.mem_append.mp hq with hq | hq
      · exact h3 q hq
      · rw [List.mem_singleton.mp hq]
        exact ⟨Int.ediv_nonneg q0 (by omega), Int.ediv_lt_of_lt_mul hb q1⟩

theorem bits_le {a : Int} {k : Nat} (h : 0 ≤ a) (h2 : a < 2 ^ k) : Builtin.Int.intBits a ≤ k := by
  unfold Builtin.Int.intBits
  by_cases ha : a = 0
  · subst ha; exact Nat.zero_le _
  · have hb : (a == 0) = false := by simpa using ha
    rw [hb]
    simp only [Bool.false_eq_true, if_false]
    have h3 : a.natAbs < 2 ^ k := by
      have : (a.natAbs : Int) < ((2 ^ k : Nat) : Int) := by push_cast; omega
      exact_mod_cast this
    exact (Nat.log2_lt (by omega)).mpr h3
theorem dmp_ok {C : Cfg} {p : Params} (hK : C.K = hd01.heap_39 p) (hT : C.tabs = tabsOf (hd01.heap_39 p)) {a b : Int} (ha : 0 ≤ a) (ha2 : a < 2 ^ 32) (hb : 0 < b) (hb2 : b < 2 ^ 8) : Fn C 62 63 [.int a, .int b] (.tup [.int (a / b), .int (a % b)]) := by
  have bi : ∀ env : Env, env.kindOf "reversed" = some .globalImplicit → Bi C env "reversed" (.type "reversed") := fun env h => ⟨by rw [hK]; rfl, by rfl, h, by decide, by decide⟩
  have g1 : ∀ env : Env, env.kindOf "_int2digits" = some .globalImplicit → Gl C env "_int2digits" 49 := fun env h => ⟨by rw [hK]; rfl, h, by decide, _, _, by rw [hK]; rfl, by rfl⟩
  have g2 : ∀ env : Env, env.kindOf "_div2n1n" = some .globalImplicit → Gl C env "_div2n1n" 35 := fun env h => ⟨by rw [hK]; rfl, h, by decide, _, _, by rw [hK]; rfl, by rfl⟩
  have g3 : ∀ env : Env, env.kindOf "_digits2int" = some .globalImplicit → Gl C env "_digits2int" 56 := fun env h => ⟨by rw [hK]; rfl, h, by decide, _, _, by rw [hK]; rfl, by rfl⟩
  obtain ⟨n, hn⟩ : ∃ n, n = Builtin.Int.intBits b := ⟨_, rfl⟩
  have hn0 : 0 < n := by
    rw [hn]; unfold Builtin.Int.intBits
    rw [show (b == 0) = false from by simp; omega]
    simp
  have hn8 : n ≤ 8 := by rw [hn]; exact bits_le (by omega) hb2
  have ha32 : Builtin.Int.intBits a ≤ 32 := bits_le ha ha2
  have hbn : b ≤ 2 ^ n := by rw [hn]; exact Int.le_of_lt (lt_bits (by omega))
  have hlen1 : n * figs n a ≤ 39 := Nat.le_trans figs_le (by omega)
  have hlen2 : figs n a ≤ 39 := Nat.le_trans (Nat.le_mul_of_pos_left _ hn0) hlen1
  have hlt := figs_lt hn0 ha
  obtain ⟨len, hlen⟩ : ∃ len, len = figs n a := ⟨_, rfl⟩
  obtain ⟨ds, hds⟩ : ∃ ds, ds = digs n a len := ⟨_, rfl⟩
  have hdl : ds.length = len := by rw [hds, digs_length]
  have hdb : ∀ d ∈ ds, 0 ≤ d ∧ d < 2 ^ n := by rw [hds]; exact digs_bound n len a
  have hdv : valB n ds = a := by rw [hds]; exact digs_val n len a ha (by rw [hlen]; exact hlt)
  have h1 := i2d_ok hK hT hn0 ha (by omega)
  rw [← hlen, ← hds] at h1
  have hp : (0 : Int) < 2 ^ n := Int.pow_pos (by decide)
  have hp8 : (2 : Int) ^ n ≤ 2 ^ 8 := by exact_mod_cast Nat.pow_le_pow_right (by decide) hn8
  refine Fn.mk (names := ["a", "b"]) (k := 61) (by rw [hK]; rfl) (by rfl) (by rfl) (by rfl) (by rw [hK]; rfl) (by rfl) (by rfl) ?_ (by rfl) (by decide) ?_ ?_
  · intro vs h
    obtain ⟨a, b, rfl⟩ := len2 h
    rfl
  · intro x hx
    simp only [List.mem_cons, List.not_mem_nil, or_false] at hx
    rcases hx with rfl | rfl <;> exact .inl (by rfl)
  · intro L M I
    refine .assign (d := .int (n : Int)) ((Ev.bits (a := b) (Ev.name (by rfl))).to (by rw [hn])) (.inl (by rfl)) ?_
    refine .assign (Ev.callF (g1 _ (by rfl)) h1 (by show _ ≤ 61; omega) (.cons (.cons (Ev.name (by rfl)) (.cons (Ev.name (by rfl)) .nil)))) (.inl (by rfl)) ?_
    refine .assign (d := .int 0) Ev.int (.inl (by rfl)) ?_
    refine .assignF EvF.nil (.inl (by rfl)) fun B => ?_
    refine .forL ds.reverse .int (fun i => [("r", .int (dst n b (ds.reverse.take i)).2), ("q_digits", .ptr B), ("b", .int b), ("n", .int (n : Int))]) (fun i => [(B, iL (dst n b (ds.reverse.take i)).1)]) (EvI.revI (bi _ (by rfl)) (Ev.name (by rfl))) trivial (.cons (.cons (.cons (.cons .nil)))) rfl ?_ ?_
    · intro i x hx M I
      have e := fold_take (dstep n b) ([], 0) ds.reverse hx
      change dst n b (ds.reverse.take (i + 1)) = dstep n b (dst n b (ds.reverse.take i)) x at e
      have hr := dst_rem (n := n) hb (ds.reverse.take i)
      have hl := dst_len (n := n) (b := b) (ds.reverse.take i) ([], 0)
      change (dst n b (ds.reverse.take i)).1.length = 0 + (ds.reverse.take i).length at hl
      rw [List.length_take, List.length_reverse] at hl
      obtain ⟨hx0, hx1⟩ := hdb x (List.mem_reverse.mp (List.mem_of_getElem? hx))
      rw [e]
      generalize dst n b (ds.reverse.take i) = st at hr hl ⊢
      obtain ⟨qs, r⟩ := st
      simp only at hr hl ⊢
      have q0 : 0 ≤ r * 2 ^ n := Int.mul_nonneg hr.1 (Int.le_of_lt hp)
      have q1 : r * 2 ^ n ≤ 256 * 256 := by
        calc r * 2 ^ n ≤ r * 256 := Int.mul_le_mul_of_nonneg_left (by omega) hr.1
          _ ≤ 256 * 256 := by omega
      refine ⟨_, Tg.name (.inl (by rfl)), rfl, rfl, ?_⟩
      refine .assignT (Ev.callF (g2 _ (by rfl)) (div2_ok hK (a := r * 2 ^ n + x) (b := b) (n := (n : Int)) (by omega) (by omega) hb (by omega) (by omega)) (by show 1 ≤ 61; omega)
        (.cons (.cons (Ev.bin (x := .int (r * 2 ^ n)) (y := .int x) ((Ev.bin (x := .int r) (y := .int (n : Int)) (Ev.name (by rfl)) (Ev.name (by rfl)) (Op.shl (by omega) (by omega) (by omega))).to (by rw [Int.toNat_natCast])) (Ev.name (by rfl)) Op.add) (.cons (Ev.name (by rfl)) (.cons (Ev.name (by rfl)) .nil)))))
        (Tg.tuple (.cons (Tg.name (.inl (by rfl))) (.cons (Tg.name (.inl (by rfl))) .nil)) (by rfl)) ?_
      refine .append 0 (a := B) (l := qs.map .int) (d := .int ((r * 2 ^ n + x) / b)) (Ev.name (by rfl)) (Ev.name (by rfl)) (by rw [sizeLine_eq, List.length_map]; omega) ?_
      refine .turnG (.cons (.cons (.cons (.cons .nil)))) (by
        show [(B, iL (qs ++ [(r * 2 ^ n + x) / b]))] = _
        unfold iL; rw [List.map_append]; rfl)
    · have e0 : ds.reverse.take ds.reverse.length = ds.reverse := List.take_of_length_le (Nat.le_refl _)
      rw [e0]
      obtain ⟨h2, h3, h4⟩ := dst_ok hb ds hdb
      have hl := dst_len (n := n) (b := b) ds.reverse ([], 0)
      change (dst n b ds.reverse).1.length = 0 + ds.reverse.length at hl
      rw [List.length_reverse] at hl
      rw [h3, hdv]
      rw [hdv] at h2
      generalize (dst n b ds.reverse).1 = qs at h2 h4 hl ⊢
      refine .seq (Ex1.reverse 0 (a := B) (l := qs.map .int) (Ev.name (by rfl)) (by rw [sizeLine_eq, List.length_map]; omega) fun h p => .intro (c' := _) ?_ p)
      refine .frz 0 "q_digits" (a := B) (d := .lst (qs.map .int).reverse) ?_
      have h5 := d2i_ok hK hT (n := n) (ds := qs.reverse) (fun d hd => h4 d (List.mem_reverse.mp hd)) (by rw [List.length_reverse, hl, Nat.zero_add, hdl, hlen]; omega) (by rw [List.length_reverse]; omega)
      rw [h2, List.length_reverse, hl] at h5
      refine .assign (Ev.callF (g3 _ (by rfl)) h5 (by show _ ≤ 61; omega) (.cons (.cons (Ev.to (Ev.name (by rfl)) (by unfold iL; rw [List.map_reverse])) (.cons (Ev.name (by rfl)) .nil)))) (.inl (by rfl)) ?_
      exact .ret (Ev.tuple (.cons (Ev.name (by rfl)) (.cons (Ev.name (by rfl)) .nil)) (hsz := by show 2 ≤ sizeLine; decide)) fun v h p hv => RetR.of p hv
end Mine
end
section
open PySem PySem.W PySem.Calls PyProof.Rows
namespace Mine
theorem idm_ok {C : Cfg} {p : Params} (hK : C.K = hd01.heap_39 p) (hT : C.tabs = tabsOf (hd01.heap_39 p)) {a b : Int} (ha : 0 ≤ a) (ha2 : a < 2 ^ 32) (hb : 0 < b) (hb2 : b < 2 ^ 8) : Fn C 63 70 [.int a, .int b] (.tup [.int (a / b), .int (a % b)]) := by
  have g1 : ∀ env : Env, env.kindOf "_divmod_pos" = some .globalImplicit → Gl C env "_divmod_pos" 63 := fun env h => ⟨by rw [hK]; rfl, h, by decide, _, _, by rw [hK]; rfl, by rfl⟩
  refine Fn.mk (names := ["a", "b"]) (k := 62) (by rw [hK]; rfl) (by rfl) (by rfl) (by rfl) (by rw [hK]; rfl) (by rfl) (by rfl) ?_ (by rfl) (by decide) ?_ ?_
  · intro vs h
    obtain ⟨a, b, rfl⟩ := len2 h
    rfl
  · intro x hx
    simp only [List.mem_cons, List.not_mem_nil, or_false] at hx
    rcases hx with rfl | rfl <;> exact .inl (by rfl)
  · intro L M I
    refine .ite (b := false) (EvB.cmp (x := .int b) (y := .int 0) (Ev.name (by rfl)) Ev.int (Op.eq.to (congrArg D.bool (decide_eq_false (by omega))))) ?_
    refine .ite (b := false) (EvB.cmp (x := .int b) (y := .int 0) (Ev.name (by rfl)) Ev.int (Op.lt.to (congrArg D.bool (decide_eq_false (by omega))))) ?_
    refine .ite (b := false) (EvB.cmp (x := .int a) (y := .int 0) (Ev.name (by rfl)) Ev.int (Op.lt.to (congrArg D.bool (decide_eq_false (by omega))))) ?_
    exact .ret (Ev.callF (g1 _ (by rfl)) (dmp_ok hK hT ha ha2 hb hb2) (by show 62 ≤ 62; omega) (.cons (.cons (Ev.name (by rfl)) (.cons (Ev.name (by rfl)) .nil)))) fun v h p hv => RetR.of p hv
end Mine
end
section
open PySem PySem.W PySem.Calls PyProof.Rows
namespace Mine
section
variable {C : Cfg} {c : Ctx C} {h h' : Heap} {rest : List Stmt} {R : Flow → Heap → Prop}
/-! three fresh lists in a fresh list -/
/-! what is owned is given up, without a name for it -/
/-! what is known of a state that has been met -/
end
end Mine
end
section
open PySem PySem.W PySem.Calls PyProof.Rows
namespace Mine
def upTo (n : Nat) : List Int := (List.range n).map fun i : Nat => (i : Int)
theorem rngL_upTo (n : Nat) : rngL 0 n = (upTo n).map .int := by
  unfold rngL upTo
  rw [List.map_map]
  exact List.map_congr_left fun i _ => by simp
theorem upTo_get {n i : Nat} {x : Int} (h : (upTo n)[i]? = some x) : i < n ∧ x = i := by
  unfold upTo at h
  rw [List.getElem?_map] at h
  cases e : (List.range n)[i]? with
  | none => rw [e] at h; cases h
  | some y =>
    rw [e] at h
    obtain ⟨h1, h2⟩ := List.getElem?_eq_some_iff.mp e
    simp at h1 h2 h
    omega
theorem upTo_mem {n : Nat} {x : Int} (h : x ∈ upTo n) : 0 ≤ x ∧ x < n := by
  unfold upTo at h
  obtain ⟨i, hi, rfl⟩ := List.mem_map.mp h
  have := List.mem_range.mp hi
  omega
theorem upTo_length (n : Nat) : (upTo n).length = n := by simp [upTo]
theorem EvI.rangeTo {C : Cfg} {c : Ctx C} {np pos : Pos} {e : Expr} {n : Nat} (b : Bi C c.env "range" (.type "range")) (he : Ev c e (.int (n : Int))) (hn : n ≤ 2 ^ 24) (hs : starEach [e] c.env = (false, eval e c.env) :: starEach [] c.env := by rfl) (hp : (backTo pos (starEach [] c.env)).any (·.1) = false := by rfl) :
    EvI c (.Call (.Name "range" np) [e] [] pos) ((upTo n).map .int) Any := by
  rw [← rngL_upTo]
  exact EvI.range (Ev.callT b (.cons he .nil hs) (OpL.range1 hn) hs hp)
/-! the four days -/
end Mine
end
section
open PySem PySem.W PySem.Calls PyProof.Rows
namespace Mine
section
variable {C : Cfg} {c : Ctx C} {h h' : Heap} {rest : List Stmt} {R : Flow → Heap → Prop}
theorem flat_map {α β : Type} (l : List α) (f : α → β) : l.flatMap (fun x => [f x]) = l.map f := by
  induction l with
  | nil => rfl
  | cons a l ih => rw [List.flatMap_cons, ih]; rfl
/-- a comprehension of one turn each -/
theorem EvF.map {elt : Expr} {target iter : Expr} {scope : Scope} {pos : Pos} {tg : Expr → Prop} {α : Type} (l : List α) (toD : α → D) (F : α → D) (G : List (Str × D))
    (hi : EvI c iter (l.map toD) tg) (ht : tg target) (caps : Caps c scope G)
    (step : ∀ x ∈ l, ∀ L M O I, ∃ c₂, Tg (c.inner scope G L M O I) target (toD x) c₂ ∧ Over (c.inner scope G L M O I) c₂ ∧ Ev c₂ elt (F x))
    (hsz : l.length ≤ sizeLine) (hkind : scope.kind = .function := by rfl) (hnames : ∀ x ∈ scope.names, x.2 = .local → scope.names.lookup x.1 = some .local := by decide)
    (hfree : (scope.names.all fun x => x.2 != .free || (c.env.cells.lookup x.1).isSome) = true := by rfl)
    (hf0 : ∀ x, foldedSetIterable iter c.env x = pure x := by intro _; rfl) (hf1 : ∀ L x, foldedSetIterable iter (cenvOf scope c.env L) x = pure x := by intro _ _; rfl) :
    EvF c (.ListComp elt [⟨target, iter, [], 0⟩] scope pos) (.lst (l.map F)) := by
  rw [← flat_map]
  refine EvF.comp l toD (fun x => [F x]) G hi ht caps (fun x hx L M O I => ?_) (by rw [flat_map, List.length_map]; exact hsz) hkind hnames (fun x hx hk => by have := List.all_eq_true.mp hfree x hx; rw [hk] at this; simpa using this) (by simp) hf0 hf1
  obtain ⟨c₂, h1, h2, h3⟩ := step x hx L M O I
  exact ⟨c₂, true, h1, h2, .nil, fun _ => .last h3, fun e => by cases e⟩
theorem Ex.assignMap {x : Str} {px spos : Pos} {elt : Expr} {target iter : Expr} {scope : Scope} {pos : Pos} {tg : Expr → Prop} {α : Type} (l : List α) (toD : α → D) (F : α → D) (G : List (Str × D))
    (hi : EvI c iter (l.map toD) tg) (ht : tg target) (caps : Caps c scope G)
    (step : ∀ x ∈ l, ∀ L M O I, ∃ c₂, Tg (c.inner scope G L M O I) target (toD x) c₂ ∧ Over (c.inner scope G L M O I) c₂ ∧ Ev c₂ elt (F x))
    (hsz : l.length ≤ sizeLine) (w : c.env.kindOf x = some .local) (hr : ∀ a, Ex ((c.own a (.lst (l.map F))).set x (.ptr a)) rest R)
    (hsw : swapsWith (.ListComp elt [⟨target, iter, [], 0⟩] scope pos) (some (.Name x px)) spos.line c.env = pure true := by rfl)
    (hkind : scope.kind = .function := by rfl) (hnames : ∀ x ∈ scope.names, x.2 = .local → scope.names.lookup x.1 = some .local := by decide)
    (hfree : (scope.names.all fun x => x.2 != .free || (c.env.cells.lookup x.1).isSome) = true := by rfl)
    (hf0 : ∀ x, foldedSetIterable iter c.env x = pure x := by intro _; rfl) (hf1 : ∀ L x, foldedSetIterable iter (cenvOf scope c.env L) x = pure x := by intro _ _; rfl) :
    Ex c (.Assign [.Name x px] (.ListComp elt [⟨target, iter, [], 0⟩] scope pos) spos :: rest) R := by
  refine .seq (Ex1.assignComp l toD (fun x => [F x]) G hi ht caps (fun x hx L M O I => ?_) (by rw [flat_map, List.length_map]; exact hsz) w (fun a h p => ⟨(c.own a (.lst (l.map F))).set x (.ptr a), rfl, rfl, by rw [flat_map] at p; exact p, hr a⟩) hsw hkind hnames (fun x hx hk => by have := List.all_eq_true.mp hfree x hx; rw [hk] at this; simpa using this) (by simp) hf0 hf1)
  obtain ⟨c₂, h1, h2, h3⟩ := step x hx L M O I
  exact ⟨c₂, true, h1, h2, .nil, fun _ => .last h3, fun e => by cases e⟩
end
theorem flat_none {α β : Type} (l : List α) : l.flatMap (fun _ => ([] : List β)) = [] := by
  induction l with
  | nil => rfl
  | cons a l ih => rw [List.flatMap_cons, ih]; rfl
section
variable {C : Cfg} {c : Ctx C} {h h' : Heap} {rest : List Stmt} {R : Flow → Heap → Prop}
theorem Ex.keepG (G : List (Str × D)) (hG : Sub G c.G) (hx : Ex { c with G := G } rest R) : Ex c rest R := hx.weak (fun h p => p.weakG hG)
end
theorem free_ok (F : List (Str × NameKind)) (l : List (Str × Addr)) (h : (F.all fun x => x.2 != .free || (l.lookup x.1).isSome) = true) : ∀ x ∈ F, x.2 = .free → (l.lookup x.1).isSome = true := fun x hx hk => by
  have := List.all_eq_true.mp h x hx; rw [hk] at this; simpa using this
end Mine
end
section
open PySem PySem.W PySem.Calls PyProof.Rows
namespace Mine
/-! sums over all rests, in plain words -/
def sum1 (p : Nat) (f : Int → Int) : Int := ((upTo p).map f).sum
def sum3 (p : Nat) (f : Int → Int → Int → Int) : Int := sum1 p fun x => sum1 p fun y => sum1 p fun z => f x y z
theorem lsum_add {α : Type} (l : List α) (f g : α → Int) : (l.map fun x => f x + g x).sum = (l.map f).sum + (l.map g).sum := by
  induction l with
  | nil => rfl
  | cons a l ih => simp only [List.map_cons, List.sum_cons, ih]; omega
theorem lsum_mul {α : Type} (l : List α) (c : Int) (f : α → Int) : (l.map fun x => c * f x).sum = c * (l.map f).sum := by
  induction l with
  | nil => simp
  | cons a l ih => simp only [List.map_cons, List.sum_cons, ih, Int.mul_add]
theorem lsum_dvd {α : Type} (q : Int) (l : List α) (f : α → Int) (h : ∀ x ∈ l, q ∣ f x) : q ∣ (l.map f).sum := by
  induction l with
  | nil => exact ⟨0, by simp⟩
  | cons a l ih =>
    rw [List.map_cons, List.sum_cons]
    exact Int.dvd_add (h a List.mem_cons_self) (ih fun x hx => h x (List.mem_cons_of_mem _ hx))
theorem lsum_zero {α : Type} (l : List α) : (l.map fun _ => (0 : Int)).sum = 0 := by
  induction l with
  | nil => rfl
  | cons a l ih => rw [List.map_cons, List.sum_cons, ih]; rfl
theorem lsum_comm {α β : Type} (l : List α) (m : List β) (f : α → β → Int) : (l.map fun x => (m.map fun y => f x y).sum).sum = (m.map fun y => (l.map fun x => f x y).sum).sum := by
  induction l with
  | nil => simp only [List.map_nil, List.sum_nil]; exact (lsum_zero m).symm
  | cons a l ih => simp only [List.map_cons, List.sum_cons, ih]; rw [← lsum_add]
theorem sum1_congr {p : Nat} {f g : Int → Int} (h : ∀ x ∈ upTo p, f x = g x) : sum1 p f = sum1 p g := by
  unfold sum1; rw [List.map_congr_left h]
theorem sum3_congr {p : Nat} {f g : Int → Int → Int → Int} (h : ∀ x ∈ upTo p, ∀ y ∈ upTo p, ∀ z ∈ upTo p, f x y z = g x y z) : sum3 p f = sum3 p g :=
  sum1_congr fun x hx => sum1_congr fun y hy => sum1_congr fun z hz => h x hx y hy z hz
theorem sum3_add {p : Nat} (f g : Int → Int → Int → Int) : sum3 p (fun x y z => f x y z + g x y z) = sum3 p f + sum3 p g := by
  unfold sum3 sum1
  simp only [lsum_add]
theorem sum3_dvd {p : Nat} {q : Int} {f : Int → Int → Int → Int} (h : ∀ x y z, q ∣ f x y z) : q ∣ sum3 p f :=
  lsum_dvd _ _ _ fun x _ => lsum_dvd _ _ _ fun y _ => lsum_dvd _ _ _ fun z _ => h x y z
theorem sum3_rot {p : Nat} (f : Int → Int → Int → Int) : sum3 p (fun x y z => f z x y) = sum3 p f := by
  unfold sum3 sum1
  have e1 : ∀ x, (List.map (fun y => (List.map (fun z => f z x y) (upTo p)).sum) (upTo p)).sum = (List.map (fun z => (List.map (fun y => f z x y) (upTo p)).sum) (upTo p)).sum := fun x => lsum_comm _ _ _
  simp only [e1]
  rw [lsum_comm (upTo p) (upTo p) (fun x z => (List.map (fun y => f z x y) (upTo p)).sum)]
theorem sum3_mono {p : Nat} (c : Int) (i j k : Nat) : sum3 p (fun x y z => c * (x ^ i * (y ^ j * z ^ k))) = c * (sum1 p (· ^ i) * (sum1 p (· ^ j) * sum1 p (· ^ k))) := by
  unfold sum3 sum1
  have e1 : ∀ x y : Int, (List.map (fun z : Int => c * (x ^ i * (y ^ j * z ^ k))) (upTo p)).sum = (c * (x ^ i * y ^ j)) * (List.map (fun z : Int => z ^ k) (upTo p)).sum := fun x y => by
    rw [← lsum_mul]; congr 1; refine List.map_congr_left fun z _ => ?_; ac_rfl
  simp only [e1]
  generalize (List.map (fun z : Int => z ^ k) (upTo p)).sum = s
  have e2 : ∀ x : Int, (List.map (fun y : Int => c * (x ^ i * y ^ j) * s) (upTo p)).sum = (c * x ^ i * s) * (List.map (fun y : Int => y ^ j) (upTo p)).sum := fun x => by
    rw [← lsum_mul]; congr 1; refine List.map_congr_left fun z _ => ?_; ac_rfl
  simp only [e2]
  generalize (List.map (fun y : Int => y ^ j) (upTo p)).sum = t
  have e3 : (List.map (fun x : Int => c * x ^ i * s * t) (upTo p)).sum = (c * s * t) * (List.map (fun x : Int => x ^ i) (upTo p)).sum := by
    rw [← lsum_mul]; congr 1; refine List.map_congr_left fun z _ => ?_; ac_rfl
  rw [e3]; ac_rfl

/-- a sum of products, none of a degree above d -/
inductive Poly : Nat → (Int → Int → Int → Int) → Prop
  | mono {d : Nat} (c : Int) (i j k : Nat) (h : i + j + k ≤ d) : Poly d (fun x y z => c * (x ^ i * (y ^ j * z ^ k)))
  | add {d : Nat} {f g : Int → Int → Int → Int} (hf : Poly d f) (hg : Poly d g) : Poly d (fun x y z => f x y z + g x y z)
theorem Poly.to {d : Nat} {f g : Int → Int → Int → Int} (h : Poly d f) (e : ∀ x y z, f x y z = g x y z) : Poly d g := (show f = g from funext fun x => funext fun y => funext fun z => e x y z) ▸ h
theorem Poly.mul {d e : Nat} {f g : Int → Int → Int → Int} (hf : Poly d f) (hg : Poly e g) : Poly (d + e) (fun x y z => f x y z * g x y z) := by
  induction hf with
  | mono c i j k h =>
    induction hg with
    | mono c' i' j' k' h' =>
      refine (Poly.mono (c * c') (i + i') (j + j') (k + k') (by omega)).to fun x y z => ?_
      simp only [Int.pow_add]; ac_rfl
    | add _ _ ih1 ih2 => exact (ih1.add ih2).to fun x y z => (Int.mul_add _ _ _).symm
  | add _ _ ih1 ih2 => exact (ih1.add ih2).to fun x y z => (Int.add_mul _ _ _).symm
theorem s3 {i : Nat} (h : i < 2) : (3 : Int) ∣ sum1 3 (· ^ i) := by
  have : i = 0 ∨ i = 1 := by omega
  rcases this with rfl | rfl <;> decide
theorem s5 {i : Nat} (h : i < 4) : (5 : Int) ∣ sum1 5 (· ^ i) := by
  have : i = 0 ∨ i = 1 ∨ i = 2 ∨ i = 3 := by omega
  rcases this with rfl | rfl | rfl | rfl <;> decide
theorem Poly.sum {p : Nat} (hp : p = 3 ∨ p = 5) {d : Nat} {f : Int → Int → Int → Int} (hf : Poly d f) (hd : d < 3 * (p - 1)) : (p : Int) ∣ sum3 p f := by
  have hs : ∀ i, i < p - 1 → (p : Int) ∣ sum1 p (· ^ i) := fun i hi => by
    rcases hp with rfl | rfl
    · exact s3 hi
    · exact s5 hi
  induction hf with
  | mono c i j k h =>
    rw [sum3_mono]
    have : i < p - 1 ∨ j < p - 1 ∨ k < p - 1 := by omega
    rcases this with h | h | h
    · exact Int.dvd_mul_of_dvd_right (Int.dvd_mul_of_dvd_left (hs _ h))
    · exact Int.dvd_mul_of_dvd_right (Int.dvd_mul_of_dvd_right (Int.dvd_mul_of_dvd_left (hs _ h)))
    · exact Int.dvd_mul_of_dvd_right (Int.dvd_mul_of_dvd_right (Int.dvd_mul_of_dvd_right (hs _ h)))
  | add _ _ ih1 ih2 => rw [sum3_add]; exact Int.dvd_add ih1 ih2
end Mine
end
section
open PySem PySem.W PySem.Calls PyProof.Rows
namespace Mine
/-- the sum of a number, three unknowns, and their products of two, each so often -/
def fv (n : List Int) (x y z : Int) : Int := n.getD 0 0 + n.getD 1 0 * x + n.getD 2 0 * y + n.getD 3 0 * z + n.getD 4 0 * x * x + n.getD 5 0 * y * y + n.getD 6 0 * z * z + n.getD 7 0 * x * y + n.getD 8 0 * y * z + n.getD 9 0 * z * x
theorem Poly.one (c : Int) (i j k : Nat) (h : i + j + k ≤ 2) {f : Int → Int → Int → Int} (e : ∀ x y z, c * (x ^ i * (y ^ j * z ^ k)) = f x y z) : Poly 2 f := (Poly.mono c i j k h).to e
theorem fv_poly (n : List Int) : Poly 2 (fv n) := by
  unfold fv
  refine .add (.add (.add (.add (.add (.add (.add (.add (.add ?_ ?_) ?_) ?_) ?_) ?_) ?_) ?_) ?_) ?_
  · exact .one (n.getD 0 0) 0 0 0 (by decide) fun x y z => by rw [Int.pow_zero, Int.pow_zero, Int.pow_zero, Int.mul_one, Int.mul_one, Int.mul_one]
  · exact .one (n.getD 1 0) 1 0 0 (by decide) fun x y z => by rw [Int.pow_zero, Int.pow_zero, Int.pow_succ, Int.pow_zero, Int.one_mul, Int.mul_one, Int.mul_one]
  · exact .one (n.getD 2 0) 0 1 0 (by decide) fun x y z => by rw [Int.pow_zero, Int.pow_zero, Int.pow_succ, Int.pow_zero, Int.one_mul, Int.one_mul, Int.mul_one]
  · exact .one (n.getD 3 0) 0 0 1 (by decide) fun x y z => by rw [Int.pow_zero, Int.pow_zero, Int.pow_succ, Int.pow_zero, Int.one_mul, Int.one_mul, Int.one_mul]
  · exact .one (n.getD 4 0) 2 0 0 (by decide) fun x y z => by generalize n.getD 4 0 = c; rw [Int.pow_zero, Int.pow_zero, Int.pow_succ, Int.pow_succ, Int.pow_zero, Int.one_mul, Int.mul_one, Int.mul_one, Int.mul_assoc]
  · exact .one (n.getD 5 0) 0 2 0 (by decide) fun x y z => by generalize n.getD 5 0 = c; rw [Int.pow_zero, Int.pow_zero, Int.pow_succ, Int.pow_succ, Int.pow_zero, Int.one_mul, Int.one_mul, Int.mul_one, Int.mul_assoc]
  · exact .one (n.getD 6 0) 0 0 2 (by decide) fun x y z => by generalize n.getD 6 0 = c; rw [Int.pow_zero, Int.pow_zero, Int.pow_succ, Int.pow_succ, Int.pow_zero, Int.one_mul, Int.one_mul, Int.one_mul, Int.mul_assoc]
  · exact .one (n.getD 7 0) 1 1 0 (by decide) fun x y z => by generalize n.getD 7 0 = c; rw [Int.pow_zero, Int.pow_succ, Int.pow_succ, Int.pow_zero, Int.pow_zero, Int.one_mul, Int.one_mul, Int.mul_one, Int.mul_assoc]
  · exact .one (n.getD 8 0) 0 1 1 (by decide) fun x y z => by generalize n.getD 8 0 = c; rw [Int.pow_zero, Int.pow_succ, Int.pow_succ, Int.pow_zero, Int.pow_zero, Int.one_mul, Int.one_mul, Int.one_mul, Int.mul_assoc]
  · exact .one (n.getD 9 0) 1 0 1 (by decide) fun x y z => by generalize n.getD 9 0 = c; rw [Int.pow_zero, Int.pow_succ, Int.pow_succ, Int.pow_zero, Int.pow_zero, Int.one_mul, Int.one_mul, Int.one_mul, Int.mul_comm x z, Int.mul_assoc]
/-- Fermat -/
theorem fermat {p : Nat} (hp : p = 3 ∨ p = 5) (v : Int) : (p : Int) ∣ v ^ (p - 1) + (if v % p = 0 then 1 else 0) - 1 := by
  have e : ∀ q : Int, v = q + p * (v / p) → v % p = q → (p : Int) ∣ v ^ (p - 1) - q ^ (p - 1) := fun q hv _ => by
    have sub : ∀ m : Nat, (p : Int) ∣ v ^ m - q ^ m := fun m => by
      induction m with
      | zero => simp
      | succ m ih =>
        have : v ^ (m + 1) - q ^ (m + 1) = (v ^ m - q ^ m) * v + q ^ m * (v - q) := by
          rw [Int.pow_succ, Int.pow_succ, Int.sub_mul, Int.mul_sub]; omega
        rw [this]
        refine Int.dvd_add (Int.dvd_mul_of_dvd_left ih) (Int.dvd_mul_of_dvd_right ⟨v / p, by omega⟩)
    exact sub _
  have hv : v = v % p + p * (v / p) := (Int.emod_add_mul_ediv v p).symm
  have h := e _ hv rfl
  rcases hp with rfl | rfl
  · have : v % 3 = 0 ∨ v % 3 = 1 ∨ v % 3 = 2 := by omega
    change (3 : Int) ∣ v ^ 2 - (v % 3) ^ 2 at h
    show (3 : Int) ∣ v ^ 2 + (if v % 3 = 0 then 1 else 0) - 1
    rcases this with q | q | q <;> rw [q] at h ⊢ <;> simp at h ⊢ <;> omega
  · have : v % 5 = 0 ∨ v % 5 = 1 ∨ v % 5 = 2 ∨ v % 5 = 3 ∨ v % 5 = 4 := by omega
    change (5 : Int) ∣ v ^ 4 - (v % 5) ^ 4 at h
    show (5 : Int) ∣ v ^ 4 + (if v % 5 = 0 then 1 else 0) - 1
    rcases this with q | q | q | q | q <;> rw [q] at h ⊢ <;> simp at h ⊢ <;> omega
theorem pow_poly {p : Nat} (hp : p = 3 ∨ p = 5) (n : List Int) : Poly (2 * (p - 1)) (fun x y z => fv n x y z ^ (p - 1)) := by
  rcases hp with rfl | rfl
  · exact ((fv_poly n).mul (fv_poly n)).to fun x y z => by simp [Int.pow_succ]
  · exact (((fv_poly n).mul (fv_poly n)).mul ((fv_poly n).mul (fv_poly n))).to fun x y z => by simp [Int.pow_succ, Int.mul_assoc]
def ind (p : Nat) (v : Int) : Int := if v % p = 0 then 1 else 0
/-- how many rests make nought -/
def cnt (p : Nat) (n : List Int) : Int := sum3 p fun x y z => ind p (fv n x y z)
theorem pow_sum {p : Nat} (hp : p = 3 ∨ p = 5) (n : List Int) : (p : Int) ∣ sum3 p (fun x y z => fv n x y z ^ (p - 1)) := (pow_poly hp n).sum hp (by rcases hp with rfl | rfl <;> decide)
theorem chevalley {p : Nat} (hp : p = 3 ∨ p = 5) (n : List Int) : (p : Int) ∣ cnt p n := by
  have h1 := pow_sum hp n
  have h2 : (p : Int) ∣ sum3 p (fun x y z => (fv n x y z ^ (p - 1) + ind p (fv n x y z)) + -1) := sum3_dvd fun x y z => fermat hp (fv n x y z)
  rw [sum3_add, sum3_add] at h2
  have h3 : (p : Int) ∣ sum3 p (fun _ _ _ => -1) := by rcases hp with rfl | rfl <;> decide
  have e : cnt p n = (sum3 p (fun x y z => fv n x y z ^ (p - 1)) + cnt p n + sum3 p (fun _ _ _ => -1)) - sum3 p (fun x y z => fv n x y z ^ (p - 1)) - sum3 p (fun _ _ _ => -1) := by omega
  rw [e]
  exact Int.dvd_sub (Int.dvd_sub h2 h1) h3
theorem wpow_sum {p : Nat} (hp : p = 3 ∨ p = 5) (n : List Int) : (p : Int) ∣ sum3 p (fun x y z => (fv n x y z % p) ^ (p - 1)) := by
  have h1 := pow_sum hp n
  have h2 : (p : Int) ∣ sum3 p (fun x y z => (fv n x y z % p) ^ (p - 1) + -(fv n x y z ^ (p - 1))) := sum3_dvd fun x y z => by
    have a := fermat hp (fv n x y z % p)
    have b := fermat hp (fv n x y z)
    rw [Int.emod_emod_of_dvd _ (Int.dvd_refl _)] at a
    have := Int.dvd_sub a b
    have e : ∀ u w i : Int, u + i - 1 - (w + i - 1) = u + -w := fun u w i => by omega
    rw [e] at this
    exact this
  rw [sum3_add] at h2
  have h3 : sum3 p (fun x y z => -(fv n x y z ^ (p - 1))) = -sum3 p (fun x y z => fv n x y z ^ (p - 1)) := by
    have := sum3_add (p := p) (fun x y z => fv n x y z ^ (p - 1)) (fun x y z => -(fv n x y z ^ (p - 1)))
    have z : sum3 p (fun x y z => fv n x y z ^ (p - 1) + -(fv n x y z ^ (p - 1))) = 0 := by
      rw [show (fun x y z => fv n x y z ^ (p - 1) + -(fv n x y z ^ (p - 1))) = fun (_ _ _ : Int) => (0 : Int) from by funext x y z; omega]
      unfold sum3 sum1; simp only [lsum_zero]
    omega
  rw [h3] at h2
  have e : sum3 p (fun x y z => (fv n x y z % p) ^ (p - 1)) = (sum3 p (fun x y z => (fv n x y z % p) ^ (p - 1)) + -sum3 p (fun x y z => fv n x y z ^ (p - 1))) + sum3 p (fun x y z => fv n x y z ^ (p - 1)) := by omega
  rw [e]; exact Int.dvd_add h2 h1
end Mine
end
section
open PySem PySem.W PySem.Calls PyProof.Rows
namespace Mine
theorem flat_len {α β : Type} (l : List α) (f : α → List β) : ((l.flatMap f).length : Int) = (l.map fun a => ((f a).length : Int)).sum := by
  induction l with
  | nil => rfl
  | cons a l ih => rw [List.flatMap_cons, List.length_append, List.map_cons, List.sum_cons, ← ih]; omega
/-- the list of a one for each nought -/
def oneZ (p : Nat) (n : List Int) (x y : Int) (z : Int) : List D := if (fv n x y z % p == 0) = true then [.int 1] else []
def oneY (p : Nat) (n : List Int) (x : Int) (y : Int) : List D := (upTo p).flatMap (oneZ p n x y)
def oneX (p : Nat) (n : List Int) (x : Int) : List D := (upTo p).flatMap (oneY p n x)
def onesL (p : Nat) (n : List Int) : List D := (upTo p).flatMap (oneX p n)
theorem onesL_len (p : Nat) (n : List Int) : ((onesL p n).length : Int) = cnt p n := by
  unfold onesL cnt sum3 sum1
  rw [flat_len]
  congr 1
  refine List.map_congr_left fun x _ => ?_
  unfold oneX
  rw [flat_len]
  congr 1
  refine List.map_congr_left fun y _ => ?_
  unfold oneY
  rw [flat_len]
  congr 1
  refine List.map_congr_left fun z _ => ?_
  show ((oneZ p n x y z).length : Int) = ind p (fv n x y z)
  unfold oneZ ind
  by_cases h : fv n x y z % p = 0
  · rw [if_pos (by simpa using h), if_pos h]; rfl
  · rw [if_neg (by simpa using h), if_neg h]; rfl
theorem cnt_le (p : Nat) (hp : p = 3 ∨ p = 5) (n : List Int) : cnt p n ≤ 125 ∧ 0 ≤ cnt p n := by
  have key : ∀ (l : List Int) (f : Int → Int) (b : Int), (∀ x, 0 ≤ f x ∧ f x ≤ b) → 0 ≤ (l.map f).sum ∧ (l.map f).sum ≤ l.length * b := by
    intro l f b h
    induction l with
    | nil => simp
    | cons a l ih =>
      rw [List.map_cons, List.sum_cons, List.length_cons]
      have := h a
      have e : ((l.length + 1 : Nat) : Int) * b = (l.length : Int) * b + b := by rw [Int.natCast_add, Int.add_mul]; simp
      omega
  have i1 : ∀ v, 0 ≤ ind p v ∧ ind p v ≤ 1 := fun v => by unfold ind; split <;> omega
  have k1 := fun x y => key (upTo p) (fun z => ind p (fv n x y z)) 1 fun z => i1 _
  have k2 := fun x => key (upTo p) (fun y => sum1 p fun z => ind p (fv n x y z)) _ fun y => k1 x y
  have k3 := key (upTo p) (fun x => sum1 p fun y => sum1 p fun z => ind p (fv n x y z)) _ k2
  rw [upTo_length] at k3
  unfold cnt sum3
  rcases hp with rfl | rfl
  · exact ⟨Int.le_trans k3.2 (by decide), k3.1⟩
  · exact ⟨Int.le_trans k3.2 (by decide), k3.1⟩
theorem cnt_congr {p : Nat} {n m : List Int} (h : ∀ x ∈ upTo p, ∀ y ∈ upTo p, ∀ z ∈ upTo p, fv n x y z % p = 0 ↔ fv m x y z % p = 0) : cnt p n = cnt p m := by
  unfold cnt
  refine sum3_congr fun x hx y hy z hz => ?_
  unfold ind
  by_cases e : fv n x y z % p = 0
  · rw [if_pos e, if_pos ((h x hx y hy z hz).mp e)]
  · rw [if_neg e, if_neg (fun q => e ((h x hx y hy z hz).mpr q))]
/-- with no number and no unknown alone -/
theorem cnt_plain {p : Nat} (hp : p = 3 ∨ p = 5) (n : List Int) (h0 : n.getD 0 0 = 0) : (p : Int) ≤ cnt p n := by
  have hd := chevalley hp n
  have hb := (cnt_le p hp n).2
  have z0 : (upTo p) = 0 :: (upTo p).tail := by rcases hp with rfl | rfl <;> rfl
  have pos : 1 ≤ cnt p n := by
    have key : ∀ (l : List Int) (f : Int → Int), (∀ x, 0 ≤ f x) → 0 ≤ (l.map f).sum := by
      intro l f h
      induction l with
      | nil => simp
      | cons a l ih => rw [List.map_cons, List.sum_cons]; have := h a; omega
    have head : ∀ (f : Int → Int), (∀ x, 0 ≤ f x) → f 0 ≤ sum1 p f := fun f h => by
      unfold sum1
      rw [z0, List.map_cons, List.sum_cons]
      have := key (upTo p).tail f h
      omega
    have i1 : ∀ v, 0 ≤ ind p v := fun v => by unfold ind; split <;> omega
    have n1 : ∀ x y, 0 ≤ sum1 p (fun z => ind p (fv n x y z)) := fun x y => key _ _ fun z => i1 _
    have n2 : ∀ x, 0 ≤ sum1 p (fun y => sum1 p fun z => ind p (fv n x y z)) := fun x => key _ _ fun y => n1 x y
    have h1 := head _ n2
    have h2 := head _ (n1 0)
    have h3 := head (fun z => ind p (fv n 0 0 z)) fun z => i1 _
    have h4 : ind p (fv n 0 0 0) = 1 := by
      unfold ind fv
      rw [h0]
      simp
    show 1 ≤ sum1 p fun x => sum1 p fun y => sum1 p fun z => ind p (fv n x y z)
    omega
  obtain ⟨k, hk⟩ := hd
  rcases hp with rfl | rfl <;> omega
/-- the unknowns in another order -/
theorem cnt_turn {p : Nat} {n m : List Int} (h : ∀ x y z, fv m x y z = fv n z x y) : cnt p m = cnt p n := by
  unfold cnt
  rw [← sum3_rot fun x y z => ind p (fv n x y z)]
  refine sum3_congr fun x _ y _ z _ => ?_
  rw [h]
theorem sum1_shift {p : Nat} (hp : p = 3 ∨ p = 5) (f : Int → Int) {y : Int} (hy : y ∈ upTo p) : sum1 p (fun x => f ((x + y) % p)) = sum1 p f := by
  have hy := upTo_mem hy
  rcases hp with rfl | rfl
  · have : y = 0 ∨ y = 1 ∨ y = 2 := by omega
    rcases this with rfl | rfl | rfl
    · show f 0 + (f 1 + (f 2 + 0)) = f 0 + (f 1 + (f 2 + 0)); omega
    · show f 1 + (f 2 + (f 0 + 0)) = f 0 + (f 1 + (f 2 + 0)); omega
    · show f 2 + (f 0 + (f 1 + 0)) = f 0 + (f 1 + (f 2 + 0)); omega
  · have : y = 0 ∨ y = 1 ∨ y = 2 ∨ y = 3 ∨ y = 4 := by omega
    rcases this with rfl | rfl | rfl | rfl | rfl
    · show f 0 + (f 1 + (f 2 + (f 3 + (f 4 + 0)))) = f 0 + (f 1 + (f 2 + (f 3 + (f 4 + 0)))); omega
    · show f 1 + (f 2 + (f 3 + (f 4 + (f 0 + 0)))) = f 0 + (f 1 + (f 2 + (f 3 + (f 4 + 0)))); omega
    · show f 2 + (f 3 + (f 4 + (f 0 + (f 1 + 0)))) = f 0 + (f 1 + (f 2 + (f 3 + (f 4 + 0)))); omega
    · show f 3 + (f 4 + (f 0 + (f 1 + (f 2 + 0)))) = f 0 + (f 1 + (f 2 + (f 3 + (f 4 + 0)))); omega
    · show f 4 + (f 0 + (f 1 + (f 2 + (f 3 + 0)))) = f 0 + (f 1 + (f 2 + (f 3 + (f 4 + 0)))); omega
/-- the first unknown with the second added to it -/
theorem cnt_slant {p : Nat} (hp : p = 3 ∨ p = 5) {n m : List Int} (h : ∀ x y z, fv m x y z % p = 0 ↔ fv n ((x + y) % p) y z % p = 0) : cnt p m = cnt p n := by
  have swap : ∀ f : Int → Int → Int → Int, sum3 p f = sum1 p fun y => sum1 p fun x => sum1 p fun z => f x y z := fun f => by
    unfold sum3 sum1; exact lsum_comm _ _ _
  unfold cnt
  rw [swap, swap]
  refine sum1_congr fun y hy => ?_
  rw [← sum1_shift hp (fun x => sum1 p fun z => ind p (fv n x y z)) hy]
  refine sum1_congr fun x _ => ?_
  refine sum1_congr fun z _ => ?_
  unfold ind
  by_cases e : fv m x y z % p = 0
  · rw [if_pos e, if_pos ((h x y z).mp e)]
  · rw [if_neg e, if_neg (fun q => e ((h x y z).mpr q))]
end Mine
end
section
open PySem PySem.W PySem.Calls PyProof.Rows
namespace Mine
theorem ten {n : List Int} (h : n.length = 10) : n = [n.getD 0 0, n.getD 1 0, n.getD 2 0, n.getD 3 0, n.getD 4 0, n.getD 5 0, n.getD 6 0, n.getD 7 0, n.getD 8 0, n.getD 9 0] := by
  match n, h with
  | [a, b, c, d, e, f, g, h, i, j], _ => rfl
theorem dvd1 {p u v : Int} (h : p ∣ u - v) (x : Int) : p ∣ u * x - v * x := by rw [← Int.sub_mul]; exact Int.dvd_mul_of_dvd_left h
theorem dvd2 {p u v : Int} (h : p ∣ u - v) (c : Int) : p ∣ c * u - c * v := by rw [← Int.mul_sub]; exact Int.dvd_mul_of_dvd_right h
theorem fv_mod {p : Nat} (hp : p = 3 ∨ p = 5) {n m : List Int} (h : ∀ k, (p : Int) ∣ m.getD k 0 - n.getD k 0) (x y z : Int) : (p : Int) ∣ fv m x y z - fv n x y z := by
  have h0 := h 0
  have h1 := dvd1 (h 1) x
  have h2 := dvd1 (h 2) y
  have h3 := dvd1 (h 3) z
  have h4 := dvd1 (dvd1 (h 4) x) x
  have h5 := dvd1 (dvd1 (h 5) y) y
  have h6 := dvd1 (dvd1 (h 6) z) z
  have h7 := dvd1 (dvd1 (h 7) x) y
  have h8 := dvd1 (dvd1 (h 8) y) z
  have h9 := dvd1 (dvd1 (h 9) z) x
  unfold fv
  rcases hp with rfl | rfl <;> omega
theorem fv_arg {p : Nat} (hp : p = 3 ∨ p = 5) (n : List Int) {u v : Int} (h : (p : Int) ∣ u - v) (y z : Int) : (p : Int) ∣ fv n u y z - fv n v y z := by
  have h1 := dvd2 h (n.getD 1 0)
  have h4 : (p : Int) ∣ n.getD 4 0 * u * u - n.getD 4 0 * v * v := by
    have a := dvd1 (dvd2 h (n.getD 4 0)) u
    have b := dvd2 h (n.getD 4 0 * v)
    have := Int.dvd_add a b
    rw [show n.getD 4 0 * u * u - n.getD 4 0 * v * u + (n.getD 4 0 * v * u - n.getD 4 0 * v * v) = n.getD 4 0 * u * u - n.getD 4 0 * v * v from by omega] at this
    exact this
  have h7 := dvd1 (dvd2 h (n.getD 7 0)) y
  have h9 := dvd2 h (n.getD 9 0 * z)
  unfold fv
  rcases hp with rfl | rfl <;> omega
theorem zero_of {p : Nat} {u v : Int} (h : (p : Int) ∣ u - v) : u % p = 0 ↔ v % p = 0 := by
  have e := Int.emod_emod_of_dvd u (Int.dvd_refl (p : Int))
  constructor
  · intro q
    have := Int.dvd_sub (Int.dvd_of_emod_eq_zero q) h
    rw [show u - (u - v) = v from by omega] at this
    exact Int.emod_eq_zero_of_dvd this
  · intro q
    have := Int.dvd_add h (Int.dvd_of_emod_eq_zero q)
    rw [show u - v + v = u from by omega] at this
    exact Int.emod_eq_zero_of_dvd this
def turned (n : List Int) : List Int := ([0, 2, 3, 1, 5, 6, 4, 8, 9, 7] : List Int).map fun k => n.getD k.toNat 0
def twice (p : Nat) (n : List Int) : List Int := n.map fun v => 2 * v % p
def plainN (n : List Int) : List Int := [0, 0, 0, 0] ++ n.drop 4
def slant0 (n : List Int) : List Int := [n.getD 0 0, n.getD 1 0, n.getD 2 0 + n.getD 1 0, n.getD 3 0, n.getD 4 0, n.getD 5 0 + n.getD 4 0 + n.getD 7 0, n.getD 6 0, n.getD 7 0 + 2 * n.getD 4 0, n.getD 8 0 + n.getD 9 0, n.getD 9 0]
def slanted (p : Nat) (n : List Int) : List Int := (slant0 n).map fun v => v % p
theorem cnt_turned {p : Nat} (n : List Int) : cnt p (turned n) = cnt p n := by
  refine cnt_turn fun x y z => ?_
  show fv [n.getD 0 0, n.getD 2 0, n.getD 3 0, n.getD 1 0, n.getD 5 0, n.getD 6 0, n.getD 4 0, n.getD 8 0, n.getD 9 0, n.getD 7 0] x y z = fv n z x y
  unfold fv
  show n.getD 0 0 + n.getD 2 0 * x + n.getD 3 0 * y + n.getD 1 0 * z + n.getD 5 0 * x * x + n.getD 6 0 * y * y + n.getD 4 0 * z * z + n.getD 8 0 * x * y + n.getD 9 0 * y * z + n.getD 7 0 * z * x = _
  omega
theorem map_getD {n : List Int} {f : Int → Int} (h0 : f 0 = 0) (k : Nat) : (n.map f).getD k 0 = f (n.getD k 0) := by
  rw [List.getD_eq_getElem?_getD, List.getD_eq_getElem?_getD, List.getElem?_map]
  cases n[k]? with
  | none => exact h0.symm
  | some x => rfl
theorem cnt_twice {p : Nat} (hp : p = 3 ∨ p = 5) (n : List Int) : cnt p (twice p n) = cnt p n := by
  refine cnt_congr fun x _ y _ z _ => ?_
  have a : (p : Int) ∣ fv (twice p n) x y z - fv (n.map fun v => 2 * v) x y z := fv_mod hp (fun k => by
    unfold twice
    rw [map_getD (by rcases hp with rfl | rfl <;> rfl), map_getD (by rfl)]
    exact ⟨-(2 * n.getD k 0 / p), by have := Int.emod_add_mul_ediv (2 * n.getD k 0) p; rw [Int.mul_neg]; omega⟩) x y z
  have b : fv (n.map fun v => 2 * v) x y z = 2 * fv n x y z := by
    unfold fv
    simp only [map_getD (n := n) (f := fun v => 2 * v) (by rfl), Int.mul_add, Int.mul_assoc]
  rw [b] at a
  rw [zero_of a]
  rcases hp with rfl | rfl <;> omega
theorem cnt_slanted {p : Nat} (hp : p = 3 ∨ p = 5) (n : List Int) : cnt p (slanted p n) = cnt p n := by
  refine cnt_slant hp fun x y z => ?_
  have a : (p : Int) ∣ fv (slanted p n) x y z - fv (slant0 n) x y z := fv_mod hp (fun k => by
    unfold slanted
    rw [map_getD (by rcases hp with rfl | rfl <;> rfl)]
    exact ⟨-((slant0 n).getD k 0 / p), by have := Int.emod_add_mul_ediv ((slant0 n).getD k 0) p; rw [Int.mul_neg]; omega⟩) x y z
  have b : fv (slant0 n) x y z = fv n (x + y) y z := by
    show n.getD 0 0 + n.getD 1 0 * x + (n.getD 2 0 + n.getD 1 0) * y + n.getD 3 0 * z + n.getD 4 0 * x * x + (n.getD 5 0 + n.getD 4 0 + n.getD 7 0) * y * y + n.getD 6 0 * z * z + (n.getD 7 0 + 2 * n.getD 4 0) * x * y + (n.getD 8 0 + n.getD 9 0) * y * z + n.getD 9 0 * z * x = _
    unfold fv
    generalize n.getD 0 0 = a0
    generalize n.getD 1 0 = a1
    generalize n.getD 2 0 = a2
    generalize n.getD 3 0 = a3
    generalize n.getD 4 0 = a4
    generalize n.getD 5 0 = a5
    generalize n.getD 6 0 = a6
    generalize n.getD 7 0 = a7
    generalize n.getD 8 0 = a8
    generalize n.getD 9 0 = a9
    simp only [Int.add_mul, Int.mul_add]
    have h1 : a4 * y * x = a4 * x * y := by rw [Int.mul_assoc, Int.mul_comm y x, Int.mul_assoc]
    have h2 : 2 * a4 * x * y = 2 * (a4 * x * y) := by rw [Int.mul_assoc, Int.mul_assoc, Int.mul_assoc]
    have h3 : a9 * z * y = a9 * y * z := by rw [Int.mul_assoc, Int.mul_comm z y, Int.mul_assoc]
    omega
  have c := fv_arg hp n (u := x + y) (v := (x + y) % p) ⟨(x + y) / p, by have := Int.emod_add_mul_ediv (x + y) p; omega⟩ y z
  rw [b] at a
  rw [zero_of a, zero_of c]
end Mine
end
section
open PySem PySem.W PySem.Calls PyProof.Rows
namespace Mine
/-! the table of what comes out -/
def kw (v : Int) : List Atom := [.str "comes", .int v, .str "out"]
def wordOf : List Atom → Int
  | [_, .int v, _] => v
  | _ => 0
def addW (t : ES) (w : Int) : ES := addD t [(kw w, 1)]
theorem dget_none {t : ES} {k : List Atom} : dget t k = none ↔ k ∉ t.map (·.1) := by
  unfold dget
  rw [Option.map_eq_none_iff, List.find?_eq_none]
  constructor
  · intro h hm
    obtain ⟨q, hq, e⟩ := List.mem_map.mp hm
    exact h q hq (by simpa using e)
  · intro h q hq e
    exact h (List.mem_map.mpr ⟨q, hq, by simpa using e⟩)
theorem dset_new {t : ES} {k : List Atom} {i : Int} (h : k ∉ t.map (·.1)) : dset t k i = t ++ [(k, i)] := by
  unfold dset
  rw [dget_none.mpr h]; rfl
theorem copy_at : ∀ (l l' : ES), ((l' ++ l).map (·.1)).Nodup → l.foldl (fun acc p => dset acc p.1 p.2) l' = l' ++ l
  | [], l', _ => by simp
  | (k, i) :: l, l', h => by
    have hk : k ∉ l'.map (·.1) := fun hm => by
      rw [List.map_append, List.nodup_append] at h
      exact h.2.2 k hm k List.mem_cons_self rfl
    rw [List.foldl_cons, dset_new hk, copy_at l (l' ++ [(k, i)]) (by simpa using h)]
    simp
theorem copy_nd {t : ES} (h : (t.map (·.1)).Nodup) : copyD t = t := by
  have := copy_at t [] (by simpa using h)
  simpa [copyD] using this
theorem addW_len (t : ES) (w : Int) : (addW t w).length ≤ t.length + 1 := by
  unfold addW addD copyD
  have h1 := fold_len (f := fun acc p => dset acc p.1 p.2) (fun a p => dset_len a p.1 p.2) t []
  have h2 := fold_len (f := addOne) addOne_len [(kw w, (1 : Int))] (t.foldl (fun acc p => dset acc p.1 p.2) [])
  simp only [List.length_nil, List.length_cons] at h1 h2
  omega
theorem sum_upd {t : ES} {k : List Atom} {v : Int} (φ : List Atom → Int) (hn : (t.map (·.1)).Nodup) (hg : dget t k = some v) :
    ((t.map (fun x => if x.1 = k then (x.1, v + 1) else x)).map fun q => q.2 * φ q.1).sum = (t.map fun q => q.2 * φ q.1).sum + φ k := by
  induction t with
  | nil => cases hg
  | cons x t ih =>
    rw [List.map_cons, List.nodup_cons] at hn
    simp only [List.map_cons, List.sum_cons]
    by_cases e : x.1 = k
    · have hv : x.2 = v := by
        unfold dget at hg
        rw [List.find?_cons_of_pos (by simpa using e)] at hg
        exact Option.some.inj hg
      have ht : t.map (fun x => if x.1 = k then (x.1, v + 1) else x) = t := by
        have : ∀ q ∈ t, (fun x : List Atom × Int => if x.1 = k then (x.1, v + 1) else x) q = id q := fun q hq => if_neg fun z => hn.1 (List.mem_map.mpr ⟨q, hq, z.trans e.symm⟩)
        rw [List.map_congr_left this, List.map_id]
      rw [ht, if_pos e]
      show (v + 1) * φ x.1 + _ = _
      rw [hv, e, Int.add_mul, Int.one_mul]
      omega
    · have hg' : dget t k = some v := by
        unfold dget at hg ⊢
        rwa [List.find?_cons_of_neg (by simpa using e)] at hg
      rw [if_neg e, ih hn.2 hg']
      omega
structure TabOk (t : ES) (ws : List Int) : Prop where
  nd : (t.map (·.1)).Nodup
  ks : ∀ q ∈ t, ∃ v ∈ ws, q.1 = kw v
  sum : ∀ φ : Int → Int, (t.map fun q => q.2 * φ (wordOf q.1)).sum = (ws.map φ).sum
theorem TabOk.add {t : ES} {ws : List Int} (h : TabOk t ws) (w : Int) : TabOk (addW t w) (ws ++ [w]) := by
  have e : addW t w = addOne t (kw w, 1) := by
    unfold addW addD
    rw [copy_nd h.nd]; rfl
  rw [e]
  unfold addOne
  cases hg : dget t (kw w) with
  | none =>
    have hk := dget_none.mp hg
    show TabOk (dset t (kw w) 1) _
    rw [dset_new hk]
    refine ⟨?_, ?_, fun φ => ?_⟩
    · rw [List.map_append, List.nodup_append]
      refine ⟨h.nd, by simp, fun a ha b hb => ?_⟩
      rw [show b = kw w from by simpa using hb]
      exact fun q => hk (q ▸ ha)
    · intro q hq
      rcases List.mem_append.mp hq with hq | hq
      · obtain ⟨v, hv, e⟩ := h.ks q hq; exact ⟨v, List.mem_append_left _ hv, e⟩
      · rw [List.mem_singleton.mp hq]; exact ⟨w, List.mem_append_right _ List.mem_cons_self, rfl⟩
    · rw [List.map_append, List.sum_append, h.sum, List.map_append, List.sum_append]
      show _ + (1 * φ w + 0) = _ + (φ w + 0)
      omega
  | some v =>
    show TabOk (dset t (kw w) (v + 1)) _
    unfold dset
    rw [hg]
    show TabOk (t.map fun x => if x.1 = kw w then (x.1, v + 1) else x) _
    have hk : (t.map fun x => if x.1 = kw w then (x.1, v + 1) else x).map (·.1) = t.map (·.1) := by
      rw [List.map_map]
      refine List.map_congr_left fun q _ => ?_
      show (if q.1 = kw w then (q.1, v + 1) else q).1 = q.1
      split <;> rfl
    refine ⟨by rw [hk]; exact h.nd, fun q hq => ?_, fun φ => ?_⟩
    · have : q.1 ∈ t.map (·.1) := by rw [← hk]; exact List.mem_map.mpr ⟨q, hq, rfl⟩
      obtain ⟨q', hq', e⟩ := List.mem_map.mp this
      obtain ⟨u, hu, e2⟩ := h.ks q' hq'
      exact ⟨u, List.mem_append_left _ hu, e ▸ e2⟩
    · have := sum_upd (fun k => φ (wordOf k)) h.nd hg
      rw [this, h.sum, List.map_append, List.sum_append]
      show _ + φ w = _ + (φ w + 0)
      omega
theorem tab_ok (ws : List Int) : TabOk (ws.foldl addW []) ws := by
  have key : ∀ (ws us : List Int) (t : ES), TabOk t us → TabOk (ws.foldl addW t) (us ++ ws) := by
    intro ws
    induction ws with
    | nil => intro us t h; simpa using h
    | cons w ws ih => intro us t h; have := ih _ _ (h.add w); simpa using this
  exact key ws [] [] ⟨by simp, by simp, fun _ => rfl⟩
theorem kw_word (v : Int) : wordOf (kw v) = v := rfl
theorem tab_zero {t : ES} {ws : List Int} (h : TabOk t ws) : (dget t (kw 0)).getD 0 = (ws.map fun v => if v = 0 then (1 : Int) else 0).sum := by
  rw [← h.sum]
  have key : ∀ t : ES, (t.map (·.1)).Nodup → (∀ q ∈ t, ∃ v ∈ ws, q.1 = kw v) → (dget t (kw 0)).getD 0 = (t.map fun q => q.2 * (if wordOf q.1 = 0 then (1 : Int) else 0)).sum := by
    intro t
    induction t with
    | nil => intro _ _; rfl
    | cons q t ih =>
      intro hn hk
      rw [List.map_cons, List.nodup_cons] at hn
      obtain ⟨v, _, e⟩ := hk q List.mem_cons_self
      have hk' := fun r hr => hk r (List.mem_cons_of_mem _ hr)
      rw [List.map_cons, List.sum_cons, e, kw_word]
      by_cases hv : v = 0
      · subst hv
        have none : dget t (kw 0) = none := dget_none.mpr (e ▸ hn.1)
        have := ih hn.2 hk'
        rw [none] at this
        rw [if_pos rfl, ← this]
        unfold dget
        rw [List.find?_cons_of_pos (by simpa using e)]
        show q.2 = q.2 * 1 + 0
        omega
      · rw [if_neg hv, ← ih hn.2 hk']
        have : dget (q :: t) (kw 0) = dget t (kw 0) := by
          unfold dget
          rw [List.find?_cons_of_neg (by
            simp only [decide_eq_true_eq]
            rw [e]; intro z
            exact hv (by have := congrArg wordOf z; simpa [kw_word] using this))]
        rw [this]; omega
  exact key t h.nd h.ks
/-- the words, rest by rest -/
def wordsL (p : Nat) (n : List Int) : List Int := (upTo p).flatMap fun x => (upTo p).flatMap fun y => (upTo p).map fun z => fv n x y z % p
theorem flat_sum {α : Type} (l : List α) (f : α → List Int) (φ : Int → Int) : ((l.flatMap f).map φ).sum = (l.map fun a => ((f a).map φ).sum).sum := by
  induction l with
  | nil => rfl
  | cons a l ih => rw [List.flatMap_cons, List.map_append, List.sum_append, ih, List.map_cons, List.sum_cons]
theorem words_sum (p : Nat) (n : List Int) (φ : Int → Int) : ((wordsL p n).map φ).sum = sum3 p fun x y z => φ (fv n x y z % p) := by
  unfold wordsL sum3 sum1
  simp only [flat_sum, List.map_map]
  rfl
def stepZ (p : Nat) (n : List Int) (x y : Int) (t : ES) (z : Int) : ES := addW t (fv n x y z % p)
def stepY (p : Nat) (n : List Int) (x : Int) (t : ES) (y : Int) : ES := (upTo p).foldl (stepZ p n x y) t
def stepX (p : Nat) (n : List Int) (t : ES) (x : Int) : ES := (upTo p).foldl (stepY p n x) t
def tableOf (p : Nat) (n : List Int) : ES := (upTo p).foldl (stepX p n) []
theorem table_words (p : Nat) (n : List Int) : tableOf p n = (wordsL p n).foldl addW [] := by
  unfold tableOf wordsL
  rw [List.foldl_flatMap]
  congr 1
  funext t x
  unfold stepX
  rw [List.foldl_flatMap]
  congr 1
  funext t y
  unfold stepY
  rw [List.foldl_map]
  rfl
theorem table_ok (p : Nat) (n : List Int) : TabOk (tableOf p n) (wordsL p n) := table_words p n ▸ tab_ok _
theorem table_zero {p : Nat} (hp : p = 3 ∨ p = 5) (n : List Int) : (dget (tableOf p n) (kw 0)).getD 0 = cnt p n := by
  rw [tab_zero (table_ok p n), words_sum]
  unfold cnt ind
  rfl
theorem table_all {p : Nat} (hp : p = 3 ∨ p = 5) (n : List Int) : ((tableOf p n).map (·.2)).sum = (p : Int) ^ 3 := by
  have := (table_ok p n).sum fun _ => 1
  simp only [Int.mul_one] at this
  rw [this, words_sum]
  rcases hp with rfl | rfl <;> decide
theorem table_pow {p : Nat} (hp : p = 3 ∨ p = 5) (n : List Int) : (p : Int) ∣ ((tableOf p n).map fun q => q.2 * wordOf q.1 ^ (p - 1)).sum := by
  rw [(table_ok p n).sum fun v => v ^ (p - 1), words_sum]
  exact wpow_sum hp n
theorem table_key {p : Nat} (hp : p = 3 ∨ p = 5) (n : List Int) {q : List Atom × Int} (h : q ∈ tableOf p n) : ∃ v, q.1 = kw v ∧ 0 ≤ v ∧ v < p := by
  obtain ⟨v, hv, e⟩ := (table_ok p n).ks q h
  unfold wordsL at hv
  obtain ⟨x, _, hv⟩ := List.mem_flatMap.mp hv
  obtain ⟨y, _, hv⟩ := List.mem_flatMap.mp hv
  obtain ⟨z, _, rfl⟩ := List.mem_map.mp hv
  have hp' : (0 : Int) < p := by rcases hp with rfl | rfl <;> decide
  exact ⟨_, e, Int.emod_nonneg _ (by omega), Int.emod_lt_of_pos _ hp'⟩
end Mine
end
section
open PySem PySem.W PySem.Calls PyProof.Rows
namespace Mine
section
variable {C : Cfg} {c : Ctx C} {h h' : Heap}
/-! a list unpacked to names -/
theorem draw_lst {prog : Program} {w : World} {A : Around} {E : Value → Shared → Prop} {it l : Addr} {items : Array Value} (hne : l ≠ it) : ∀ (n i : Nat) (s : Shared) (Q : List Value → Shared → Prop), s.heap.IsListIter it l i → s.heap.IsList l items → i + n ≤ items.size →
    (∀ h', h'.IsListIter it l (i + n) → Heap.SameBut it s.heap h' → Q ((items.toList.drop i).take n) { s with heap := h' }) → wpAny (model prog w) A (draw (.ref it) n) Q E s := by
  intro n
  induction n with
  | zero =>
    intro i s Q hit _ _ hQ
    exact wpAny_pure (by simpa using hQ s.heap hit (Heap.SameBut.refl ..))
  | succ n ih =>
    intro i s Q hit hl hle hQ
    have hlt : i < items.size := by omega
    show wpAny _ _ (pyNext (.ref it) >>= _) Q E s
    refine wpAny_bind (wpAny_pyNext_list_item hit hl (x := items[i]) (by simp [hlt]) fun h₁ hit₁ hs₁ => ?_)
    refine wpAny_bind (wpAny_holding (ih (i + 1) _ _ hit₁ (hl.at fun o e => (hs₁.2 _ hne).trans e) (by omega) fun h₂ hit₂ hs₂ => wpAny_pure ?_))
    have q := hQ h₂ (by rw [show i + (n + 1) = i + 1 + n by omega]; exact hit₂) (hs₁.trans hs₂)
    rw [show items.toList.drop i = items[i] :: items.toList.drop (i + 1) from by simp [List.drop_eq_getElem_cons, hlt], List.take_succ_cons] at q
    exact q
theorem unpack_lst {prog : Program} {w : World} {A : Around} {E : Value → Shared → Prop} {s : Shared} {l : Addr} {items : Array Value} {targets : List (Bool × (Value → Sem Unit))} {Q : Unit → Shared → Prop} (hh : A.handled = none) (hl : s.heap.IsList l items)
    (hn : targets.length = items.size) (hstar : targets.findIdx? (·.1) = none)
    (k : ∀ h', Heap.ExtBut s.heap.objs.size s.heap h' → wpAny (model prog w) A (assignInOrder (targets.map (·.2)) items.toList) Q E { s with heap := h' }) : wpAny (model prog w) A (unpack (.ref l) targets) Q E s := by
  have hlt : l ≠ s.heap.objs.size := by obtain ⟨o, ho, _⟩ := hl; exact Nat.ne_of_lt (Heap.lt_size ho)
  unfold unpack
  rw [hn, hstar]
  refine wpAny_bind (wpAny_holding ?_)
  unfold unpackItems
  refine wpAny_bind ?_
  unfold notIterableAtAll
  refine wpAny_bind (wpAny_specialOf hl.typeIs slot_list_iter.lookup ?_)
  refine wpAny_pure ?_
  simp only [Bool.false_eq_true, if_false]
  refine wpAny_bind (wpAny_holding (wpAny_pyIter_list hl ?_))
  refine wpAny_bind (wpAny_holding (draw_lst hlt items.size 0 _ _ ⟨_, Heap.get?_push_size _ rfl, rfl, rfl⟩ (hl.push _) (by omega) fun h₁ hit₁ hs₁ => ?_))
  rw [show List.take items.size (List.drop 0 items.toList) = items.toList from by rw [List.drop_zero]; exact List.take_of_length_le (by simp)]
  rw [if_neg (by simp)]
  have hl₁ : h₁.IsList l items := (hl.push _).at fun o e => (hs₁.2 _ hlt).trans e
  refine wpAny_bind (wpAny_holding (wpAny_pyNext_list_end hh hit₁ hl₁ (by simp) fun h₂ he₂ => ?_))
  simp only [Option.isSome_none, Bool.false_eq_true, if_false]
  exact wpAny_pure (k h₂ fun b o hb e => he₂ b o hb (hs₁.extBut b o hb (Heap.get?_push_of_some _ e)))
theorem Tg.unlist {ts : List Expr} {k : Nat} {pos : Pos} {ds : List D} {c' : Ctx C} (ht : TgL c ts ds c') (hlen : ts.length = ds.length) (hstar : (assignEach ts c.env).findIdx? (·.1) = none := by rfl) : Tg c (.Tuple ts k pos) (.lst ds) c' := by
  intro A s Q E v rm p hv hQ
  obtain ⟨a, items, rfl, ha, hi, hg⟩ := Has.lst_inv hv
  rw [arm_assign_Tuple]
  refine wpAny_bind (wpAny_standAt (unpack_lst rm.hh hi (by rw [assignEach_length, hlen, ← hg.length]; simp) hstar fun h' he => ?_))
  have k : ∀ b o, s.heap.get? b = some o → h'.get? b = some o := fun b o e => he b o (Nat.ne_of_lt (Heap.lt_size e)) e
  have x : Ext C.T s.heap h' := fun b o _ e => k b o e
  have w := p.wf.keep k
  exact ht A { s with heap := h' } Q E _ rm (p.ext x w) (hg.ext x w) fun h₂ tk₂ p₂ k₂ => hQ h₂ tk₂ p₂ fun b o hb e => k₂ b o hb (k b o e)
/-! dict.get with a default -/
theorem Ev.get2 {o ke de : Expr} {apos pos : Pos} {es : ES} {k : List Atom} {j : Int} (ho : Ev c o (.dic es)) (hk : Ev c ke (tupOf k)) (hd : Ev c de (.int j)) (hbase : attributeBase o "get" c.env (eval o c.env) = eval o c.env := by rfl)
    (hs : starEach [ke, de] c.env = (false, eval ke c.env) :: starEach [de] c.env := by rfl) (hs2 : starEach [de] c.env = (false, eval de c.env) :: starEach [] c.env := by rfl)
    (hfew : ((backTo pos (starEach [ke, de] c.env)).all (fun x => !x.1) && (backToKw pos (keywordEach [] c.env)).all (fun x => x.1.isSome) && decide ([ke, de].length + ([] : List Keyword).length + (if ([] : List Keyword).isEmpty then 0 else 1) < 30)) = true := by rfl)
    (hline : (apos.endLine == pos.line) = true := by rfl) (hany : (backTo pos (starEach [ke, de] c.env)).any (·.1) = false := by rfl) :
    Ev c (.Call (.Attribute o "get" apos) [ke, de] [] pos) (.int ((dget es k).getD j)) := by
  intro A s Q E rm p hQ
  refine wpAny_method p rm ho (fun h v g => g.dicO) (fun s' v g => g.dicT) F.plainAttrs_dict F.slot_dict_get F.type_dict_get (EvA.cons (EvL.cons hk (EvL.cons hd EvL.nil hs2) hs) hs) (fun v vs h₁ tk x₁ w₁ p1 g gs => ?_) hbase hfew hline hany
  have q9 := HasL.cons_inv gs; clear gs; obtain ⟨vk, us, rfl, gk, gs⟩ := q9
  have q9 := HasL.int_inv gs; clear gs; obtain ⟨t, us, rfl, gs⟩ := q9
  obtain rfl := HasL.nil_inv gs
  obtain ⟨d, rfl, ha, hsys, hD⟩ := Has.dic_inv g
  obtain ⟨a, rfl, haM, hkey⟩ := key_of gk
  obtain ⟨xs, hdd, hsome, hval⟩ := hD.get k
  refine call_meetsIn (s := { s with heap := h₁, toks := tk }) F.slot_dict_get hdd.typeIs F.entry_dict_get (F.args_dict_get_3 _ _ _) (meetsH_dict_get_default (tkind C.prog C.w) d a (by simpa using hsys) _) ⟨?_, k, xs, hkey, hdd, ?_⟩
  · exact rm.in1
  · cases e : dget es k with
    | none =>
      rw [e] at hsome
      have : atKey xs k = none := by cases q : atKey xs k with
        | none => rfl
        | some z => rw [q] at hsome; cases hsome
      rw [this]
      have := hQ (.int j t) h₁ (tk + (tkind C.prog C.w).draws k) x₁ w₁ (by rw [e]; exact .int _ _)
      exact this
    | some i =>
      obtain ⟨q, t', e2, e3⟩ := hval i e
      rw [e2]
      have := hQ (.int i t') h₁ (tk + (tkind C.prog C.w).draws k) x₁ w₁ (by rw [e]; exact .int _ _)
      show Q q.2 _
      rw [e3]; exact this
end
end Mine
end
section
open PySem PySem.W PySem.Calls PyProof.Rows
namespace Mine
def partsL (x y z : Int) : List Int := [1, x, y, z, x * x, y * y, z * z, x * y, y * z, z * x]
def Few5 (n : List Int) : Prop := n.length = 10 ∧ ∀ k, 0 ≤ n.getD k 0 ∧ n.getD k 0 < 5
theorem mulb {a b A B : Int} (ha : 0 ≤ a ∧ a ≤ A) (hb : 0 ≤ b ∧ b ≤ B) : 0 ≤ a * b ∧ a * b ≤ A * B :=
  ⟨Int.mul_nonneg ha.1 hb.1, Int.mul_le_mul ha.2 hb.2 hb.1 (Int.le_trans ha.1 ha.2)⟩
theorem fv_small {n : List Int} (hn : Few5 n) {x y z : Int} (hx : 0 ≤ x ∧ x ≤ 4) (hy : 0 ≤ y ∧ y ≤ 4) (hz : 0 ≤ z ∧ z ≤ 4) : 0 ≤ fv n x y z ∧ fv n x y z ≤ 1000 := by
  have h := fun k => (show 0 ≤ n.getD k 0 ∧ n.getD k 0 ≤ 4 from ⟨(hn.2 k).1, by have := (hn.2 k).2; omega⟩)
  have h0 := h 0
  have h1 := mulb (h 1) hx
  have h2 := mulb (h 2) hy
  have h3 := mulb (h 3) hz
  have h4 := mulb (mulb (h 4) hx) hx
  have h5 := mulb (mulb (h 5) hy) hy
  have h6 := mulb (mulb (h 6) hz) hz
  have h7 := mulb (mulb (h 7) hx) hy
  have h8 := mulb (mulb (h 8) hy) hz
  have h9 := mulb (mulb (h 9) hz) hx
  unfold fv
  omega
theorem worth_sum {n : List Int} (hn : n.length = 10) (x y z : Int) : ((upTo 10).map fun k => n.getD k.toNat 0 * (partsL x y z).getD k.toNat 0).sum = fv n x y z := by
  show n.getD 0 0 * 1 + (n.getD 1 0 * x + (n.getD 2 0 * y + (n.getD 3 0 * z + (n.getD 4 0 * (x * x) + (n.getD 5 0 * (y * y) + (n.getD 6 0 * (z * z) + (n.getD 7 0 * (x * y) + (n.getD 8 0 * (y * z) + (n.getD 9 0 * (z * x) + 0))))))))) = _
  unfold fv
  simp only [← Int.mul_assoc]
  omega
theorem getI {n : List Int} {k : Int} (h0 : 0 ≤ k) (h1 : k < n.length) : (n.map D.int)[k.toNat]? = some (.int (n.getD k.toNat 0)) := by
  rw [List.getElem?_map, List.getD_eq_getElem?_getD, List.getElem?_eq_getElem (show k.toNat < n.length by omega)]; rfl
theorem worth_ok {C : Cfg} {p : Params} (hK : C.K = hd01.heap_39 p) (hT : C.tabs = tabsOf (hd01.heap_39 p)) {q : Nat} (hq : q = 3 ∨ q = 5) {n : List Int} (hn : Few5 n) {x y z : Int} (hx : 0 ≤ x ∧ x ≤ 4) (hy : 0 ≤ y ∧ y ≤ 4) (hz : 0 ≤ z ∧ z ≤ 4) :
    Fn C 64 75 [iL n, .int x, .int y, .int z, .int q] (.int (fv n x y z % q)) := by
  have b1 : ∀ env : Env, env.kindOf "range" = some .globalImplicit → Bi C env "range" (.type "range") := fun env h => ⟨by rw [hK]; rfl, by rfl, h, by decide, by decide⟩
  have b2 : ∀ env : Env, env.kindOf "sum" = some .globalImplicit → Bi C env "sum" (.builtin "sum") := fun env h => ⟨by rw [hK]; rfl, by rfl, h, by decide, by decide⟩
  have g1 : ∀ env : Env, env.kindOf "int_divmod" = some .globalImplicit → Gl C env "int_divmod" 70 := fun env h => ⟨by rw [hK]; rfl, h, by decide, _, _, by rw [hK]; rfl, by rfl⟩
  have hs := fv_small hn hx hy hz
  refine Fn.mk (names := ["numbers", "x", "y", "z", "prime"]) (k := 63) (by rw [hK]; rfl) (by rfl) (by rfl) (by rfl) (by rw [hK]; rfl) (by rfl) (by rfl) ?_ (by rfl) (by decide) ?_ ?_
  · intro vs h
    obtain ⟨a, b, c, d, e, rfl⟩ := len5 h
    rfl
  · intro x hx
    simp only [List.mem_cons, List.not_mem_nil, or_false] at hx
    rcases hx with rfl | rfl | rfl | rfl | rfl
    · exact .inr ⟨by rfl, fun n => by rfl⟩
    all_goals exact .inl (by rfl)
  · intro L M I
    refine .assign (d := iL (partsL x y z)) ?_ (.inr ⟨by rfl, by rfl, by rfl⟩) ?_
    · have mx : ∀ {c' : Ctx C} {u v : Str} {i j : Int} {p1 p2 p3 : Pos}, c'.G.lookup u = some (.int i) → c'.G.lookup v = some (.int j) → (0 ≤ j ∧ j ≤ 4) → (u == ("__debug__" : Str)) = false → (u == ("__classdict__" : Str)) = false → (v == ("__debug__" : Str)) = false → (v == ("__classdict__" : Str)) = false → Ev c' (.BinOp (.Name u p1) .Mult (.Name v p2) p3) (.int (i * j)) :=
        fun h1 h2 hj e1 e2 e3 e4 => Ev.bin (Ev.name h1 e1 e2) (Ev.name h2 e3 e4) (Op.mul (by omega) (by omega))
      refine @Ev.list _ _ _ _ _ (@EvL.cons _ _ _ _ _ _ Ev.int (@EvL.cons _ _ _ _ _ _ (Ev.name (by rfl)) (@EvL.cons _ _ _ _ _ _ (Ev.name (by rfl)) (@EvL.cons _ _ _ _ _ _ (Ev.name (by rfl)) (@EvL.cons _ _ _ _ _ _ ?_ (@EvL.cons _ _ _ _ _ _ ?_ (@EvL.cons _ _ _ _ _ _ ?_ (@EvL.cons _ _ _ _ _ _ ?_ (@EvL.cons _ _ _ _ _ _ ?_ (@EvL.cons _ _ _ _ _ _ ?_ EvL.nil rfl) rfl) rfl) rfl) rfl) rfl) rfl) rfl) rfl) rfl) (by show 10 ≤ sizeLine; decide)
      · exact mx (by rfl) (by rfl) hx (by decide) (by decide) (by decide) (by decide)
      · exact mx (by rfl) (by rfl) hy (by decide) (by decide) (by decide) (by decide)
      · exact mx (by rfl) (by rfl) hz (by decide) (by decide) (by decide) (by decide)
      · exact mx (by rfl) (by rfl) hy (by decide) (by decide) (by decide) (by decide)
      · exact mx (by rfl) (by rfl) hz (by decide) (by decide) (by decide) (by decide)
      · exact mx (by rfl) (by rfl) hx (by decide) (by decide) (by decide) (by decide)
    · have hq' : (0 : Int) < q ∧ (q : Int) < 256 := by rcases hq with rfl | rfl <;> decide
      have pb : ∀ k, 0 ≤ (partsL x y z).getD k 0 ∧ (partsL x y z).getD k 0 ≤ 16 := fun k => by
        have a1 := mulb hx hx; have a2 := mulb hy hy; have a3 := mulb hz hz; have a4 := mulb hx hy; have a5 := mulb hy hz; have a6 := mulb hz hx
        unfold partsL
        match k with
        | 0 => exact ⟨by show (0 : Int) ≤ 1; decide, by show (1 : Int) ≤ 16; decide⟩
        | 1 => exact ⟨hx.1, by show x ≤ 16; omega⟩
        | 2 => exact ⟨hy.1, by show y ≤ 16; omega⟩
        | 3 => exact ⟨hz.1, by show z ≤ 16; omega⟩
        | 4 => exact a1
        | 5 => exact a2
        | 6 => exact a3
        | 7 => exact a4
        | 8 => exact a5
        | 9 => exact a6
        | k + 10 => exact ⟨by show (0 : Int) ≤ 0; decide, by show (0 : Int) ≤ 16; decide⟩
      refine .ret (d := .int (fv n x y z % q)) (Ev.sub (x := .tup [.int (fv n x y z / q), .int (fv n x y z % q)]) (y := .int 1) (Ev.callF (g1 _ (by rfl)) (idm_ok hK hT (a := fv n x y z) (b := q) (by omega) (by omega) hq'.1 (by omega)) (by show 63 ≤ 63; omega) (.cons (.cons ?_ (.cons (Ev.name (by rfl)) .nil)))) Ev.int (Item.tup (by decide) (by decide) (by rfl))) fun v h p hv => RetR.of p hv
      refine Ev.to (Ev.callB (b2 _ (by rfl)) (.cons (Ev.to (Ev.ofF (EvF.map (upTo 10) .int (fun k => .int (n.getD k.toNat 0 * (partsL x y z).getD k.toNat 0)) [("numbers", iL n), ("parts", iL (partsL x y z))] (EvI.rangeTo (n := 10) (b1 _ (by rfl)) Ev.int (by decide)) trivial (.cons (.cons .nil)) (fun k hk L M O I => ?_) (by decide))) (d' := iL ((upTo 10).map fun k => n.getD k.toNat 0 * (partsL x y z).getD k.toNat 0)) (by unfold iL; rw [List.map_map]; rfl)) .nil) (OpL.sum (ns := (upTo 10).map fun k => n.getD k.toNat 0 * (partsL x y z).getD k.toNat 0))) (by rw [worth_sum hn.1])
      have hk := upTo_mem hk
      have pk := pb k.toNat
      exact ⟨_, Tg.name (.inl (by rfl)), Over.set (by rfl), Ev.bin (x := .int (n.getD k.toNat 0)) (y := .int ((partsL x y z).getD k.toNat 0)) (Ev.sub (x := iL n) (y := .int k) (Ev.name (by rfl)) (Ev.name (by rfl)) (Item.lst hk.1 (by omega) (getI hk.1 (by rw [hn.1]; exact hk.2)))) (Ev.sub (x := iL (partsL x y z)) (y := .int k) (Ev.name (by rfl)) (Ev.name (by rfl)) (Item.lst hk.1 (by omega) (getI hk.1 hk.2))) (Op.mul (by omega) (by omega))⟩
end Mine
end
section
open PySem PySem.W PySem.Calls PyProof.Rows
namespace Mine
theorem fold_lenN {α : Type} {m : Nat} {f : ES → α → ES} (hf : ∀ a p, (f a p).length ≤ a.length + m) : ∀ (l : List α) (a : ES), (l.foldl f a).length ≤ a.length + m * l.length
  | [], a => Nat.le_refl _
  | p :: r, a => by
    rw [List.foldl_cons, List.length_cons, Nat.mul_succ]
    have := fold_lenN hf r (f a p)
    have := hf a p
    omega
theorem stepZ_len (q : Nat) (n : List Int) (x y : Int) (t : ES) (z : Int) : (stepZ q n x y t z).length ≤ t.length + 1 := addW_len _ _
theorem stepY_len (q : Nat) (n : List Int) (x : Int) (t : ES) (y : Int) : (stepY q n x t y).length ≤ t.length + q := by
  have := fold_lenN (stepZ_len q n x y) (upTo q) t
  rw [upTo_length] at this
  unfold stepY; omega
theorem stepX_len (q : Nat) (n : List Int) (t : ES) (x : Int) : (stepX q n t x).length ≤ t.length + q * q := by
  have := fold_lenN (stepY_len q n x) (upTo q) t
  rw [upTo_length] at this
  unfold stepX; omega
theorem take_all {α : Type} (l : List α) : l.take l.length = l := List.take_of_length_le (Nat.le_refl _)
theorem tableW {C : Cfg} {p : Params} (hK : C.K = hd01.heap_39 p) (hT : C.tabs = tabsOf (hd01.heap_39 p)) {q : Nat} (hq : q = 3 ∨ q = 5) {n : List Int} (hn : Few5 n) :
    Fn C 65 82 [iL n, .int q] (.dic (tableOf q n)) := by
  have b1 : ∀ env : Env, env.kindOf "range" = some .globalImplicit → Bi C env "range" (.type "range") := fun env h => ⟨by rw [hK]; rfl, by rfl, h, by decide, by decide⟩
  have g1 : ∀ env : Env, env.kindOf "add_callers" = some .globalImplicit → Gl C env "add_callers" 21 := fun env h => ⟨by rw [hK]; rfl, h, by decide, _, _, by rw [hK]; rfl, by rfl⟩
  have g2 : ∀ env : Env, env.kindOf "_law_worth" = some .globalImplicit → Gl C env "_law_worth" 75 := fun env h => ⟨by rw [hK]; rfl, h, by decide, _, _, by rw [hK]; rfl, by rfl⟩
  have hq5 : q ≤ 5 := by omega
  have hq24 : q ≤ 2 ^ 24 := by omega
  refine Fn.mk (names := ["numbers", "prime"]) (k := 64) (by rw [hK]; rfl) (by rfl) (by rfl) (by rfl) (by rw [hK]; rfl) (by rfl) (by rfl) ?_ (by rfl) (by decide) ?_ ?_
  · intro vs h
    obtain ⟨a, b, rfl⟩ := len2 h
    rfl
  · intro x hx
    simp only [List.mem_cons, List.not_mem_nil, or_false] at hx
    rcases hx with rfl | rfl <;> exact .inl (by rfl)
  · intro L M I
    refine .assign (d := .dic []) (Ev.ofF EvF.dict) (.inl (by rfl)) ?_
    refine .forL (upTo q) .int (fun i => [("table", .dic (((upTo q).take i).foldl (stepX q n) [])), ("numbers", iL n), ("prime", .int q)]) (fun _ => []) (EvI.rangeTo (n := q) (b1 _ (by rfl)) (Ev.name (by rfl)) hq24) trivial (.cons (.cons (.cons .nil))) rfl ?_ ?_
    · intro i x hx M I
      obtain ⟨hi, rfl⟩ := upTo_get hx
      have l0 : (((upTo q).take i).foldl (stepX q n) []).length ≤ 100 := by
        have := fold_lenN (stepX_len q n) ((upTo q).take i) []
        have h2 : ((upTo q).take i).length ≤ 4 := by rw [List.length_take, upTo_length]; omega
        have h3 : q * q * ((upTo q).take i).length ≤ 25 * 4 := Nat.mul_le_mul (Nat.mul_le_mul hq5 hq5) h2
        simp only [List.length_nil] at this
        omega
      rw [fold_take (stepX q n) [] (upTo q) hx]
      generalize ((upTo q).take i).foldl (stepX q n) [] = t0 at l0 ⊢
      refine ⟨_, Tg.name (.inl (by rfl)), rfl, rfl, ?_⟩
      refine .forL (upTo q) .int (fun j => [("table", .dic (((upTo q).take j).foldl (stepY q n i) t0)), ("x", .int i), ("numbers", iL n), ("prime", .int q)]) (fun _ => []) (EvI.rangeTo (n := q) (b1 _ (by rfl)) (Ev.name (by rfl)) hq24) trivial (.cons (.cons (.cons (.cons .nil)))) rfl ?_ ?_
      · intro j y hy M I
        obtain ⟨hj, rfl⟩ := upTo_get hy
        have l1 : (((upTo q).take j).foldl (stepY q n i) t0).length ≤ 125 := by
          have := fold_lenN (stepY_len q n i) ((upTo q).take j) t0
          have h2 : ((upTo q).take j).length ≤ 4 := by rw [List.length_take, upTo_length]; omega
          have h3 : q * ((upTo q).take j).length ≤ 5 * 4 := Nat.mul_le_mul hq5 h2
          omega
        rw [fold_take (stepY q n i) t0 (upTo q) hy]
        generalize ((upTo q).take j).foldl (stepY q n i) t0 = t1 at l1 ⊢
        refine ⟨_, Tg.name (.inl (by rfl)), rfl, rfl, ?_⟩
        refine .forL (upTo q) .int (fun k => [("table", .dic (((upTo q).take k).foldl (stepZ q n i j) t1)), ("y", .int j), ("x", .int i), ("numbers", iL n), ("prime", .int q)]) (fun _ => []) (EvI.rangeTo (n := q) (b1 _ (by rfl)) (Ev.name (by rfl)) hq24) trivial (.cons (.cons (.cons (.cons (.cons .nil))))) rfl ?_ ?_
        · intro k z hz M I
          obtain ⟨hk, rfl⟩ := upTo_get hz
          have l2 : (((upTo q).take k).foldl (stepZ q n i j) t1).length ≤ 200 := by
            have := fold_lenN (stepZ_len q n i j) ((upTo q).take k) t1
            have h2 : ((upTo q).take k).length ≤ 4 := by rw [List.length_take, upTo_length]; omega
            omega
          rw [fold_take (stepZ q n i j) t1 (upTo q) hz]
          generalize ((upTo q).take k).foldl (stepZ q n i j) t1 = t2 at l2 ⊢
          refine ⟨_, Tg.name (.inl (by rfl)), rfl, rfl, ?_⟩
          refine .assign (d := .dic (stepZ q n i j t2 k)) (Ev.callF (g1 _ (by rfl)) (add_callers_ok hK t2 [(kw (fv n i j k % q), 1)] (by rw [sizeLine_eq, List.length_singleton]; omega)) (by show 1 ≤ 64; omega) (.cons (.cons (Ev.name (by rfl)) (.cons (Ev.dict1 (k := kw (fv n i j k % q)) (Ev.tuple (.cons Ev.str (.cons ?_ (.cons Ev.str .nil))) (by show 3 ≤ sizeLine; decide)) Ev.int ⟨_, rfl, fun A s Q E h => h⟩) .nil)))) (.inl (by rfl)) ?_
          · exact Ev.callF (g2 _ (by rfl)) (worth_ok hK hT hq hn (x := i) (y := j) (z := k) (by omega) (by omega) (by omega)) (by show 64 ≤ 64; omega) (.cons (.cons (Ev.name (by rfl)) (.cons (Ev.name (by rfl)) (.cons (Ev.name (by rfl)) (.cons (Ev.name (by rfl)) (.cons (Ev.name (by rfl)) .nil))))))
          · exact .turnG (.cons (.cons (.cons (.cons (.cons .nil)))))
        · rw [take_all]
          exact .turnG (.cons (.cons (.cons (.cons .nil))))
      · rw [take_all]
        exact .turnG (.cons (.cons (.cons .nil)))
    · rw [take_all]
      exact .ret (d := .dic (tableOf q n)) (Ev.name (by rfl)) fun v h p hv => RetR.of p hv
end Mine
end
section
open PySem PySem.W PySem.Calls PyProof.Rows
namespace Mine
theorem EvI.rests {C : Cfg} {c : Ctx C} {e : Expr} {q : Nat} (he : Ev c e (.rng 0 q)) : EvI c e ((upTo q).map .int) Any := by
  rw [← rngL_upTo]; exact EvI.range he
theorem EvIfs.via {C : Cfg} {c : Ctx C} {ifs : List Expr} {b : Bool} (L : List (Str × D)) (hL : Sub L c.G) (k : ∀ c' : Ctx C, Sub L c'.G → EvIfs c' ifs b) : EvIfs c ifs b := k c hL
theorem noughtsW {C : Cfg} {p : Params} (hK : C.K = hd01.heap_39 p) {q : Nat} (hq : q = 3 ∨ q = 5) {n : List Int} (hn : n.length = 10) : Fn C 1 87 [iL n, .int q] (.int (cnt q n)) := by
  have b1 : ∀ env : Env, env.kindOf "range" = some .globalImplicit → Bi C env "range" (.type "range") := fun env h => ⟨by rw [hK]; rfl, by rfl, h, by decide, by decide⟩
  have b2 : ∀ env : Env, env.kindOf "len" = some .globalImplicit → Bi C env "len" (.builtin "len") := fun env h => ⟨by rw [hK]; rfl, by rfl, h, by decide, by decide⟩
  have hq0 : (q : Int) ≠ 0 := by omega
  have hq24 : q ≤ 2 ^ 24 := by omega
  have hlen := onesL_len q n
  have hcnt := cnt_le q hq n
  refine Fn.mk (names := ["numbers", "prime"]) (k := 0) (by rw [hK]; rfl) (by rfl) (by rfl) (by rfl) (by rw [hK]; rfl) (by rfl) (by rfl) ?_ (by rfl) (by decide) ?_ ?_
  · intro vs h
    obtain ⟨a, b, rfl⟩ := len2 h
    rfl
  · intro x hx
    simp only [List.mem_cons, List.not_mem_nil, or_false] at hx
    rcases hx with rfl | rfl
    · exact .inl (by rfl)
    · exact .inr ⟨by rfl, fun n => by rfl⟩
  · intro L M I
    refine .assignT (d := .lst [.int (n.getD 0 0), .int (n.getD 1 0), .int (n.getD 2 0), .int (n.getD 3 0), .int (n.getD 4 0), .int (n.getD 5 0), .int (n.getD 6 0), .int (n.getD 7 0), .int (n.getD 8 0), .int (n.getD 9 0)]) ((Ev.name (d := iL n) (by rfl)).to (by unfold iL; rw [ten hn]; rfl)) (Tg.unlist (.cons (Tg.name (.inr ⟨by rfl, by rfl, by rfl⟩)) (.cons (Tg.name (.inr ⟨by rfl, by rfl, by rfl⟩)) (.cons (Tg.name (.inr ⟨by rfl, by rfl, by rfl⟩)) (.cons (Tg.name (.inr ⟨by rfl, by rfl, by rfl⟩)) (.cons (Tg.name (.inr ⟨by rfl, by rfl, by rfl⟩)) (.cons (Tg.name (.inr ⟨by rfl, by rfl, by rfl⟩)) (.cons (Tg.name (.inr ⟨by rfl, by rfl, by rfl⟩)) (.cons (Tg.name (.inr ⟨by rfl, by rfl, by rfl⟩)) (.cons (Tg.name (.inr ⟨by rfl, by rfl, by rfl⟩)) (.cons (Tg.name (.inr ⟨by rfl, by rfl, by rfl⟩)) .nil)))))))))) (by rfl)) ?_
    refine .assign (d := .rng 0 q) (Ev.callT (b1 _ (by rfl)) (.cons (Ev.name (by rfl)) .nil) (OpL.range1 hq24)) (.inr ⟨by rfl, by rfl, by rfl⟩) ?_
    refine .ret (d := .int (cnt q n)) (Ev.to (Ev.callB (b2 _ (by rfl)) (.cons (Ev.ofF (EvF.comp (upTo q) .int (oneX q n) [("rests", .rng 0 q), ("prime", .int q), ("a", .int (n.getD 0 0)), ("b", .int (n.getD 1 0)), ("c", .int (n.getD 2 0)), ("d", .int (n.getD 3 0)), ("e", .int (n.getD 4 0)), ("f", .int (n.getD 5 0)), ("g", .int (n.getD 6 0)), ("h", .int (n.getD 7 0)), ("i", .int (n.getD 8 0)), ("j", .int (n.getD 9 0))] (EvI.rests (Ev.name (by rfl))) trivial (.cons (.cons (.cons (.cons (.cons (.cons (.cons (.cons (.cons (.cons (.cons (.cons .nil)))))))))))) (fun x hx L M O I => ?_) (by show (onesL q n).length ≤ sizeLine; rw [sizeLine_eq]; omega) (by rfl) (by decide) (free_ok _ _ (by rfl)) (by simp; exact ⟨fun _ _ => rfl, fun _ _ => rfl⟩))) .nil) (OpL.lenL (by show (onesL q n).length ≤ sizeLine; rw [sizeLine_eq]; omega))) (congrArg D.int hlen)) fun v h p hv => RetR.of p hv
    have hx := upTo_mem hx
    refine ⟨_, true, Tg.name (.inl (by rfl)), Over.set (by rfl), .nil, fun _ => Emits.cons (upTo q) .int (oneY q n x) (EvI.rests (Ev.name (by rfl))) trivial (fun y hy M O I => ?_), fun e => by cases e⟩
    have hy := upTo_mem hy
    refine ⟨_, true, Tg.name (.inl (by rfl)), Over.set (by rfl), .nil, fun _ => Emits.cons (upTo q) .int (oneZ q n x y) (EvI.rests (Ev.name (by rfl))) trivial (fun z hz M O I => ?_), fun e => by cases e⟩
    have hz := upTo_mem hz
    have hs : fv n x y z = n.getD 0 0 + n.getD 1 0 * x + n.getD 2 0 * y + n.getD 3 0 * z + n.getD 4 0 * x * x + n.getD 5 0 * y * y + n.getD 6 0 * z * z + n.getD 7 0 * x * y + n.getD 8 0 * y * z + n.getD 9 0 * z * x := rfl
    refine ⟨_, (fv n x y z % q == 0), Tg.name (.inl (by rfl)), Over.set (by rfl), ?_, fun e => ?_, fun e => ?_⟩
    · refine @EvIfs.via _ _ _ _ [("x", .int x), ("y", .int y), ("z", .int z), ("rests", .rng 0 q), ("prime", .int q), ("a", .int (n.getD 0 0)), ("b", .int (n.getD 1 0)), ("c", .int (n.getD 2 0)), ("d", .int (n.getD 3 0)), ("e", .int (n.getD 4 0)), ("f", .int (n.getD 5 0)), ("g", .int (n.getD 6 0)), ("h", .int (n.getD 7 0)), ("i", .int (n.getD 8 0)), ("j", .int (n.getD 9 0))] (.cons (.cons (.cons (.cons (.cons (.cons (.cons (.cons (.cons (.cons (.cons (.cons (.cons (.cons (.cons .nil))))))))))))))) ?_
      intro c' hc
      refine @EvIfs.one _ _ _ _ (@EvB.cmp _ _ _ _ _ _ (.int (fv n x y z % q)) (.int 0) _ ?_ Ev.int Op.eq rfl)
      refine @Ev.to _ _ _ _ _ (@Ev.bin _ _ _ _ _ _ (.int (fv n x y z)) (.int q) _ ?_ (Ev.name (hc _ _ (by rfl))) (Op.mod hq0)) (congrArg D.int (Int.fmod_eq_emod_of_nonneg _ (by omega)))
      rw [hs]
      exact (@Ev.bin _ _ _ _ _ _ (.int (n.getD 0 0 + n.getD 1 0 * x + n.getD 2 0 * y + n.getD 3 0 * z + n.getD 4 0 * x * x + n.getD 5 0 * y * y + n.getD 6 0 * z * z + n.getD 7 0 * x * y + n.getD 8 0 * y * z)) (.int (n.getD 9 0 * z * x)) _ (@Ev.bin _ _ _ _ _ _ (.int (n.getD 0 0 + n.getD 1 0 * x + n.getD 2 0 * y + n.getD 3 0 * z + n.getD 4 0 * x * x + n.getD 5 0 * y * y + n.getD 6 0 * z * z + n.getD 7 0 * x * y)) (.int (n.getD 8 0 * y * z)) _ (@Ev.bin _ _ _ _ _ _ (.int (n.getD 0 0 + n.getD 1 0 * x + n.getD 2 0 * y + n.getD 3 0 * z + n.getD 4 0 * x * x + n.getD 5 0 * y * y + n.getD 6 0 * z * z)) (.int (n.getD 7 0 * x * y)) _ (@Ev.bin _ _ _ _ _ _ (.int (n.getD 0 0 + n.getD 1 0 * x + n.getD 2 0 * y + n.getD 3 0 * z + n.getD 4 0 * x * x + n.getD 5 0 * y * y)) (.int (n.getD 6 0 * z * z)) _ (@Ev.bin _ _ _ _ _ _ (.int (n.getD 0 0 + n.getD 1 0 * x + n.getD 2 0 * y + n.getD 3 0 * z + n.getD 4 0 * x * x)) (.int (n.getD 5 0 * y * y)) _ (@Ev.bin _ _ _ _ _ _ (.int (n.getD 0 0 + n.getD 1 0 * x + n.getD 2 0 * y + n.getD 3 0 * z)) (.int (n.getD 4 0 * x * x)) _ (@Ev.bin _ _ _ _ _ _ (.int (n.getD 0 0 + n.getD 1 0 * x + n.getD 2 0 * y)) (.int (n.getD 3 0 * z)) _ (@Ev.bin _ _ _ _ _ _ (.int (n.getD 0 0 + n.getD 1 0 * x)) (.int (n.getD 2 0 * y)) _ (@Ev.bin _ _ _ _ _ _ (.int (n.getD 0 0)) (.int (n.getD 1 0 * x)) _ (Ev.name (hc _ _ (by rfl))) (@Ev.bin _ _ _ _ _ _ (.int (n.getD 1 0)) (.int x) _ (Ev.name (hc _ _ (by rfl))) (Ev.name (hc _ _ (by rfl))) (Op.mul (by omega) (by omega))) Op.add) (@Ev.bin _ _ _ _ _ _ (.int (n.getD 2 0)) (.int y) _ (Ev.name (hc _ _ (by rfl))) (Ev.name (hc _ _ (by rfl))) (Op.mul (by omega) (by omega))) Op.add) (@Ev.bin _ _ _ _ _ _ (.int (n.getD 3 0)) (.int z) _ (Ev.name (hc _ _ (by rfl))) (Ev.name (hc _ _ (by rfl))) (Op.mul (by omega) (by omega))) Op.add) (@Ev.bin _ _ _ _ _ _ (.int (n.getD 4 0 * x)) (.int x) _ (@Ev.bin _ _ _ _ _ _ (.int (n.getD 4 0)) (.int x) _ (Ev.name (hc _ _ (by rfl))) (Ev.name (hc _ _ (by rfl))) (Op.mul (by omega) (by omega))) (Ev.name (hc _ _ (by rfl))) (Op.mul (by omega) (by omega))) Op.add) (@Ev.bin _ _ _ _ _ _ (.int (n.getD 5 0 * y)) (.int y) _ (@Ev.bin _ _ _ _ _ _ (.int (n.getD 5 0)) (.int y) _ (Ev.name (hc _ _ (by rfl))) (Ev.name (hc _ _ (by rfl))) (Op.mul (by omega) (by omega))) (Ev.name (hc _ _ (by rfl))) (Op.mul (by omega) (by omega))) Op.add) (@Ev.bin _ _ _ _ _ _ (.int (n.getD 6 0 * z)) (.int z) _ (@Ev.bin _ _ _ _ _ _ (.int (n.getD 6 0)) (.int z) _ (Ev.name (hc _ _ (by rfl))) (Ev.name (hc _ _ (by rfl))) (Op.mul (by omega) (by omega))) (Ev.name (hc _ _ (by rfl))) (Op.mul (by omega) (by omega))) Op.add) (@Ev.bin _ _ _ _ _ _ (.int (n.getD 7 0 * x)) (.int y) _ (@Ev.bin _ _ _ _ _ _ (.int (n.getD 7 0)) (.int x) _ (Ev.name (hc _ _ (by rfl))) (Ev.name (hc _ _ (by rfl))) (Op.mul (by omega) (by omega))) (Ev.name (hc _ _ (by rfl))) (Op.mul (by omega) (by omega))) Op.add) (@Ev.bin _ _ _ _ _ _ (.int (n.getD 8 0 * y)) (.int z) _ (@Ev.bin _ _ _ _ _ _ (.int (n.getD 8 0)) (.int y) _ (Ev.name (hc _ _ (by rfl))) (Ev.name (hc _ _ (by rfl))) (Op.mul (by omega) (by omega))) (Ev.name (hc _ _ (by rfl))) (Op.mul (by omega) (by omega))) Op.add) (@Ev.bin _ _ _ _ _ _ (.int (n.getD 9 0 * z)) (.int x) _ (@Ev.bin _ _ _ _ _ _ (.int (n.getD 9 0)) (.int z) _ (Ev.name (hc _ _ (by rfl))) (Ev.name (hc _ _ (by rfl))) (Op.mul (by omega) (by omega))) (Ev.name (hc _ _ (by rfl))) (Op.mul (by omega) (by omega))) Op.add)
    · unfold oneZ; rw [if_pos e]; exact .last Ev.int
    · unfold oneZ; rw [e]; rfl
end Mine
end
section
open PySem PySem.W PySem.Calls PyProof.Rows
namespace Mine
/-! plain facts for the law's walk -/
def numsT (ns : List Int) : List Int := (ns ++ List.replicate 10 0).take 10
theorem numsT_len (ns : List Int) : (numsT ns).length = 10 := by unfold numsT; rw [List.length_take]; simp
theorem numsT_D (ns : List Int) : ((ns.map D.int ++ (List.replicate (10 : Int).toNat [D.int 0]).flatten).drop ((none : Option Int).elim 0 (clipAt (ns.map D.int ++ (List.replicate (10 : Int).toNat [D.int 0]).flatten).length))).take
    ((some (10 : Int)).elim (ns.map D.int ++ (List.replicate (10 : Int).toNat [D.int 0]).flatten).length (clipAt (ns.map D.int ++ (List.replicate (10 : Int).toNat [D.int 0]).flatten).length) - (none : Option Int).elim 0 (clipAt (ns.map D.int ++ (List.replicate (10 : Int).toNat [D.int 0]).flatten).length)) = (numsT ns).map D.int := by
  have e : (List.replicate (10 : Int).toNat [D.int 0]).flatten = (List.replicate 10 (0 : Int)).map D.int := rfl
  rw [e, ← List.map_append]
  have hl : clipAt ((ns ++ List.replicate 10 (0 : Int)).map D.int).length 10 = 10 := by
    unfold clipAt
    rw [List.length_map, List.length_append, List.length_replicate]
    simp
    omega
  show (((ns ++ List.replicate 10 (0 : Int)).map D.int).drop 0).take (clipAt ((ns ++ List.replicate 10 (0 : Int)).map D.int).length 10 - 0) = _
  rw [hl, List.drop_zero, numsT, List.map_take]
theorem few_rest {q : Nat} (hq : q = 3 ∨ q = 5) {n : List Int} (hn : n.length = 10) : Few5 (n.map fun v => v % q) := by
  refine ⟨by rw [List.length_map]; exact hn, fun k => ?_⟩
  rw [map_getD (by rcases hq with rfl | rfl <;> rfl)]
  rcases hq with rfl | rfl <;> omega
theorem few_mem {n : List Int} (hn : Few5 n) {v : Int} (hv : v ∈ n) : 0 ≤ v ∧ v < 5 := by
  obtain ⟨k, hk, rfl⟩ := List.mem_iff_getElem.mp hv
  have := hn.2 k
  rw [List.getD_eq_getElem?_getD, List.getElem?_eq_getElem hk] at this
  exact this
theorem plain_D {n : List Int} (hn : n.length = 10) : (List.replicate (4 : Int).toNat [D.int 0]).flatten ++ ((n.map D.int).drop ((some (4 : Int)).elim 0 (clipAt (n.map D.int).length))).take ((none : Option Int).elim (n.map D.int).length (clipAt (n.map D.int).length) - (some (4 : Int)).elim 0 (clipAt (n.map D.int).length)) = (plainN n).map D.int := by
  rw [ten hn]; rfl
theorem plain_len {n : List Int} (hn : n.length = 10) : (plainN n).length = 10 := by unfold plainN; simp [hn]
theorem powb {q : Nat} (hq : q = 3 ∨ q = 5) {v : Int} (h : 0 ≤ v ∧ v ≤ 4) : 0 ≤ v ^ (q - 1) ∧ v ^ (q - 1) ≤ 256 := by
  have : v = 0 ∨ v = 1 ∨ v = 2 ∨ v = 3 ∨ v = 4 := by omega
  rcases hq with rfl | rfl <;> rcases this with rfl | rfl | rfl | rfl | rfl <;> decide
theorem powsum {q : Nat} (hq : q = 3 ∨ q = 5) {i : Nat} (hi : i < 2 * q - 2) : 0 ≤ sum1 q (· ^ (1 + i)) ∧ sum1 q (· ^ (1 + i)) < 2 ^ 32 ∧ sum1 q (· ^ (1 + i)) % q = if (1 + (i : Int)) % ((q : Int) - 1) = 0 then (q : Int) - 1 else 0 := by
  rcases hq with rfl | rfl
  · revert i; decide
  · revert i; decide
theorem slant_D (n : List Int) : (slant0 n).map D.int = [.int (n.getD 0 0), .int (n.getD 1 0), .int (n.getD 2 0 + n.getD 1 0), .int (n.getD 3 0), .int (n.getD 4 0), .int (n.getD 5 0 + n.getD 4 0 + n.getD 7 0), .int (n.getD 6 0), .int (n.getD 7 0 + 2 * n.getD 4 0), .int (n.getD 8 0 + n.getD 9 0), .int (n.getD 9 0)] := rfl
theorem prime_at (s : Int) : ∃ q : Nat, (q = 3 ∨ q = 5) ∧ [D.int 3, D.int 5][(s % 2).toNat]? = some (.int q) := by
  have : s % 2 = 0 ∨ s % 2 = 1 := by omega
  rcases this with e | e
  · exact ⟨3, .inl rfl, by rw [e]; rfl⟩
  · exact ⟨5, .inr rfl, by rw [e]; rfl⟩
theorem turned_len (n : List Int) : (turned n).length = 10 := rfl
end Mine
end
section
open PySem PySem.W PySem.Calls PyProof.Rows
namespace Mine
theorem lawW {C : Cfg} {p : Params} (hK : C.K = hd01.heap_39 p) (hT : C.tabs = tabsOf (hd01.heap_39 p)) (ns : List Int) (hns : ns.length ≤ 63) : Fn C 66 92 [iL ns] (.bool true) := by
  have b1 : ∀ env : Env, env.kindOf "range" = some .globalImplicit → Bi C env "range" (.type "range") := fun env h => ⟨by rw [hK]; rfl, by rfl, h, by decide, by decide⟩
  have b2 : ∀ env : Env, env.kindOf "sum" = some .globalImplicit → Bi C env "sum" (.builtin "sum") := fun env h => ⟨by rw [hK]; rfl, by rfl, h, by decide, by decide⟩
  have g1 : ∀ env : Env, env.kindOf "int_divmod" = some .globalImplicit → Gl C env "int_divmod" 70 := fun env h => ⟨by rw [hK]; rfl, h, by decide, _, _, by rw [hK]; rfl, by rfl⟩
  have g2 : ∀ env : Env, env.kindOf "_law_table" = some .globalImplicit → Gl C env "_law_table" 82 := fun env h => ⟨by rw [hK]; rfl, h, by decide, _, _, by rw [hK]; rfl, by rfl⟩
  have g3 : ∀ env : Env, env.kindOf "_law_noughts" = some .globalImplicit → Gl C env "_law_noughts" 87 := fun env h => ⟨by rw [hK]; rfl, h, by decide, _, _, by rw [hK]; rfl, by rfl⟩
  have g4 : ∀ env : Env, env.kindOf "count_calls" = some .globalImplicit → Gl C env "count_calls" 28 := fun env h => ⟨by rw [hK]; rfl, h, by decide, _, _, by rw [hK]; rfl, by rfl⟩
  refine Fn.mk (names := ["script"]) (k := 65) (by rw [hK]; rfl) (by rfl) (by rfl) (by rfl) (by rw [hK]; rfl) (by rfl) (by rfl) ?_ (by rfl) (by decide) ?_ ?_
  · intro vs h
    obtain ⟨a, rfl⟩ := len1 h
    rfl
  · intro x hx
    simp only [List.mem_singleton] at hx
    subst hx; exact .inl (by rfl)
  · intro L M I
    obtain ⟨q, hq, hat⟩ := prime_at ns.sum
    have hq0 : (q : Int) ≠ 0 := by omega
    have hqp : 0 < (q : Int) ∧ (q : Int) < 256 := by omega
    refine .assign (d := .int q) (Ev.sub (x := .lst [.int 3, .int 5]) (y := .int (ns.sum % 2)) (@Ev.list _ _ _ _ _ (@EvL.cons _ _ _ _ _ _ Ev.int (@EvL.cons _ _ _ _ _ _ Ev.int EvL.nil rfl) rfl) (by decide)) (Ev.to (Ev.bin (x := .int ns.sum) (y := .int 2) (Ev.callB (b2 _ (by rfl)) (.cons (Ev.name (d := iL ns) (by rfl)) .nil) OpL.sum) Ev.int (Op.mod (by decide))) (congrArg D.int (Int.fmod_eq_emod_of_nonneg _ (by decide)))) (Item.lst (by omega) (by omega) hat)) (.inr ⟨by rfl, by rfl, by rfl⟩) ?_
    have sz10 : (ns.map D.int).length + (List.replicate (10 : Int).toNat [D.int 0]).flatten.length ≤ sizeLine := by
      rw [sizeLine_eq, List.length_map, show (List.replicate (10 : Int).toNat [D.int 0]).flatten.length = 10 from rfl]; omega
    obtain ⟨n, hnn⟩ : ∃ n, n = (numsT ns).map fun v => v % (q : Int) := ⟨_, rfl⟩
    have hn : Few5 n := hnn ▸ few_rest hq (numsT_len ns)
    refine .assign (d := iL n) (Ev.to (Ev.ofF (EvF.map (numsT ns) .int (fun v => .int (v % q)) [("prime", .int q)]
      (EvI.list ((Ev.slice (Ev.bin (Ev.name (d := iL ns) (by rfl)) (Ev.bin (Ev.list (.cons (Ev.int (i := 0)) .nil)) Ev.int (Op.repL (x := 10) (by decide) (by decide) (by decide))) (Op.catL sz10)) .none (.int Ev.int) (by rw [List.length_append]; exact sz10)).to (by rw [numsT_D]))) trivial (.cons .nil) (fun v hv L M O I => ?_) (by rw [numsT_len]; decide))) (by rw [hnn]; unfold iL; rw [List.map_map]; rfl)) (.inr ⟨by rfl, by rfl, by rfl⟩) ?_
    · exact ⟨_, Tg.name (.inl (by rfl)), Over.set (by rfl), Ev.to (Ev.bin (x := .int v) (y := .int q) (Ev.name (by rfl)) (Ev.name (by rfl)) (Op.mod hq0)) (congrArg D.int (Int.fmod_eq_emod_of_nonneg _ (by omega)))⟩
    refine .keepG [("numbers", iL n), ("prime", .int q)] (.cons (.cons .nil)) ?_
    clear hnn
    have f1 := table_zero hq n
    have f2 := table_all hq n
    have f3 := table_pow hq n
    have f4 := fun r => table_key hq n (q := r)
    have f5 := chevalley hq n
    have f6 : (tableOf q n).length ≤ 200 := by
      have := fold_lenN (stepX_len q n) (upTo q) []
      have h3 : q * q * (upTo q).length ≤ 125 := by rw [upTo_length]; rcases hq with rfl | rfl <;> decide
      unfold tableOf
      simp only [List.length_nil] at this
      omega
    refine .assign (d := .dic (tableOf q n)) (Ev.callF (g2 _ (by rfl)) (tableW hK hT hq hn) (by show 65 ≤ 65; omega) (.cons (.cons (Ev.name (by rfl)) (.cons (Ev.name (by rfl)) .nil)))) (.inl (by rfl)) ?_
    generalize tableOf q n = T at f1 f2 f3 f4 f6 ⊢
    refine .assign (d := .int (cnt q n)) (Ev.to (Ev.get2 (es := T) (k := kw 0) (j := 0) (Ev.name (by rfl)) (@Ev.tuple _ _ _ _ _ _ (@EvL.cons _ _ _ _ _ _ Ev.str (@EvL.cons _ _ _ _ _ _ Ev.int (@EvL.cons _ _ _ _ _ _ Ev.str EvL.nil rfl) rfl) rfl) (by decide)) Ev.int) (congrArg D.int f1)) (.inl (by rfl)) ?_
    have e1 := cnt_turned (p := q) n
    have e2 := cnt_twice hq n
    have e3 := cnt_slanted hq n
    have e4 := cnt_plain hq (plainN n) (by rfl)
    have w0 := noughtsW hK hq hn.1
    have w1 := noughtsW hK hq (turned_len n)
    have w2 := noughtsW hK hq (n := twice q n) (by unfold twice; rw [List.length_map]; exact hn.1)
    have w3 := noughtsW hK hq (n := slanted q n) (by rfl)
    have w4 := noughtsW hK hq (plain_len hn.1)
    rw [e1] at w1
    rw [e2] at w2
    rw [e3] at w3
    clear e1 e2 e3
    generalize cnt q n = nv at f5 w0 w1 w2 w3 ⊢
    generalize cnt q (plainN n) = nw at e4 w4
    have wd : ∀ (c' : Ctx C) {v : Int} {p1 p2 kk p3}, c'.G.lookup ("word" : Str) = some (.tup [.str "comes", .int v, .str "out"]) → Ev c' (.Subscript (.Name "word" p1) (.Constant (.int 1) kk p2) p3) (.int v) := fun c' v p1 p2 kk p3 h => Ev.sub (x := .tup [.str "comes", .int v, .str "out"]) (y := .int 1) (Ev.name h) Ev.int (Item.tup (by decide) (by decide) (by rfl))
    refine .ifF (.boolop (.or_false (EvB.cmp (x := .int nv) (y := .int nv) (Ev.name (by rfl)) (Ev.callF (g3 _ (by rfl)) w0 (by show 1 ≤ 65; omega) (.cons (.cons (Ev.name (by rfl)) (.cons (Ev.name (by rfl)) .nil)))) (Op.ne.to (congrArg D.bool (by simp))))
      (.or_false (EvB.cmp (x := .int ((q : Int) ^ 3)) (y := .int ((q : Int) ^ 3)) (Ev.to (Ev.callF (g4 _ (by rfl)) (count_calls_ok hK T) (by show 1 ≤ 65; omega) (.cons (.cons (Ev.name (by rfl)) .nil))) (congrArg D.int f2)) (Ev.bin (x := .int q) (y := .int 3) (Ev.name (by rfl)) Ev.int (Op.pow (by decide) (by decide) (by omega))) (Op.ne.to (congrArg D.bool (by simp))))
      (.or_false (EvB.cmp (x := .int 0) (y := .int 0) (Ev.to (Ev.bin (x := .int nv) (y := .int q) (Ev.name (by rfl)) (Ev.name (by rfl)) (Op.mod hq0)) (congrArg D.int (by rw [Int.fmod_eq_emod_of_nonneg _ (by omega)]; exact Int.emod_eq_zero_of_dvd f5))) Ev.int (Op.ne.to rfl))
      (.or_false (EvB.cmp (x := .lst (T.flatMap fun _ => [])) (y := .lst []) (Ev.ofF (EvF.comp T (fun r => tupOf r.1) (fun _ => []) [("prime", .int q)] (EvI.keys (Ev.name (by rfl))) trivial (.cons .nil) (fun r hr L M O I => ?_) (by rw [flat_none]; exact Nat.zero_le _) (by rfl) (by decide) (free_ok _ _ (by rfl)) (by simp))) (Ev.list .nil) (Op.neNil.to (by rw [flat_none]; rfl))) .or_nil))))) ?_
    · obtain ⟨v, e, h0, h1⟩ := f4 r hr
      have e' : tupOf r.1 = .tup [.str "comes", .int v, .str "out"] := by rw [e]; rfl
      rw [e']
      refine ⟨_, false, Tg.name (.inl (by rfl)), Over.set (by rfl), .one (EvB.to (EvB.not (EvB.chain (x := .int 0) (y := .int v) (z := .int q) (b1 := true) (b2 := true) Ev.int (wd _ (by rfl)) (Ev.name (by rfl)) (Op.le.to (congrArg D.bool (by simpa using h0))) (Op.lt.to (congrArg D.bool (by simpa using h1))))) rfl), (fun e => by cases e), fun _ => rfl⟩
    have hsum : ((T.map fun r => r.2 * wordOf r.1 ^ (q - 1)).sum).fmod q = 0 := by rw [Int.fmod_eq_emod_of_nonneg _ (by omega)]; exact Int.emod_eq_zero_of_dvd f3
    refine .ifF (EvB.cmp (x := .int 0) (y := .int 0) (Ev.to (Ev.bin (x := .int (T.map fun r => r.2 * wordOf r.1 ^ (q - 1)).sum) (y := .int q) (Ev.callB (b2 _ (by rfl)) (.cons (Ev.to (Ev.ofF (EvF.map T (fun r => .tup [tupOf r.1, .int r.2]) (fun r => .int (r.2 * wordOf r.1 ^ (q - 1))) [("prime", .int q)] (EvI.items (Ev.itemsOf (Ev.name (by rfl)))) ⟨_, _, _, rfl⟩ (.cons .nil) (fun r hr L M O I => ?_) (by rw [sizeLine_eq]; omega))) (d' := iL (T.map fun r => r.2 * wordOf r.1 ^ (q - 1))) (by unfold iL; rw [List.map_map]; rfl)) .nil) OpL.sum) (Ev.name (by rfl)) (Op.mod hq0)) (congrArg D.int hsum)) Ev.int (Op.ne.to rfl)) ?_
    · obtain ⟨v, e, h0, h1⟩ := f4 r hr
      have e' : tupOf r.1 = .tup [.str "comes", .int v, .str "out"] := by rw [e]; rfl
      have e2 : wordOf r.1 = v := by rw [e]; rfl
      have hb := powb hq (v := v) (by omega)
      rw [e', e2]
      refine ⟨_, Tg.tuple (.cons (Tg.name (.inl (by rfl))) (.cons (Tg.name (.inl (by rfl))) .nil)) (by rfl), (Over.set (by rfl)).trans (Over.set (by rfl)), Ev.bin (x := .int r.2) (y := .int (v ^ (q - 1))) (Ev.name (by rfl)) (Ev.to (Ev.bin (x := .int v) (y := .int ((q : Int) - 1)) (wd _ (by rfl)) (Ev.bin (x := .int q) (y := .int 1) (Ev.name (by rfl)) Ev.int Op.sub) (Op.pow (by omega) (by omega) (by omega))) (by rw [show ((q : Int) - 1).toNat = q - 1 from by omega])) (Op.mul (by omega) (by omega))⟩
    refine .keepG [("noughts", .int nv), ("numbers", iL n), ("prime", .int q)] (.cons (.cons (.cons .nil))) ?_
    have hm : 2 * q - 2 ≤ 2 ^ 24 := by omega
    refine .forL (List.range (2 * q - 2)) (fun i : Nat => .int (1 + (i : Int))) (fun _ => [("noughts", .int nv), ("numbers", iL n), ("prime", .int q)]) (fun _ => [])
      (EvI.range (x := 1) (n := 2 * q - 2) (Ev.callT (b1 _ (by rfl)) (.cons Ev.int (.cons (Ev.to (Ev.bin (x := .int (2 * (q : Int))) (y := .int 1) (Ev.bin (x := .int 2) (y := .int q) Ev.int (Ev.name (by rfl)) (Op.mul (by omega) (by omega))) Ev.int Op.sub) (d' := .int (1 + ((2 * q - 2 : Nat) : Int))) (congrArg D.int (by omega))) .nil)) (OpL.range2 (by omega) (by omega) hm))) trivial (.cons (.cons (.cons .nil))) rfl ?_ ?_
    · intro i pw hi M I
      obtain ⟨hi', rfl⟩ : i < 2 * q - 2 ∧ pw = i := by
        obtain ⟨h1, h2⟩ := List.getElem?_eq_some_iff.mp hi
        rw [List.length_range] at h1
        rw [List.getElem_range] at h2
        exact ⟨h1, h2.symm⟩
      obtain ⟨s0, s1, s2⟩ := powsum hq hi'
      obtain ⟨s, hs⟩ : ∃ s, s = sum1 q (· ^ (1 + pw)) := ⟨_, rfl⟩
      rw [← hs] at s0 s1 s2
      refine ⟨_, Tg.name (.inr ⟨by rfl, by rfl, by rfl⟩), rfl, rfl, ?_⟩
      refine .assign (d := .int (s % q)) (Ev.sub (x := .tup [.int (s / q), .int (s % q)]) (y := .int 1) (Ev.callF (g1 _ (by rfl)) (idm_ok hK hT (a := s) (b := q) s0 (by omega) hqp.1 (by omega)) (by show 63 ≤ 65; omega) (.cons (.cons (Ev.to (Ev.callB (b2 _ (by rfl)) (.cons (Ev.to (Ev.ofF (EvF.map (upTo q) .int (fun r => .int (r ^ (1 + pw))) [("power", .int (1 + (pw : Int)))] (EvI.rangeTo (n := q) (b1 _ (by rfl)) (Ev.name (by rfl)) (by omega)) trivial (.cons .nil) (fun r hr L M O I => ?_) (by rw [upTo_length, sizeLine_eq]; omega))) (d' := iL ((upTo q).map fun r => r ^ (1 + pw))) (by unfold iL; rw [List.map_map]; rfl)) .nil) OpL.sum) (congrArg D.int hs.symm)) (.cons (Ev.name (by rfl)) .nil)))) Ev.int (Item.tup (by decide) (by decide) (by rfl))) (.inl (by rfl)) ?_
      · have hr := upTo_mem hr
        exact ⟨_, Tg.name (.inl (by rfl)), Over.set (by rfl), Ev.to (Ev.bin (x := .int r) (y := .int (1 + (pw : Int))) (Ev.name (by rfl)) (Ev.name (by rfl)) (Op.pow (by omega) (by omega) (by omega))) (by rw [show (1 + (pw : Int)).toNat = 1 + pw from by omega])⟩
      · have tst : ∀ {b : Bool}, (decide ((1 + (pw : Int)) % ((q : Int) - 1) = 0) = b) → (((1 + (pw : Int)).fmod ((q : Int) - 1)) == 0) = b := fun {b} e => by rw [Int.fmod_eq_emod_of_nonneg _ (by omega), ← e]; rfl
        by_cases hz : (1 + (pw : Int)) % ((q : Int) - 1) = 0
        · rw [if_pos hz] at s2
          refine .ifF (EvB.cmp (x := .int (s % q)) (y := .int (s % q)) (Ev.name (by rfl)) (Ev.to (Ev.ifT (EvB.cmp (x := .int ((1 + (pw : Int)).fmod ((q : Int) - 1))) (y := .int 0) (Ev.bin (x := .int (1 + (pw : Int))) (y := .int ((q : Int) - 1)) (Ev.name (by rfl)) (Ev.bin (x := .int q) (y := .int 1) (Ev.name (by rfl)) Ev.int Op.sub) (Op.mod (by omega))) Ev.int (Op.eq.to (congrArg D.bool (tst (by simpa using hz))))) (Ev.bin (x := .int q) (y := .int 1) (Ev.name (by rfl)) Ev.int Op.sub)) (congrArg D.int s2.symm)) (Op.ne.to (congrArg D.bool (by simp)))) ?_
          exact .turnG (.cons (.cons (.cons .nil)))
        · rw [if_neg hz] at s2
          refine .ifF (EvB.cmp (x := .int (s % q)) (y := .int (s % q)) (Ev.name (by rfl)) (Ev.to (Ev.ifF (EvB.cmp (x := .int ((1 + (pw : Int)).fmod ((q : Int) - 1))) (y := .int 0) (Ev.bin (x := .int (1 + (pw : Int))) (y := .int ((q : Int) - 1)) (Ev.name (by rfl)) (Ev.bin (x := .int q) (y := .int 1) (Ev.name (by rfl)) Ev.int Op.sub) (Op.mod (by omega))) Ev.int (Op.eq.to (congrArg D.bool (tst (by simpa using hz))))) Ev.int) (congrArg D.int s2.symm)) (Op.ne.to (congrArg D.bool (by simp)))) ?_
          exact .turnG (.cons (.cons (.cons .nil)))
    have l10 : (n.map D.int).length = 10 := by rw [List.length_map]; exact hn.1
    refine .assign (d := iL (plainN n)) (Ev.to (Ev.bin (x := .lst (List.replicate (4 : Int).toNat [D.int 0]).flatten) (Ev.bin (x := .lst [.int 0]) (y := .int 4) (Ev.list (.cons (Ev.int (i := 0)) .nil)) Ev.int (Op.repL (x := 4) (by decide) (by decide) (by decide))) (Ev.slice (Ev.name (d := iL n) (by rfl)) (.int Ev.int) .none (by rw [l10]; decide)) (Op.catL (by
      rw [sizeLine_eq, List.length_take, List.length_drop, l10, show (List.replicate (4 : Int).toNat [D.int 0]).flatten.length = 4 from rfl]; omega))) (by unfold iL; rw [plain_D hn.1])) (.inl (by rfl)) ?_
    refine .ifF (EvB.cmp (x := .int nw) (y := .int q) (Ev.callF (g3 _ (by rfl)) w4 (by show 1 ≤ 65; omega) (.cons (.cons (Ev.name (by rfl)) (.cons (Ev.name (by rfl)) .nil)))) (Ev.name (by rfl)) (Op.lt.to (congrArg D.bool (by simpa using e4)))) ?_
    refine @Ex.assignMap _ _ _ _ _ _ _ _ _ _ _ _ Any _ ([0, 2, 3, 1, 5, 6, 4, 8, 9, 7] : List Int) .int (fun k => .int (n.getD k.toNat 0)) [("numbers", iL n)] ?it trivial (.cons .nil) ?step (by decide) (by rfl) (fun B => ?rest) (by rfl) (by rfl) (by decide) (by rfl) (by intro _; rfl) (by intro _ _; rfl)
    case it => exact @EvI.list _ _ _ _ (@Ev.list _ _ _ _ _ (@EvL.cons _ _ _ _ _ _ Ev.int (@EvL.cons _ _ _ _ _ _ Ev.int (@EvL.cons _ _ _ _ _ _ Ev.int (@EvL.cons _ _ _ _ _ _ Ev.int (@EvL.cons _ _ _ _ _ _ Ev.int (@EvL.cons _ _ _ _ _ _ Ev.int (@EvL.cons _ _ _ _ _ _ Ev.int (@EvL.cons _ _ _ _ _ _ Ev.int (@EvL.cons _ _ _ _ _ _ Ev.int (@EvL.cons _ _ _ _ _ _ Ev.int EvL.nil rfl) rfl) rfl) rfl) rfl) rfl) rfl) rfl) rfl) rfl) (by decide))
    case step =>
      intro k hk L M O I
      have hk' : 0 ≤ k ∧ k < 10 := by revert k; decide
      exact ⟨_, Tg.name (.inl (by rfl)), Over.set (by rfl), Ev.sub (x := iL n) (y := .int k) (Ev.name (by rfl)) (Ev.name (by rfl)) (Item.lst hk'.1 (by omega) (getI hk'.1 (by rw [hn.1]; exact hk'.2)))⟩
    refine .frz 0 "turned" (a := B) (d := iL (turned n)) ?_ (by show some (B, D.lst _) = some (B, D.lst _); unfold turned; rw [List.map_map]; rfl)
    refine .ifF (.boolop (.or_false (EvB.cmp (x := .int nv) (y := .int nv) (Ev.callF (g3 _ (by rfl)) w1 (by show 1 ≤ 65; omega) (.cons (.cons (Ev.name (by rfl)) (.cons (Ev.name (by rfl)) .nil)))) (Ev.name (by rfl)) (Op.ne.to (congrArg D.bool (by simp))))
      (.or_false (EvB.cmp (x := .int nv) (y := .int nv) (Ev.callF (g3 _ (by rfl)) w2 (by show 1 ≤ 65; omega) (.cons (.cons (Ev.to (Ev.ofF (EvF.map n .int (fun v => .int (2 * v % q)) [("prime", .int q)] (EvI.list (Ev.name (by rfl))) trivial (.cons .nil) (fun v hv L M O I => ?_) (by rw [hn.1]; decide))) (d' := iL (twice q n)) (by unfold iL twice; rw [List.map_map]; rfl)) (.cons (Ev.name (by rfl)) .nil)))) (Ev.name (by rfl)) (Op.ne.to (congrArg D.bool (by simp)))) .or_nil))) ?_
    · have hv := few_mem hn hv
      exact ⟨_, Tg.name (.inl (by rfl)), Over.set (by rfl), Ev.to (Ev.bin (x := .int (2 * v)) (y := .int q) (Ev.bin (x := .int 2) (y := .int v) Ev.int (Ev.name (by rfl)) (Op.mul (by omega) (by omega))) (Ev.name (by rfl)) (Op.mod hq0)) (congrArg D.int (Int.fmod_eq_emod_of_nonneg _ (by omega)))⟩
    refine .keepG [("noughts", .int nv), ("numbers", iL n), ("prime", .int q)] (.cons (.cons (.cons .nil))) ?_
    refine .assignT (d := .lst [.int (n.getD 0 0), .int (n.getD 1 0), .int (n.getD 2 0), .int (n.getD 3 0), .int (n.getD 4 0), .int (n.getD 5 0), .int (n.getD 6 0), .int (n.getD 7 0), .int (n.getD 8 0), .int (n.getD 9 0)]) ((Ev.name (d := iL n) (by rfl)).to (by unfold iL; rw [ten hn.1]; rfl)) (Tg.unlist (.cons (Tg.name (.inl (by rfl))) (.cons (Tg.name (.inl (by rfl))) (.cons (Tg.name (.inl (by rfl))) (.cons (Tg.name (.inl (by rfl))) (.cons (Tg.name (.inl (by rfl))) (.cons (Tg.name (.inl (by rfl))) (.cons (Tg.name (.inl (by rfl))) (.cons (Tg.name (.inl (by rfl))) (.cons (Tg.name (.inl (by rfl))) (.cons (Tg.name (.inl (by rfl))) .nil)))))))))) (by rfl)) ?_
    have h4 := hn.2 4
    refine @Ex.assignMap _ _ _ _ _ _ _ _ _ _ _ _ Any _ (slant0 n) .int (fun v => .int (v % q)) [("prime", .int q)] ?itb trivial (.cons .nil) ?stepb (by show 10 ≤ sizeLine; decide) (by rfl) (fun B => ?restb) (by rfl) (by rfl) (by decide) (by rfl) (by intro _; rfl) (by intro _ _; rfl)
    case itb =>
      rw [slant_D]
      exact @EvI.list _ _ _ _ (@Ev.list _ _ _ _ _ (@EvL.cons _ _ _ _ _ _ (Ev.name (by rfl)) (@EvL.cons _ _ _ _ _ _ (Ev.name (by rfl)) (@EvL.cons _ _ _ _ _ _ (@Ev.bin _ _ _ _ _ _ (.int (n.getD 2 0)) (.int (n.getD 1 0)) _ (Ev.name (by rfl)) (Ev.name (by rfl)) Op.add) (@EvL.cons _ _ _ _ _ _ (Ev.name (by rfl)) (@EvL.cons _ _ _ _ _ _ (Ev.name (by rfl)) (@EvL.cons _ _ _ _ _ _ (@Ev.bin _ _ _ _ _ _ (.int (n.getD 5 0 + n.getD 4 0)) (.int (n.getD 7 0)) _ (@Ev.bin _ _ _ _ _ _ (.int (n.getD 5 0)) (.int (n.getD 4 0)) _ (Ev.name (by rfl)) (Ev.name (by rfl)) Op.add) (Ev.name (by rfl)) Op.add) (@EvL.cons _ _ _ _ _ _ (Ev.name (by rfl)) (@EvL.cons _ _ _ _ _ _ (@Ev.bin _ _ _ _ _ _ (.int (n.getD 7 0)) (.int (2 * n.getD 4 0)) _ (Ev.name (by rfl)) (@Ev.bin _ _ _ _ _ _ (.int 2) (.int (n.getD 4 0)) _ Ev.int (Ev.name (by rfl)) (Op.mul (by omega) (by omega))) Op.add) (@EvL.cons _ _ _ _ _ _ (@Ev.bin _ _ _ _ _ _ (.int (n.getD 8 0)) (.int (n.getD 9 0)) _ (Ev.name (by rfl)) (Ev.name (by rfl)) Op.add) (@EvL.cons _ _ _ _ _ _ (Ev.name (by rfl)) EvL.nil rfl) rfl) rfl) rfl) rfl) rfl) rfl) rfl) rfl) rfl) (by show 10 ≤ sizeLine; decide))
    case stepb =>
      intro v hv L M O I
      exact ⟨_, Tg.name (.inl (by rfl)), Over.set (by rfl), Ev.to (Ev.bin (x := .int v) (y := .int q) (Ev.name (by rfl)) (Ev.name (by rfl)) (Op.mod hq0)) (congrArg D.int (Int.fmod_eq_emod_of_nonneg _ (by omega)))⟩
    refine .frz 0 "slanted" (a := B) (d := iL (slanted q n)) ?_ (by show some (B, D.lst _) = some (B, D.lst _); unfold slanted; rw [List.map_map]; rfl)
    exact .ret (d := .bool true) (Ev.cmp (x := .int nv) (y := .int nv) (Ev.callF (g3 _ (by rfl)) w3 (by show 1 ≤ 65; omega) (.cons (.cons (Ev.name (by rfl)) (.cons (Ev.name (by rfl)) .nil)))) (Ev.name (by rfl)) (Op.eq.to (congrArg D.bool (by simp)))) fun v h p hv => RetR.of p hv
end Mine
end
section
open PySem PySem.W PyProof.Rows
namespace Mine
theorem law_true : PySem.Challenge.rw_hs0001_01.Holds := hd01 (by
  k_fill
  intro w s₀ s₁ mg mb G Y fa o pm cd doc dV kV ho hd hcd hD hmg hg args vals as hpre hlay hrd hwl hlo
  have KX := km_in_of Y
  km_tabs Y
  have X := (Ground.X G).1
  have V := (Ground.X G).2
  refine Ground.open G ?_
  intro T B D TE TW
  try (refine guard_noD D (by decide +kernel) ?_; clear D)
  km_lay T hmg ho hd cd
  wrow_args hpre hlay hrd hwl hlo
  all_goals (clear hd hcd ho hD)
  rename_i ns _ _ _ _ _ _ _ a vs _ hL _ _ _ hI _ hn _
  have e := mg_of KX T.g (show nsIn (hd01.heap_39 w.params) mainGlobals "law" = some (some (.ref 92)) from by rfl)
  rw [show mg _ = _ from hmg] at e
  cases e
  have hT' : TabsAt ((tabsOf (hd01.heap_39 w.params)).map fun q => (q.1, q.2.1)) s₁.heap := hT9
  refine join (tabs := tabsOf (hd01.heap_39 w.params)) T KX hT' (by rfl) (by rfl) hL hI hg (k := 66) (by decide) ?_ ?_ fun ob => lawW rfl rfl ns ?_
  · exact raisesW_false (by wrow_none_raised)
  · exact postW_of (by wrow_shape) (by wtm_val) rfl
  · have := hn; omega)
end Mine
end
theorem PySem.Challenge.cw_hs0001_01_holds : PySem.Challenge.rw_hs0001_01.Holds :=
  Mine.law_true
