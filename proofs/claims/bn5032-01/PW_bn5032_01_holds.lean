import PyProof.Rows.All
import Wide.All
import OpenK.AllK
import Wide.FinOn
import PySem.Challenge.RW_bn5032_01
set_option Elab.async false

-- part Adq
section
open PySem
namespace Mine
set_option maxRecDepth 100000

section
variable (den : Code → Sem Fin) (prog : Program) (w : World)

/-- a yield at which no closing would show -/
def Mild (s : Shared) (t : Thread) : Prop :=
  ∃ v g l k, t.cur = .yield v g l k ∧ ∀ fs x rest, splitAtGen t.stack = some (fs, x, rest) → s.heap.life.registered = [] → closingShows s fs t.code g = false

theorem moves_mild (pr : Profile) (s : Shared) (t : Thread) (h : Mild s t) : (Config.single s t).moves pr = [.run 0] := by
  obtain ⟨cur, code, pos, stack⟩ := t
  obtain ⟨v, g, l, k, e, _⟩ := h
  dsimp only at e
  subst e
  simp [Config.moves, Config.single, movesFrom, Thread.moves, Thread.atomic, Thread.rests, Thread.tells]
theorem pick_mild (s : Shared) (t : Thread) (h : Mild s t) (hr : s.heap.life.registered = []) : (Config.single s t).pick w = .ok (.run 0, .single s t) := by
  have h1 : (Config.single s t).collect? w.params = none := by
    simp [Config.collect?, Config.single, (nothing_to_collect _ _ _ s t hr).1]
  have h2 : (Config.single s t).collectable = [] := by
    simp [Config.collectable, Config.single, (nothing_to_collect w.params _ _ s t hr).2]
  simp only [Config.pick, h1, h2, Config.pickThread, moves_mild _ s t h]
  cases w.params.lifetimes <;> simp
theorem lifeStep_mild (others : List Value) (s : Shared) (t : Thread) (h : Mild s t) (hz : s.asleep) : lifeStep den prog w others s t = step den prog w s t := by
  obtain ⟨hr, hc⟩ := hz
  obtain ⟨cur, code, pos, stack⟩ := t
  obtain ⟨v, g, l, k, e, hs⟩ := h
  dsimp only at e hs
  subst e
  cases hsp : Thread.special ⟨.yield v g l k, code, pos, stack⟩ with
  | false => rw [lifeStep_eq_step den prog w others s _ hsp hc]
  | true =>
    have hb : (match splitAtGen stack with | some (fs, _, _) => closingShows s fs code g | none => false) = false := by
      cases e : splitAtGen stack with
      | none => rfl
      | some x => obtain ⟨fs, x, rest⟩ := x; exact hs fs x rest e hr
    simp only [lifeStep, hsp, if_true, collectorTurn?]
    have hend : Thread.atItsEnd ⟨.yield v g l k, code, pos, stack⟩ = false := rfl
    cases e : splitAtGen stack with
    | none => simp [hend, stepCounting, hc]
    | some x =>
      obtain ⟨fs, x, rest⟩ := x
      have := hs fs x rest e hr
      simp [this, hend, stepCounting, hc]
theorem run_mild (s : Shared) (t : Thread) (h : Mild s t) (hl : ∀ others, lifeStep den prog w others s t = step den prog w s t) :
    (Config.single s t).run den prog w 0 = (step den prog w s t).lift := by
  obtain ⟨cur, code, pos, stack⟩ := t
  obtain ⟨v, g, l, k, e, _⟩ := h
  dsimp only at e
  subst e
  simp only [Config.run, Config.single]
  first
    | rfl
    | (simp [hl, others_single, frozenBadly, ThreadState.insideWrite]; split <;> simp_all [Step.lift, Config.single]; done)
    | (simp [hl, others_single, frozenBadly, ThreadState.insideWrite]; split <;> simp_all [Step.lift, Config.single] <;> split <;> simp; done)
    | (simp [hl, others_single, frozenBadly, ThreadState.insideWrite, Thread.finalizes]; split <;> simp_all [Step.lift, Config.single]; done)
    | (simp [hl, others_single, frozenBadly, ThreadState.insideWrite, Thread.finalizes]; split <;> simp_all [Step.lift, Config.single] <;> split <;> simp; done)
theorem sstep_mild (s : Shared) (t : Thread) (h : Mild s t) (hz : s.asleep) : sstep den prog w (.single s t) = (step den prog w s t).lift := by
  simp only [sstep, pick_mild w s t h hz.1, Config.move, run_mild den prog w s t h fun others => lifeStep_mild den prog w others s t h hz]

/-- the machine without the kept lists ends well from here, by calm steps and mild yields alone -/
inductive EndsK (R : Result → Shared → Prop) : Shared → Thread → Prop
  | halt {s s' : Shared} {t : Thread} {r : Result} : t.calm = true → stepK den prog w s t = .halt (outcomeOf r) s' → R r s' → EndsK R s t
  | go {s s' : Shared} {t t' : Thread} : (t.calm = true ∨ Mild s t) → stepK den prog w s t = .go s' t' → EndsK R s' t' → EndsK R s t

theorem closingShows_forget (s s' : Shared) (fs : List Frame) (c : Code) (g : Bool) (h : s.heap = s'.heap) : closingShows s (forgetAll fs) c g = closingShows s' fs c g := by
  have e1 : (forgetAll fs).any Frame.guarded = fs.any Frame.guarded := by
    induction fs with
    | nil => rfl
    | cons f fs ih => cases f <;> simp [ih, Frame.guarded]
  have e2 : ∀ v, delegateShows s v = delegateShows s' v := fun v => by unfold delegateShows; rw [h]
  unfold closingShows
  rw [e1]
  congr 1
  congr 1
  split
  · exact e2 _
  · rfl
theorem mild_forget {s s' : Shared} {t t' : Thread} (hs : s'.forget = s.forget) (ht : t'.forget = t.forget) (h : Mild s t) : Mild s' t' := by
  obtain ⟨v, g, l, k, e, hm⟩ := h
  have hcur : t'.cur = t.cur := by show t'.forget.cur = t.forget.cur; rw [ht]
  have hcode : t'.code = t.code := by show t'.forget.code = t.forget.code; rw [ht]
  have hst : forgetAll t'.stack = forgetAll t.stack := by show t'.forget.stack = t.forget.stack; rw [ht]
  have hheap : s'.heap = s.heap := by show s'.forget.heap = s.forget.heap; rw [hs]
  refine ⟨v, g, l, k, hcur.trans e, fun fs x rest hsp hreg => ?_⟩
  have h1 := splitAtGen_forgetAll t'.stack
  rw [hst, splitAtGen_forgetAll, hsp] at h1
  cases h2 : splitAtGen t.stack with
  | none => rw [h2] at h1; cases h1
  | some y =>
    obtain ⟨fs', x', rest'⟩ := y
    rw [h2] at h1
    simp only [Option.map_some, Option.some.injEq, Prod.mk.injEq] at h1
    have := hm fs' x' rest' h2 (hheap ▸ hreg)
    rw [hcode, ← closingShows_forget s' s' fs t.code g rfl, ← h1.1, closingShows_forget s' s fs' t.code g hheap]
    exact this
theorem stepK_same {s s₂ : Shared} {t t₂ : Thread} (hs : s₂.forget = s.forget) (ht : t₂.forget = t.forget) : (step den prog w s₂ t₂).forget = (stepK den prog w s t).forget := by
  rw [← stepK_forget, ← stepK_comm, hs, ht, stepK_comm]
theorem endsK_real {R : Result → Shared → Prop} {s : Shared} {t : Thread} (h : EndsK den prog w R s t) : ∀ s₂ t₂, s₂.forget = s.forget → t₂.forget = t.forget → s₂.asleep →
    ∃ n r s' s'', runN den prog w n s₂ t₂ = .halted (outcomeOf r) s' ∧ schedN den prog w n (.single s₂ t₂) = .halted (outcomeOf r) s' ∧ s'.forget = s''.forget ∧ R r s'' := by
  induction h with
  | @halt s s' t r hc hst hR =>
    intro s₂ t₂ hs ht hz
    have e := stepK_same den prog w hs ht
    have hc2 : t₂.calm = true := by rw [← Thread.calm_forget, ht, Thread.calm_forget]; exact hc
    rw [hst] at e
    cases h2 : step den prog w s₂ t₂ with
    | go a b => rw [h2] at e; cases e
    | halt o s₃ =>
      rw [h2] at e
      simp only [Step.forget, Step.halt.injEq] at e
      obtain ⟨rfl, e2⟩ := e
      refine ⟨1, r, s₃, s', ?_, ?_, e2, hR⟩
      · simp only [runN, h2]
      · rcases sstep_single den prog w s₂ t₂ hc2 hz with e3 | e3
        · simp only [schedN, e3, h2, Step.lift]
        · rw [h2] at e3
          injection e3 with e4 _
          cases r <;> simp [outcomeOf] at e4
  | @go s s' t t' hok hst _ ih =>
    intro s₂ t₂ hs ht hz
    have e := stepK_same den prog w hs ht
    rw [hst] at e
    cases h2 : step den prog w s₂ t₂ with
    | halt o s₃ => rw [h2] at e; cases e
    | go s₃ t₃ =>
      rw [h2] at e
      simp only [Step.forget, Step.go.injEq] at e
      obtain ⟨e1, e2⟩ := e
      obtain ⟨n, r, s4, s5, h3, h4, h5, h6⟩ := ih s₃ t₃ e1 e2 (Shared.asleep_of_life (step_life den prog w s₂ s₃ t₂ t₃ h2) hz)
      refine ⟨n + 1, r, s4, s5, ?_, ?_, h5, h6⟩
      · simp only [runN, h2]; exact h3
      · have e3 : sstep den prog w (.single s₂ t₂) = (step den prog w s₂ t₂).lift := by
          rcases hok with hok | hok
          · have hc2 : t₂.calm = true := by rw [← Thread.calm_forget, ht, Thread.calm_forget]; exact hok
            rcases sstep_single den prog w s₂ t₂ hc2 hz with e3 | e3
            · exact e3
            · rw [h2] at e3; cases e3
          · exact sstep_mild den prog w s₂ t₂ (mild_forget hs ht hok) hz
        simp only [schedN, e3, h2, Step.lift]; exact h4
end
end Mine
end

-- part Adq2
section
open PySem
namespace Mine
set_option maxRecDepth 100000

section
variable {M : Model} {R : Result → Shared → Prop}

abbrev Good (M : Model) (R : Result → Shared → Prop) (s : Shared) (t : Thread) : Prop := EndsK M.den M.prog M.w R s t

theorem good_step {s s' : Shared} {t t' : Thread} (h : M.step s t = .go s' t') (k : Good M R s' t') : Good M R s t := by
  have hl : t.loud = false := by
    cases e : t.loud with
    | false => rfl
    | true => rw [M.step_loud e] at h; cases h
  rw [M.step_quiet hl] at h
  have hc : t.calm = true := by
    rw [Thread.calm_eq, hl]
    cases hr : t.refused with
    | false => rfl
    | true =>
      obtain ⟨what, e⟩ := stepK_refused M.den M.prog M.w (s := s) hr
      rw [e] at h; cases h
  exact .go (.inl hc) h k
theorem good_reach {base : List Frame} {s t c p pre s' e} (h : Reach M base s t c p pre s' e)
    (k : ∀ t' c' p' pre', Exits e t' c' p' pre' → Good M R s' ⟨t', c', p', pre' ++ base⟩) : Good M R s ⟨t, c, p, pre ++ base⟩ := by
  induction h with
  | exit hx => exact k _ _ _ _ hx
  | step hs _ ih => exact good_step hs (ih k)
/-- what the library's logic says of a tree, met on the machine -/
theorem good_wp {α : Type} {c : Code} {base : List Frame} (K : α → Sem Fin) (H : Value → Sem Fin) (gd : Bool → Bool) (lv : List Value → List Value) (m : Sem α) :
    ∀ {Q : α → Pos → Shared → Prop} {E : Value → Pos → Shared → Prop} {p : Pos} {s : Shared}, Sem.wp M (Ctx.of c base) m Q E p s →
      (∀ a p' s', Q a p' s' → Good M R s' ⟨K a, c, p', base⟩) → (∀ x p' s', E x p' s' → Good M R s' ⟨H x, c, p', base⟩) → Good M R s ⟨m.wrap K H gd lv, c, p, base⟩ := by
  induction m with
  | pure a => intro Q E p s h hQ _; exact hQ a p s h
  | raise x => intro Q E p s h _ hE; exact hE x p s h
  | unsupported what => intro Q E p s h; exact h.elim
  | finish x => intro Q E p s h; exact h.elim
  | register a k => intro Q E p s h; exact h.elim
  | yield v g l k => intro Q E p s h; exact h.elim
  | fork c k => intro Q E p s h; exact h.elim
  | await a f d l k => intro Q E p s h; exact h.elim
  | rule tag k ih => intro Q E p s h hQ hE; exact good_step (step_rule M s c p base tag _) (ih () h hQ hE)
  | «at» p' k ih => intro Q E p s h hQ hE; exact good_step (step_at M s c p base p' _) (ih () h hQ hE)
  | load a part k ih => intro Q E p s h hQ hE; obtain ⟨o, ho, h⟩ := h; exact good_step (step_load M s c p base part _ ho) (ih o h hQ hE)
  | update a part f k ih => intro Q E p s h hQ hE; obtain ⟨ha, h⟩ := h; exact good_step (step_update M s c p base part f _ ha) (ih () h hQ hE)
  | alloc o k ih => intro Q E p s h hQ hE; exact good_step (step_alloc M s c p base o _) (ih _ h hQ hE)
  | loadIfAlive a k ih => intro Q E p s h hQ hE; exact good_step (step_loadIfAlive M s c p base a _) (ih _ h hQ hE)
  | point l k ih => intro Q E p s h hQ hE; exact good_step (step_point M s c p base _ _) (ih () h hQ hE)
  | fresh k ih => intro Q E p s h hQ hE; exact good_step (step_fresh M s c p base _) (ih _ h hQ hE)
  | ask k ih => intro Q E p s h hQ hE; exact good_step (step_ask M s c p base _) (ih _ h hQ hE)
  | choose src n k ih => intro Q E p s h hQ hE; obtain ⟨hn, h⟩ := h; exact good_step (step_choose M s c p base src _ hn) (ih _ h hQ hE)
  | os q l k ih => intro Q E p s h hQ hE; exact good_step (step_os M s c p base q _ _) (ih _ h hQ hE)
  | call c' h g l k ih =>
    intro Q E p s hw hQ hE
    obtain ⟨r, s₁, hret, hw⟩ := hw
    refine good_step (step_call M s c p base c' h (gd g) (lv l) _) ?_
    have hfit : ((Ctx.of c base).enter c' h p).Fits (.ret (fun x => (k x).wrap K H gd lv) h (gd g) (lv l) c p [] :: base) := (Ctx.fits_of c base).enter c' _ _ _ _ _ _
    have hr := runs_reach hret _ hfit
    have := good_reach (R := R) hr (fun t' c₂ p₂ pre' hx => by
      obtain ⟨rfl, rfl⟩ := hx
      exact good_step (step_leaf_ret M s₁ c₂ p₂ base r _ _ _ _ _ _ _) (ih r hw hQ hE))
    exact this
  | handled own k ih =>
    intro Q E p s h hQ hE
    refine good_step (step_handled M s c p base own _) (ih _ ?_ hQ hE)
    cases own <;> exact h
  | newGen c' k ih => intro Q E p s h hQ hE; exact good_step (step_newGen M s c p base c' _) (ih _ h hQ hE)
  | genState g k ih => intro Q E p s h hQ hE; obtain ⟨st, hg, h⟩ := h; exact good_step (step_genState M s c p base _ hg) (ih _ h hQ hE)
  | resume g r l k ih =>
    intro Q E p s h hQ hE
    obtain ⟨res, s', hwk, hw⟩ := h
    have woken : ∀ {c' : Code} {p₀ : Pos} {t₀ : Sem Fin} {fs : List Frame} {s₀ : Shared}, (∃ e₁ s₁, Runs M ((Ctx.of c base).wake c' p) p₀ t₀ fs s₀ e₁ s₁ ∧ e₁.quiet = true ∧ res = e₁.result ∧ s' = s₁.setGen g e₁.genState) →
        Good M R s₀ ⟨t₀, c', p₀, fs ++ .gen g (fun x => (k x).wrap K H gd lv) (lv l) c p :: base⟩ := by
      intro c' p₀ t₀ fs s₀ hex
      obtain ⟨e₁, s₁, hr, hq, rfl, rfl⟩ := hex
      have hfit : ((Ctx.of c base).wake c' p).Fits (.gen g (fun x => (k x).wrap K H gd lv) (lv l) c p :: base) := (Ctx.fits_of c base).wake c' _ _ _ _
      have hr := runs_reach hr _ hfit
      exact good_reach (R := R) hr fun t' c₂ p₂ pre' hx => good_step (step_exit_gen s₁ g _ _ c p base hx hq) (ih _ hw hQ hE)
    unfold Wakes at hwk
    cases hg : s.gens[g]? with
    | none => rw [hg] at hwk; exact hwk.elim
    | some gs =>
      rw [hg] at hwk
      cases gs with
      | fresh c' =>
        cases r with
        | send v =>
          by_cases hv : v = .none
          · subst hv
            exact good_step (step_resume_fresh M s c p base _ _ hg) (woken (fs := []) hwk)
          · have hwk' : res = .justStarted ∧ s' = s := by cases v <;> first | exact absurd rfl hv | exact hwk
            obtain ⟨rfl, rfl⟩ := hwk'
            exact good_step (step_resume_justStarted M s' c p base _ _ hg hv) (ih _ hw hQ hE)
        | throw x =>
          obtain ⟨rfl, rfl⟩ := hwk
          exact good_step (step_resume_throwFresh M s c p base x _ _ hg) (ih _ hw hQ hE)
      | suspended k₀ l₀ c₀ p₀ fs cl => exact good_step (step_resume_suspended M s c p base r _ _ hg) (woken hwk)
      | running =>
        obtain ⟨rfl, rfl⟩ := hwk
        exact good_step (step_resume_running M s' c p base r _ _ hg) (ih _ hw hQ hE)
      | finished =>
        obtain ⟨rfl, rfl⟩ := hwk
        exact good_step (step_resume_finished M s' c p base r _ _ hg) (ih _ hw hQ hE)
  | stack k ih => intro Q E p s h hQ hE; exact good_step (step_stack M s c p base _) (ih _ h hQ hE)
  | thread k ih => intro Q E p s h hQ hE; exact good_step (step_thread M s c p base _) (ih _ h hQ hE)
end
end Mine
end

-- part Tri
section
open PySem
namespace Mine
set_option maxRecDepth 100000

section
variable {M : Model} {R : Result → Shared → Prop} {α β : Type} {A : Around} {s : Shared}

/-- a tree, met on the machine in every stack -/
def Tri (M : Model) (R : Result → Shared → Prop) (A : Around) (t : Sem α) (Q : α → Shared → Prop) (E : Value → Shared → Prop) (s : Shared) : Prop :=
  ∀ (c : Code) (base : List Frame) (p : Pos) (K : α → Sem Fin) (H : Value → Sem Fin) (gd : Bool → Bool) (lv : List Value → List Value), (Ctx.of c base).In A →
    (∀ a p' s', Q a s' → Good M R s' ⟨K a, c, p', base⟩) → (∀ e p' s', E e s' → Good M R s' ⟨H e, c, p', base⟩) → Good M R s ⟨t.wrap K H gd lv, c, p, base⟩
/-- a code, met on the machine in every stack -/
def CodeTri (M : Model) (R : Result → Shared → Prop) (A : Around) (c : Code) (P : Result → Shared → Prop) (s : Shared) : Prop :=
  ∀ (base : List Frame) (p : Pos), (Ctx.of c base).Below A → (∀ r c' p' s', P r s' → Good M R s' ⟨leafOf r, c', p', base⟩) → Good M R s ⟨M.den c, c, p, base⟩

theorem tri_of_wp {t : Sem α} {Q : α → Shared → Prop} {E : Value → Shared → Prop} (h : wpAny M A t Q E s) : Tri M R A t Q E s :=
  fun c base p K H gd lv hIn hQ hE => good_wp K H gd lv t (h _ p hIn) hQ hE
theorem tri_mono {t : Sem α} {Q Q' : α → Shared → Prop} {E E' : Value → Shared → Prop} (h : Tri M R A t Q E s) (hq : ∀ a s', Q a s' → Q' a s') (he : ∀ e s', E e s' → E' e s') : Tri M R A t Q' E' s :=
  fun c base p K H gd lv hIn hQ hE => h c base p K H gd lv hIn (fun a p' s' x => hQ a p' s' (hq a s' x)) (fun a p' s' x => hE a p' s' (he a s' x))
theorem tri_pure {a : α} {Q : α → Shared → Prop} {E : Value → Shared → Prop} (h : Q a s) : Tri M R A (pure a) Q E s :=
  fun _ _ p _ _ _ _ _ hQ _ => hQ a p s h
theorem tri_throw {e : Value} {Q : α → Shared → Prop} {E : Value → Shared → Prop} (h : E e s) : Tri M R A (throw e : Sem α) Q E s :=
  fun _ _ p _ _ _ _ _ _ hE => hE e p s h
theorem tri_bind {m : Sem α} {f : α → Sem β} {Q : β → Shared → Prop} {E : Value → Shared → Prop} (h : Tri M R A m (fun a s' => Tri M R A (f a) Q E s') E s) : Tri M R A (m >>= f) Q E s := by
  intro c base p K H gd lv hIn hQ hE
  rw [Sem.bind_eq_wrap', Sem.wrap_wrap]
  exact h c base p _ _ _ _ hIn (fun a p' s' x => x c base p' K H gd lv hIn hQ hE) hE
/-- ahead of a part of one's own stands a part of the library's logic -/
theorem tri_after {m : Sem α} {f : α → Sem β} {Q : β → Shared → Prop} {E : Value → Shared → Prop} (h : wpAny M A m (fun a s' => Tri M R A (f a) Q E s') E s) : Tri M R A (m >>= f) Q E s :=
  tri_bind (tri_of_wp h)
theorem tri_tryCatch {m : Sem α} {k : Value → Sem α} {Q : α → Shared → Prop} {E : Value → Shared → Prop} (h : Tri M R A m Q (fun e s' => Tri M R A (k e) Q E s') s) : Tri M R A (tryCatch m k) Q E s := by
  intro c base p K H gd lv hIn hQ hE
  show Good M R s ⟨(m.tryCatch k).wrap K H gd lv, c, p, base⟩
  rw [Sem.tryCatch_eq_wrap, Sem.wrap_wrap]
  exact h c base p _ _ _ _ hIn hQ (fun e p' s' x => x c base p' K H gd lv hIn hQ hE)
theorem tri_onRaise {m : Sem α} {k : Value → Sem Unit} {Q : α → Shared → Prop} {E : Value → Shared → Prop} (h : Tri M R A m Q (fun e s' => Tri M R A (k e) (fun _ s'' => E e s'') E s') s) : Tri M R A (m.onRaise k) Q E s := by
  intro c base p K H gd lv hIn hQ hE
  rw [Sem.onRaise_eq_wrap, Sem.wrap_wrap]
  refine h c base p _ _ _ _ hIn hQ (fun e p' s' x => ?_)
  rw [Sem.bind_eq_wrap, Sem.wrap_wrap]
  exact x c base p' _ _ _ _ hIn (fun _ p'' s'' y => hE e p'' s'' y) hE
theorem tri_holding {vs : List Value} {m : Sem α} {Q : α → Shared → Prop} {E : Value → Shared → Prop} (h : Tri M R A m Q E s) : Tri M R A (holding vs m) Q E s := by
  intro c base p K H gd lv hIn hQ hE
  unfold holding
  first
    | (rw [Sem.keep_eq_wrap, Sem.wrap_wrap]; exact h c base p _ _ _ _ hIn hQ hE)
    | (split
       · exact h c base p _ _ _ _ hIn hQ hE
       · rw [Sem.keep_eq_wrap, Sem.wrap_wrap]; exact h c base p _ _ _ _ hIn hQ hE)
theorem fits_eq {Γ : Ctx} {st : List Frame} (h : Γ.Fits st) : Γ = Ctx.of Γ.code st := by
  obtain ⟨c, a, b, d, e⟩ := Γ
  obtain ⟨h1, h2, h3, h4⟩ := h
  dsimp only at h1 h2 h3 h4
  subst h1 h2 h3 h4
  rfl
theorem tri_call {c' : Code} {hd : Option Value} {g : Bool} {l : List Value} {k : Result → Sem α} {Q : α → Shared → Prop} {E : Value → Shared → Prop}
    (hb : ∀ (Γ : Ctx) (p : Pos), Γ.In A → (Γ.enter c' hd p).Below (A.mark hd)) (h : CodeTri M R (A.mark hd) c' (fun r s' => Tri M R A (k r) Q E s') s) : Tri M R A (.call c' hd g l k) Q E s := by
  intro c base p K H gd lv hIn hQ hE
  refine good_step (step_call M s c p base c' hd (gd g) (lv l) _) ?_
  have hfit : ((Ctx.of c base).enter c' hd p).Fits (.ret (fun x => (k x).wrap K H gd lv) hd (gd g) (lv l) c p [] :: base) := (Ctx.fits_of c base).enter c' _ _ _ _ _ _
  have he := fits_eq hfit
  refine h _ p ?_ ?_
  · have := hb _ p hIn
    rw [he] at this
    exact this
  · intro r c₂ p₂ s₂ x
    exact good_step (step_leaf_ret M s₂ c₂ p₂ base r _ _ _ _ _ _ _) (x c base p K H gd lv hIn hQ hE)
theorem wrap_id (m : Sem α) : m.wrap .pure .raise id id = m := by
  induction m <;> simp only [Sem.wrap, id, *]
theorem tri_code {c : Code} {P : Result → Shared → Prop}
    (h : Tri M R (A.under c) (M.den c) (fun fin s' => match fin with | .done f => P (.ok f) s' | .again c' => c'.quiet = true ∧ CodeTri M R A c' P s') (fun e s' => P (.error e) s') s) : CodeTri M R A c P s := by
  intro base p hB hP
  have := h c base p .pure .raise id id hB.in (fun fin p' s' x => ?_) (fun e p' s' x => hP (.error e) c p' s' x)
  · rw [wrap_id] at this; exact this
  · cases fin with
    | done f => exact hP (.ok f) c p' s' x
    | again c' => exact good_step (step_again M s' c p' base c' x.1) (x.2 base p' hB hP)
theorem codeTri_of_any {c : Code} {P : Result → Shared → Prop} (h : codeAny M A c P s) : CodeTri M R A c P s := by
  intro base p hB hP
  obtain ⟨r, s', hr, hR⟩ := h _ p rfl hB
  exact good_reach (R := R) (runs_reach hr base (Ctx.fits_of c base)) fun t' c' p' pre' hx => by
    obtain ⟨rfl, rfl⟩ := hx
    exact hP r c' p' s' hR
theorem codeTri_mono {c : Code} {P P' : Result → Shared → Prop} (h : CodeTri M R A c P s) (hp : ∀ r s', P r s' → P' r s') : CodeTri M R A c P' s :=
  fun base p hB hP => h base p hB fun r c' p' s' x => hP r c' p' s' (hp r s' x)
theorem tri_call' {c' : Code} {hd : Option Value} {g : Bool} {l : List Value} {k : Result → Sem α} {Q : α → Shared → Prop} {E : Value → Shared → Prop}
    (hnb : hd ≠ some byPass) (h : CodeTri M R (A.mark hd) c' (fun r s' => Tri M R A (k r) Q E s') s) : Tri M R A (.call c' hd g l k) Q E s :=
  tri_call (fun _ p hIn => hIn.enter c' hd p hnb) h
/-- the whole run, at the outermost stack -/
theorem tri_top {t : Sem Fin} (hIn : (⟨.builtin "claim.caller" {}, none, none, [], none⟩ : Ctx).In A)
    (h : Tri M R A t (fun fin s' => ∃ f, fin = .done f ∧ R (.ok f) s' ∧ leftWithCleanup s'.gens = false) (fun e s' => R (.error e) s' ∧ leftWithCleanup s'.gens = false) s) :
    Good M R s ⟨t, .builtin "claim.caller" {}, default, []⟩ := by
  have leaf : ∀ (r : Result) (c : Code) (p : Pos) (s' : Shared), R r s' → leftWithCleanup s'.gens = false → Good M R s' ⟨leafOf r, c, p, []⟩ := by
    intro r c p s' hR hl
    have e : M.step s' ⟨leafOf r, c, p, []⟩ = .halt (outcomeOf r) s' := by
      rw [step_leaf_nil]
      unfold finish
      cases r <;> simp [outcomeOf, hl]
    have hloud : Thread.loud ⟨leafOf r, c, p, []⟩ = false := by
      cases hx : Thread.loud ⟨leafOf r, c, p, []⟩ with
      | false => rfl
      | true => rw [M.step_loud hx] at e; cases r <;> cases e
    rw [M.step_quiet hloud] at e
    refine .halt ?_ e hR
    rw [Thread.calm_eq, hloud]
    cases r <;> rfl
  have h2 := h (.builtin "claim.caller" {}) [] default .pure .raise id id hIn (fun fin p' s' x => ?_) (fun e p' s' x => leaf (.error e) _ p' s' x.1 x.2)
  · rw [wrap_id] at h2; exact h2
  · obtain ⟨f, rfl, h1, h2⟩ := x
    exact leaf (.ok f) _ p' s' h1 h2
end
end Mine
end

-- part TopT
section
open PySem PySem.W PySem.Calls PyProof.Rows
namespace Mine
set_option maxRecDepth 100000

/-- a tree that ends well on the machine, whatever is asked of its end -/
def EndsT (M : Model) (t : Sem Value) (G : Result → Shared → Prop) (s : Shared) : Prop :=
  ∀ R : Result → Shared → Prop, Tri M R callerA t (fun v s' => G (.ok (.ret v)) s') (fun e s' => G (.error e) s') s

theorem callFrom_of_specT {c : ClaimW} {tree : List Value → Sem Fin} {w : World} {s : Shared} {free : Addr → Prop} {gens : Prop} {kept : Heap → Prop} (hz : s.asleep) (hgens : s.gens = #[])
    (hspec : ∀ args, c.pre args = true → WData.layableAll args = true →
      ∀ ord : List DictEntry → List DictEntry, (∀ l, (ord l).Perm l) →
      ∃ vs s₁, layAllW c.records (classAt s.heap) w.params ord args s = some (vs, s₁) ∧ ∀ R : Result → Shared → Prop,
        Tri (model c.prog w) R callerA (tree vs) (fun fin s' => ∃ f, fin = .done f ∧ (c.Ends s args vs s₁ (.ok f) s' ∧ s'.os = s.os ∧ AllBare s'.gens ∧ kept s'.heap))
          (fun e s' => c.Ends s args vs s₁ (.error e) s' ∧ s'.os = s.os ∧ AllBare s'.gens ∧ kept s'.heap) s₁) :
    c.CallFrom (fun vs => ⟨tree vs, .builtin "claim.caller" {}, default, []⟩) w free gens kept s := by
  intro args hpre hlay ord hord
  obtain ⟨vs, s₁, hlaid, hcode⟩ := hspec args hpre hlay ord hord
  have hal := layAllW_rest _ _ _ hlaid
  have hgood : Good (model c.prog w) (fun r s' => c.Ends s args vs s₁ r s' ∧ s'.os = s.os ∧ kept s'.heap) s₁ ⟨tree vs, .builtin "claim.caller" {}, default, []⟩ := by
    refine tri_top (A := callerA) caller_in (tri_mono (hcode _) (fun fin s' h => ?_) fun e s' h => ?_)
    · obtain ⟨f, e, h1, h2, h3, h4⟩ := h
      exact ⟨f, e, ⟨h1, h2, h4⟩, leftWithCleanup_false_of_bare h3⟩
    · obtain ⟨h1, h2, h3, h4⟩ := h
      exact ⟨⟨h1, h2, h4⟩, leftWithCleanup_false_of_bare h3⟩
  obtain ⟨k, r, s', s'', hrun, hsched, hfo, hcase, hos, hkp⟩ := endsK_real _ _ _ hgood s₁ _ rfl rfl (Shared.asleep_of_life hal.2.2.2 hz)
  obtain ⟨eh, _, _, eo, _⟩ := Shared.forget_eq hfo
  have hcase := hcase.congr eh
  have hkp : kept s'.heap := by first | exact eh ▸ hkp | (rw [eh] at hkp; exact hkp) | (rw [← eh] at hkp; exact hkp)
  rw [← eo] at hos
  have hlife : s'.heap.life = s.heap.life := (runN_life _ _ _ hrun).trans hal.2.2.2
  refine ⟨vs, s₁, hlaid, k, _, s', hsched, ?_, (fun _ i x hx => by rw [hgens] at hx; simp at hx), hkp, by rw [hlife], Shared.rest_eq hos⟩
  rcases hcase with ⟨v, rfl, d1, d2, d3, d4, d5⟩ | ⟨e, ob, cls, rfl, d1, d2, d3, d4, d5⟩
  · exact .inl ⟨v, rfl, d1, d2, d3, fun b o y _ => d4 b o y, d5⟩
  · exact .inr ⟨e, ob, cls, rfl, d1, d2, d3, d4, fun b o y _ => d5 b o y⟩

theorem open_anyT {r : RowW} {run : Value → List Value → Sem Value} {tree : List Value → Sem Fin} {q : Program} {loose defs kps : List Str} {writes : Bool} {Xt : Shared → Bool} {XP : (Str → Option Value) → Heap → Prop} {α : Type} {Yf : Shared → α} {Ya : World → α} {YP : World → Heap → Prop} {N : Nat}
    (left : LeftO r.prog q loose Xt Yf Ya N) (hY : ∀ w s, Yf s = Ya w → YP w s.heap) (hYk : ∀ w h h', YP w h → (∀ b o, h.get? b = some o → h'.get? b = some o) → YP w h') (hX : ∀ s, Xt s = true → XP (s.heap.nsMap mainGlobals) s.heap) (hXk : ∀ mg h h', XP mg h → (∀ b o, h.get? b = some o → h'.get? b = some o) → XP mg h')
    (hRf : ∀ s, Xt s = true → RecFacts r.records s.heap) (hwr : (!writes || r.records.isEmpty) = true) (ok : (chainsOk q && opensWell r.prog && (frees r && r.within.isEmpty)) = true) (hb : r.prog.bare) (hw : r.promised)
    (ht : ∀ vs (w : World) (s : Shared) mg f (R : Result → Shared → Prop) (Q : Fin → Shared → Prop) (E : Value → Shared → Prop), s.heap.Ns mainGlobals mg → mg r.name = some f → Tri (model r.prog w) R callerA (run f vs) (fun v s' => Q (.done (.ret v)) s') E s → Tri (model r.prog w) R callerA (tree vs) Q E s)
    (pin : ∀ w s, s.heap.isNs mainGlobals = true → Ground q loose [] XP w s (s.heap.nsMap mainGlobals) (s.heap.nsMap builtinsNs) s.heap → ∀ n ∈ defs, isTheDefsW r.prog s.heap n)
    (call : ∀ (w : World) (s₀ s₁ : Shared) (mg mb : Str → Option Value), Ground q loose r.records XP w s₀ mg mb s₁.heap → YP w s₁.heap → ∀ (args : List WData) (vs : List Value) (as : List Addr),
      r.claim.pre args = true → WData.layableAll args = true → Laid r.records w s₀ s₁ args vs as → sysModules < s₀.heap.objs.size → ∃ f, mg r.name = some f ∧
        EndsT (model r.prog w) (run f vs) (fun r' s' => GoodWG r.claim (classAt s₀.heap) (ExcName.means s₀.heap) args s₁ r' s') s₁) : r.claim.HoldsOpenBy (fun vs => ⟨tree vs, .builtin "claim.caller" {}, default, []⟩) defs kps writes := by
  obtain ⟨ok, k5⟩ := Bool.and_eq_true_iff.mp ok
  obtain ⟨hch, o1⟩ := Bool.and_eq_true_iff.mp ok
  obtain ⟨k5, k6⟩ := Bool.and_eq_true_iff.mp k5
  obtain ⟨hsame, hu, ha, hap, hm⟩ := frees_parts k5
  refine ⟨⟨hb, o1, by show r.makers.map _ = []; rw [hm]; rfl⟩, hw.witness, fun w => ⟨(left.behind hX hch w).1, fun s' hs' => ?_⟩⟩
  obtain ⟨s₀, hf, hg0, s, hT, hz, hgens, hg, G00, y⟩ := (left.behind (XP := fun mg h => XP mg h ∧ RecFacts r.records h) (fun s hs => ⟨hX s hs, hRf s hs⟩) hch w).2 s' hs'
  have G0 : Ground q loose [] XP w s (s.heap.nsMap mainGlobals) (s.heap.nsMap builtinsNs) s.heap := ⟨G00.T, G00.B, G00.D, G00.TE, G00.TD, G00.W, G00.X.1, G00.cls, G00.has, G00.apart, G00.once, G00.K⟩
  have RF := G00.X.2
  have hT' := hT
  refine ⟨s₀, hf, hg0, s, hT, pin w s hg G0, RF.1, RF.2.1, ?_⟩
  have hgens : s.gens = #[] := Array.eq_empty_of_size_eq_zero (beq_iff_eq.mp hgens)
  have G : Ground q loose r.records XP w s _ _ s.heap := RF.ground G0
  refine callFrom_of_specT (c := r.claim) hz hgens fun args hpre hlay ord hord => ?_
  obtain ⟨⟨vs, s₁⟩, hlaid⟩ := Option.isSome_iff_exists.mp (layAllW_isSome (P := w.params) (ord := ord) G.has args r.args s (pre_splitW hpre).1)
  have keeps := layAllW_keeps _ _ _ hlaid
  have hal := layAllW_rest _ _ _ hlaid
  obtain ⟨as, hrd, hin, hold⟩ := reads_layAllW hord _ _ _ hlaid hlay s₁.heap (fun _ _ e => e)
  have L : Laid r.records w s s₁ args vs as := ⟨⟨ord, hord, hlaid⟩, hrd, hin, hold, keeps, hal.1.trans hgens, hal.2.2.1⟩
  have G₁ := G.keeps hXk keeps
  obtain ⟨f, hf, h⟩ := call w s s₁ _ _ G₁ (hYk _ _ _ (hY w s y) keeps) args vs as hpre hlay L G.low
  have hi := ident_freeW hu ha hap
  have hwi : r.claim.within = [] := List.isEmpty_iff.mp k6
  refine ⟨vs, s₁, hlaid, fun R => ht vs w s₁ _ f R _ _ G₁.T.g hf (tri_mono (h R) (fun v s' g => ⟨_, rfl, ?_⟩) fun e s' g => ?_)⟩
  · have z := g.laid (c := r.claim) hsame hwi hi L
    exact ⟨z.1, z.2.1, z.2.2, fun q => ⟨namesKept_of hT' hg kps keeps g.2.1.old, noTable hwr q⟩⟩
  · have z := g.laid (c := r.claim) hsame hwi hi L
    exact ⟨z.1, z.2.1, z.2.2, fun q => ⟨namesKept_of hT' hg kps keeps g.2.1.old, noTable hwr q⟩⟩

abbrev WalkT (q : Program) (loose : List Str) (XP : (Str → Option Value) → Heap → Prop) (YP : World → Heap → Prop) (r : RowW) (d : DefRec) (kwd : List (Str × Expr)) (run : Value → List Value → Sem Value) : Prop :=
  ∀ (w : World) (s₀ s₁ : Shared) (mg mb : Str → Option Value), Ground q loose r.records XP w s₀ mg mb s₁.heap → YP w s₁.heap → ∀ (a : Addr) (o : Obj) (pm cd doc dV kV : Value), s₁.heap.get? a = some o →
    o.data = .func { docDef d.name d.params d.body d.scope pm cd doc with defaults := dV, kwdefaults := kV } → s₁.heap.CodeRec cd d.name → Dflts mg s₁.heap d.params kwd dV kV → mg d.name = some (.ref a) → s₁.gens = #[] →
    ∀ (args : List WData) (vals : List Value) (as : List Addr), r.claim.pre args = true → WData.layableAll args = true → ReadsAllW r.records (classAt s₀.heap) s₁.heap vals args as → WellAll w.params s₁.heap vals args → (∀ a ∈ as, (a == sysModules) = false) →
      EndsT (model r.prog w) (run (.ref a) vals) (fun r' s' => GoodWG r.claim (classAt s₀.heap) (ExcName.means s₀.heap) args s₁ r' s') s₁

theorem tri_nsGet {M : Model} {R : Result → Shared → Prop} {A : Around} {α : Type} {a : Addr} {mg : Str → Option Value} {x : Str} {f : Option Value → Sem α} {Q : α → Shared → Prop} {E : Value → Shared → Prop} {s : Shared}
    (hg : s.heap.Ns a mg) (h : Tri M R A (f (mg x)) Q E s) : Tri M R A (nsGet a x >>= f) Q E s := tri_after (wpAny_nsGet hg h)

/-- the library's head, its walk met on the machine -/
theorem PySem.W.holds_open {r : OpenRow} {q : Program} {loose : List Str} {Xt : Shared → Bool} {XP : (Str → Option Value) → Heap → Prop} {α : Type} {Yf : Shared → α} {Ya : World → α} {YP : World → Heap → Prop} {d : DefRec} {kwd : List (Str × Expr)} {N : Nat}
    (left : LeftO r.prog q loose Xt Yf Ya N) (hY : ∀ w s, Yf s = Ya w → YP w s.heap) (hYk : ∀ w h h', YP w h → (∀ b o, h.get? b = some o → h'.get? b = some o) → YP w h')
    (hX : ∀ s, Xt s = true → XP (s.heap.nsMap mainGlobals) s.heap) (hXk : ∀ mg h h', XP mg h → (∀ b o, h.get? b = some o → h'.get? b = some o) → XP mg h')
    (hdef : defOf q r.name = some (d, kwd)) (hp : r.prog.theDef r.name = some (d.params, d.body, d.scope)) (hk : kwWritten? d.params.kwonlyargs d.params.kw_defaults = some kwd) (hRf : ∀ s, Xt s = true → RecFacts r.records s.heap) (hwr : (!r.writes || r.records.isEmpty) = true)
    (k1 : r.wellSaid = true) (ok : (chainsOk q && opensWell r.prog && (frees r.toRowW && r.within.isEmpty)) = true) (hb : r.prog.bare) (hw : r.toRowW.promised)
    (call : WalkT q loose XP YP r.toRowW d kwd fun f vs => PySem.call f vs) : r.Holds := by
  refine ⟨k1, hw, open_anyT (r := r.toRowW) (run := fun f vs => PySem.call f vs) (tree := fun vs => do match ← nsGet mainNs r.name with
      | some f => do ret (← PySem.call f vs)
      | none => unsupported "claim.caller:no-such-global") left hY hYk hX hXk hRf hwr ok hb hw
    (fun vs w s mg f R Q E hg hf h => tri_nsGet hg (by rw [hf]; exact tri_bind (tri_mono h (fun _ _ x => tri_pure x) fun _ _ x => x)))
    (fun w s hg G n hn => ?_) fun w s₀ s₁ mg mb G Y args vs as hpre hlay L low => ?_⟩
  · obtain rfl : n = r.name := by split at hn <;> simp_all
    exact pinned_of_view hg G hdef hp hk
  · obtain ⟨a, o, pm, cd, doc, dV, kV, h1, h2, h3, h4, h5⟩ := G.fn hdef
    exact ⟨.ref a, h1, call w s₀ s₁ mg mb G Y a o pm cd doc dV kV h2 h3 h4 h5 (defOf_name hdef ▸ h1) L.gens args vs as hpre hlay L.reads L.well (L.low low)⟩
end Mine
end

-- part Hd
section
open PySem PySem.W PyProof.Rows
namespace Mine
set_option maxRecDepth 100000 in
set_option maxHeartbeats 8000000 in
open_top hd for PySem.Challenge.rw_bn5032_01
end Mine
end

-- part Base
section
open PySem PySem.W PyProof.Rows
namespace Mine
set_option maxRecDepth 100000
set_option maxHeartbeats 8000000

/-- a mark: the walk stops here -/
def Stop (p : Prop) : Prop := p
theorem stop_ {p : Prop} (h : Stop p) : p := h
theorem Stop.out {p : Prop} (h : p) : Stop p := h

def WPost {σ : Type} (h₀ : Heap) (L : Addr) (s : Shared) (ps : σ → List (Str × Value)) (Led : σ → List (Addr × Obj)) (P : σ → Prop) (μ : σ → Nat) (Q : Flow → Shared → Prop) (c : σ) (f : Flow) (s₂ : Shared) : Prop :=
  match f with
  | .ret v => Q (.ret v) s₂
  | .brk => Q .next s₂
  | _ => ∃ (c' : σ) (h' : Heap) (tk : Nat) (m' : Str → Option Value) (news' : List (Addr × Obj)), s₂ = { s with heap := h', toks := tk } ∧ Fr h₀ L h' m' ∧ News h₀ L h' news' ∧ (∀ p ∈ Led c', p ∈ news') ∧ (∀ p ∈ ps c', m' p.1 = some p.2) ∧ P c' ∧ μ c' < μ c

theorem kstB_self {m : Str → Option Value} {ps : List (Str × Value)} (h : ∀ p ∈ ps, m p.1 = some p.2) : kstB m ps = m := funext fun _ => kstB_eq h fun _ => rfl

theorem my_while {prog : Program} {w : World} {A : Around} {Q : Flow → Shared → Prop} {s : Shared} {env : Env} {h₀ : Heap} {L : Addr} {σ : Type} {test : Expr} {body : List Stmt} {pos : Pos} {m₀ : Str → Option Value} {news : List (Addr × Obj)}
    (ps : σ → List (Str × Value)) (Led : σ → List (Addr × Obj)) (P : σ → Prop) (μ : σ → Nat) (c₀ : σ)
    (F : Fr h₀ L s.heap m₀) (N : News h₀ L s.heap news) (hl : ∀ p ∈ Led c₀, p ∈ news) (hk : ∀ p ∈ ps c₀, m₀ p.1 = some p.2) (hp : P c₀)
    (turn : ∀ (c : σ) (u : Str → Option Value) h tk, P c → Fr h₀ L h (kstB u (ps c)) → News h₀ L h (Led c) →
      wpAny (model prog w) A (isTrue test env (eval test env)) (fun b s₂ =>
        if b = true then wpAny (model prog w) A (execs body env) (WPost h₀ L s ps Led P μ Q c) (fun _ _ => False) s₂ else Q .next s₂) (fun _ _ => False) { s with heap := h, toks := tk }) :
    wpAny (model prog w) A (exec (.While test body [] pos) env) Q (fun _ _ => False) s := by
  refine While_inv2 (fun n m nx => ∃ c : σ, nx = Led c ∧ μ c = n ∧ (∀ p ∈ ps c, m p.1 = some p.2) ∧ P c) F (fun p hp => N p (hl p hp)) ⟨c₀, rfl, rfl, hk, hp⟩ ?_
  rintro n m₁ nx h tk F₁ N₁ ⟨c, rfl, rfl, hk', hp'⟩
  refine wpAny_mono (turn c m₁ h tk hp' (by rw [kstB_self hk']; exact F₁) N₁) (fun b s₂ p => ?_) fun _ _ x => x
  cases b with
  | false => simpa using p
  | true =>
    simp only [if_true] at p ⊢
    refine wpAny_mono p (fun f s₃ q => ?_) fun _ _ x => x
    cases f with
    | ret v => exact q
    | brk => exact q
    | next =>
      obtain ⟨c', h', tk', m', news', rfl, F', N', hn, hk9, hp9, hm9⟩ := q
      exact ⟨h', tk', m', Led c', μ c', rfl, F', fun p hp => N' p (hn p hp), hm9, c', rfl, rfl, hk9, hp9⟩
    | cont =>
      obtain ⟨c', h', tk', m', news', rfl, F', N', hn, hk9, hp9, hm9⟩ := q
      exact ⟨h', tk', m', Led c', μ c', rfl, F', fun p hp => N' p (hn p hp), hm9, c', rfl, rfl, hk9, hp9⟩

theorem wpost_go {σ : Type} {h₀ : Heap} {L : Addr} {s : Shared} {ps : σ → List (Str × Value)} {Led : σ → List (Addr × Obj)} {P : σ → Prop} {μ : σ → Nat} {Q : Flow → Shared → Prop} {c : σ} {h' : Heap} {tk : Nat} {m' : Str → Option Value} {news' : List (Addr × Obj)}
    (c' : σ) (F : Fr h₀ L h' m') (N : News h₀ L h' news') (hl : ∀ p ∈ Led c', p ∈ news') (hk : ∀ p ∈ ps c', m' p.1 = some p.2) (hp : P c') (hm : μ c' < μ c) :
    WPost h₀ L s ps Led P μ Q c .next { s with heap := h', toks := tk } := ⟨c', h', tk, m', news', rfl, F, N, hl, hk, hp, hm⟩
theorem wpost_ret {σ : Type} {h₀ : Heap} {L : Addr} {s s₂ : Shared} {ps : σ → List (Str × Value)} {Led : σ → List (Addr × Obj)} {P : σ → Prop} {μ : σ → Nat} {Q : Flow → Shared → Prop} {c : σ} {v : Value} (h : Q (.ret v) s₂) :
    WPost h₀ L s ps Led P μ Q c (.ret v) s₂ := h
theorem wpost_brk {σ : Type} {h₀ : Heap} {L : Addr} {s s₂ : Shared} {ps : σ → List (Str × Value)} {Led : σ → List (Addr × Obj)} {P : σ → Prop} {μ : σ → Nat} {Q : Flow → Shared → Prop} {c : σ} (h : Q .next s₂) :
    WPost h₀ L s ps Led P μ Q c .brk s₂ := h
theorem wpost_cont {σ : Type} {h₀ : Heap} {L : Addr} {s : Shared} {ps : σ → List (Str × Value)} {Led : σ → List (Addr × Obj)} {P : σ → Prop} {μ : σ → Nat} {Q : Flow → Shared → Prop} {c : σ} {h' : Heap} {tk : Nat} {m' : Str → Option Value} {news' : List (Addr × Obj)}
    (c' : σ) (F : Fr h₀ L h' m') (N : News h₀ L h' news') (hl : ∀ p ∈ Led c', p ∈ news') (hk : ∀ p ∈ ps c', m' p.1 = some p.2) (hp : P c') (hm : μ c' < μ c) :
    WPost h₀ L s ps Led P μ Q c .cont { s with heap := h', toks := tk } := ⟨c', h', tk, m', news', rfl, F, N, hl, hk, hp, hm⟩
end Mine
end

-- part Base2
section
open PySem PySem.W PyProof.Rows
namespace Mine
set_option maxRecDepth 100000
set_option maxHeartbeats 8000000

section
variable {prog : Program} {w : World} {A : Around} {E : Value → Shared → Prop} {s : Shared} {h₀ : Heap} {L : Addr} {m : Str → Option Value} {news news' : List (Addr × Obj)}

theorem last_K {value slice : Expr} {l : Addr} {vs : List Value} {v : Value} {n : Nat} {u : Tok} {Q : Value → Shared → Prop} (N : News h₀ L s.heap news) (hm : (l, listOf (vs ++ [v]).toArray n) ∈ news) (hz : vs.length < 16777216) (h : Q v s)
    (hs : subscripted slice false (.ref l) (.int (-1) u) = operate [.ref l, .int (-1) u] (getItem (.ref l) (.int (-1) u)) := by with_unfolding_all rfl) :
    wpAny (model prog w) A (subscriptTail value slice (.ref l) (.int (-1) u)) Q E s := by
  have hl : s.heap.IsList l (vs ++ [v]).toArray := N.isList hm
  have hsz : (vs ++ [v]).toArray.size = vs.length + 1 := by simp
  have e : ((-1 : Int) + ((vs.length + 1 : Nat) : Int)).toNat = vs.length := by omega
  exact tail_any hl.typeIs slot_list_getitem.lookup (wpAny_getItem_list_neg (x := v) hl (by decide) (by rw [hsz]; omega) (by decide) (by rw [hsz, e]; simp) h) hs

theorem app_K {l : Addr} {vs : List Value} {n : Nat} {x : Value} {Q : Value → Shared → Prop} (F : Fr h₀ L s.heap m) (N : News h₀ L s.heap news) (U : Upd l (listOf vs.toArray n) (listOf (vs ++ [x]).toArray (n + 1)) news news') (hz : vs.length < 16777216)
    (h : ∀ h', Fr h₀ L h' m → News h₀ L h' news' → Q .none { s with heap := h' }) : wpAny (model prog w) A (call (.builtin "list.append") [.ref l, x]) Q E s := by
  refine append_K F N (its := vs.toArray) (n := n) (news' := news') ?_ h (by rw [List.size_toArray, sizeLine_eq]; exact Nat.le_of_lt hz)
  rw [List.push_toArray]
  exact U

/-- a comprehension over a list -/
theorem lc_go {elt : Expr} {x : Str} {scope : Scope} {cl : List (Str × Addr)} {env : Env} {ax : Addr} {items : Array Value} {Q : Value → Shared → Prop} {E' : Value → Shared → Prop}
    (hh : A.handled = none) (F : Fr h₀ L s.heap m) (N : News h₀ L s.heap news) (hl : s.heap.IsList ax items) (hsz : items.size ≤ sizeLine) (G : Value → Value → Prop)
    (elt' : ∀ C v s₃ m₃, v ∈ items → s₃.heap.Ns C m₃ → m₃ x = some v → Fr h₀ L s₃.heap m → News h₀ L s₃.heap news → s.toks ≤ s₃.toks →
      wpAny (model prog w) A (eval elt (compEnvC scope cl C env)) (fun y s₄ => G v y ∧ Keeps s₃ s₄) (fun _ _ => False) s₃)
    (done : ∀ D h' tk ys n, Fr h₀ L h' m → News h₀ L h' ((D, listOf ys n) :: news) → (∀ p ∈ news, p.1 ≠ D) → Paired G items.toList ys.toList → Q (.ref D) { s with heap := h', toks := tk }) :
    wpAny (model prog w) A (pyIter (.ref ax)) (fun it s₂ => ∃ I fp wr n P St, it = .ref I ∧ Walks prog w A I fp wr n P St ∧ n ≤ sizeLine ∧ St 0 s₂.heap ∧ (∀ b ∈ fp, b < s₂.heap.objs.size) ∧
      QuietOnC prog w A env scope cl x [] elt wr P (fun _ => true) G s₂ ∧
      (∀ D h' tk ys (vs : List Value), s₂.heap.get? D = none → h'.IsList D ys → h'.PlainList D ys → vs.length = n → (∀ j v, vs[j]? = some v → P j v) → Paired G (vs.filter fun _ => true) ys.toList →
        (∀ b o, b ∉ wr → s₂.heap.get? b = some o → h'.get? b = some o) → Q (.ref D) { s₂ with heap := h', toks := tk })) E' s := by
  refine wpAny_pyIter_list hl ?_
  obtain ⟨ol, hol, _⟩ := id hl
  have hlt : ax < s.heap.objs.size := Heap.lt_size hol
  have up : ∀ {h' : Heap}, (∀ b o, b ∉ [s.heap.objs.size] → (s.heap.push { cls := .type "list_iterator", data := .fields #[.ref ax, .int 0 0] }).get? b = some o → h'.get? b = some o) → ∀ b o, s.heap.get? b = some o → h'.get? b = some o := fun hk b o e =>
    hk b o (fun hb => absurd (List.mem_singleton.mp hb) (Nat.ne_of_lt (Heap.lt_size e))) (Heap.get?_push_of_some _ e)
  refine ⟨s.heap.objs.size, [s.heap.objs.size, ax], [s.heap.objs.size], items.size, _, _, rfl, Walks.list hh _ ax (Nat.ne_of_lt hlt) items, hsz, ⟨⟨_, Heap.get?_push_size _ rfl, rfl, rfl⟩, hl.push _⟩, ?_, ⟨?_, ?_⟩, ?_⟩
  · intro b hb
    simp only [List.mem_cons, List.not_mem_nil, or_false] at hb
    rw [Heap.size_push]
    rcases hb with rfl | rfl
    · exact Nat.lt_succ_self _
    · exact Nat.lt_succ_of_lt hlt
  · intro C i v s₃ m₃ E'' _ _ _ _ _ _
    exact wpAny_pure ⟨rfl, _, _, rfl, fun _ _ e => e⟩
  · intro C i v s₃ m₃ E'' hC hv _ hn hm hk ht
    refine wpAny_noRaise ?_
    exact elt' C v s₃ m₃ (Array.mem_of_getElem? hv) hn hm (F.keeps (up hk)) (N.grown (up hk)) ht
  · intro D h' tk ys vs hD hl' hpl hlen hP hF hk
    have hvs : vs = items.toList := by
      refine List.ext_getElem? fun j => ?_
      by_cases hj : j < vs.length
      · have := hP j vs[j] (by simp [hj])
        rw [List.getElem?_eq_getElem hj, Array.getElem?_toList, this]
      · rw [List.getElem?_eq_none (by omega), List.getElem?_eq_none (by rw [Array.length_toList]; omega)]
    rw [List.filter_eq_self.mpr (fun _ _ => rfl), hvs] at hF
    obtain ⟨n, hn⟩ := hpl
    have hD0 : s.heap.get? D = none := by
      cases e : s.heap.get? D with
      | none => rfl
      | some o => rw [Heap.get?_push_of_some _ e] at hD; cases hD
    have F' := F.keeps (up hk)
    have N' := N.grown (up hk)
    have neN : ∀ p ∈ news, p.1 ≠ D := fun p hp e => by have := (N p hp).1; rw [e, hD0] at this; cases this
    refine done D h' tk ys n F' ?_ neN hF
    intro p hp
    rcases List.mem_cons.mp hp with rfl | hp
    · refine ⟨hn, fun e => ?_, ?_⟩
      · obtain ⟨oL, _, _, hL, _⟩ := F.ns
        have e' : D = L := e
        rw [e', hL] at hD0; cases hD0
      · cases e : h₀.get? D with
        | none => rfl
        | some o => rw [F.keep D o e] at hD0; cases hD0
    · exact N' p hp

/-- a comprehension whose elements are texts: one for each place of the source -/
theorem lc_strs {elt : Expr} {x : Str} {scope : Scope} {cl : List (Str × Addr)} {env : Env} {Q : Value → Shared → Prop} {s₂ : Shared} {I : Addr} {fp wr : List Addr} {n : Nat} {P : Nat → Value → Prop} {St : Nat → Heap → Prop}
    (W : Walks prog w A I fp wr n P St) (hsz : n ≤ sizeLine) (hst : St 0 s₂.heap) (hfp : ∀ b ∈ fp, b < s₂.heap.objs.size) (hP : ∀ i v, P i v → i < n)
    (f : Value → Str) (ks : List Str) (hks : ks.length = n) (hf : ∀ i v, P i v → ks[i]? = some (f v))
    (F : Fr h₀ L s.heap m) (N : News h₀ L s.heap news) (hs2 : ∃ tk0 h2, s₂ = { s with heap := h2, toks := tk0 }) (h2 : ∀ b o, s.heap.get? b = some o → s₂.heap.get? b = some o) (hw : ∀ b ∈ wr, s.heap.get? b = none)
    (elt' : ∀ C i v s₃ m₃, P i v → i < n → s₃.heap.Ns C m₃ → m₃ x = some v → Fr h₀ L s₃.heap m → News h₀ L s₃.heap news → s₂.toks ≤ s₃.toks →
      wpAny (model prog w) A (eval elt (compEnvC scope cl C env)) (fun y s₄ => (∃ t, y = .str (f v) t) ∧ Keeps s₃ s₄) (fun _ _ => False) s₃)
    (done : ∀ D h' tk l k, Fr h₀ L h' m → News h₀ L h' ((D, listOf (strValues l).toArray k) :: news) → (∀ p ∈ news, p.1 ≠ D) → l.map (·.1) = ks → Q (.ref D) { s with heap := h', toks := tk }) :
    ∃ I' fp wr n P St, (.ref I : Value) = .ref I' ∧ Walks prog w A I' fp wr n P St ∧ n ≤ sizeLine ∧ St 0 s₂.heap ∧ (∀ b ∈ fp, b < s₂.heap.objs.size) ∧
      QuietOnC prog w A env scope cl x [] elt wr P (fun _ => true) (fun v y => ∃ t, y = .str (f v) t) s₂ ∧
      (∀ D h' tk ys (vs : List Value), s₂.heap.get? D = none → h'.IsList D ys → h'.PlainList D ys → vs.length = n → (∀ j v, vs[j]? = some v → P j v) → Paired (fun v y => ∃ t, y = .str (f v) t) (vs.filter fun _ => true) ys.toList →
        (∀ b o, b ∉ wr → s₂.heap.get? b = some o → h'.get? b = some o) → Q (.ref D) { s₂ with heap := h', toks := tk }) := by
  have up : ∀ {h' : Heap}, (∀ b o, b ∉ wr → s₂.heap.get? b = some o → h'.get? b = some o) → ∀ b o, s.heap.get? b = some o → h'.get? b = some o := fun hk b o e =>
    hk b o (fun hb => by rw [hw b hb] at e; cases e) (h2 b o e)
  refine ⟨I, fp, wr, n, P, St, rfl, W, hsz, hst, hfp, ⟨?_, ?_⟩, ?_⟩
  · intro C i v s₃ m₃ E'' _ _ _ _ _ _
    exact wpAny_pure ⟨rfl, _, _, rfl, fun _ _ e => e⟩
  · intro C i v s₃ m₃ E'' hC hv _ hn hm hk ht
    refine wpAny_noRaise ?_
    exact elt' C i v s₃ m₃ hv (hP i v hv) hn hm (F.keeps (up hk)) (N.grown (up hk)) ht
  · intro D h' tk ys vs hD hl' hpl hlen hPv hF hk
    rw [List.filter_eq_self.mpr (fun _ _ => rfl)] at hF
    obtain ⟨k, hn⟩ := hpl
    have hD0 : s.heap.get? D = none := by
      cases e : s.heap.get? D with
      | none => rfl
      | some o => rw [h2 _ _ e] at hD; cases hD
    have F' := F.keeps (up hk)
    have N' := N.grown (up hk)
    have neN : ∀ p ∈ news, p.1 ≠ D := fun p hp e => by have := (N p hp).1; rw [e, hD0] at this; cases this
    have key : ∀ (vs ys : List Value), Paired (fun v y => ∃ t, y = .str (f v) t) vs ys → ∃ l, ys = strValues l ∧ l.map (·.1) = vs.map f := by
      intro vs ys hp
      induction hp with
      | nil => exact ⟨[], rfl, rfl⟩
      | @cons v y _ _ h _ ih =>
        obtain ⟨l, e, e'⟩ := ih
        obtain ⟨t, e''⟩ := h
        exact ⟨(f v, t) :: l, by rw [e, e'']; rfl, by rw [List.map_cons, List.map_cons, e']⟩
    obtain ⟨l, e1, e2⟩ := key _ _ hF
    have e3 : ys = (strValues l).toArray := by rw [← e1]
    subst e3
    have e4 : vs.map f = ks := by
      refine List.ext_getElem? fun j => ?_
      by_cases hj : j < vs.length
      · rw [List.getElem?_map, List.getElem?_eq_getElem hj, hf j vs[j] (hPv j _ (by simp [hj]))]; rfl
      · rw [List.getElem?_eq_none (by rw [List.length_map]; omega), List.getElem?_eq_none (by omega)]
    obtain ⟨tk0, h20, e5⟩ := hs2
    rw [e5]
    refine done D h' tk l k F' ?_ neN (e2.trans e4)
    intro p hp
    rcases List.mem_cons.mp hp with rfl | hp
    · refine ⟨hn, fun e => ?_, ?_⟩
      · obtain ⟨oL, _, _, hL, _⟩ := F.ns
        have e' : D = L := e
        rw [e', hL] at hD0; cases hD0
      · cases e : h₀.get? D with
        | none => rfl
        | some o => rw [F.keep D o e] at hD0; cases hD0
    · exact N' p hp

theorem lc_range {elt : Expr} {x : Str} {scope : Scope} {cl : List (Str × Addr)} {env : Env} {Q : Value → Shared → Prop} {E' : Value → Shared → Prop} {r : Addr} {n : Nat} {t₁ u₁ v₁ : Tok}
    (hh : A.handled = none) (F : Fr h₀ L s.heap m) (N : News h₀ L s.heap news) (hr : IsRange s.heap r 0 (n : Int) 1 t₁ u₁ v₁) (hsz : n ≤ 1000) (g : Nat → Str) (f : Value → Str) (hfg : ∀ (i : Nat) (t : Tok), f (.int i t) = g i)
    (elt' : ∀ C (i : Nat) t s₃ m₃, i < n → s₃.heap.Ns C m₃ → m₃ x = some (.int i t) → Fr h₀ L s₃.heap m → News h₀ L s₃.heap news → s.toks ≤ s₃.toks →
      wpAny (model prog w) A (eval elt (compEnvC scope cl C env)) (fun y s₄ => (∃ t, y = .str (g i) t) ∧ Keeps s₃ s₄) (fun _ _ => False) s₃)
    (done : ∀ D h' tk l k, Fr h₀ L h' m → News h₀ L h' ((D, listOf (strValues l).toArray k) :: news) → (∀ p ∈ news, p.1 ≠ D) → l.map (·.1) = (List.range n).map g → Q (.ref D) { s with heap := h', toks := tk }) :
    wpAny (model prog w) A (pyIter (.ref r)) (fun it s₂ => ∃ I fp wr n P St, it = .ref I ∧ Walks prog w A I fp wr n P St ∧ n ≤ sizeLine ∧ St 0 s₂.heap ∧ (∀ b ∈ fp, b < s₂.heap.objs.size) ∧
      QuietOnC prog w A env scope cl x [] elt wr P (fun _ => true) (fun v y => ∃ t, y = .str (f v) t) s₂ ∧
      (∀ D h' tk ys (vs : List Value), s₂.heap.get? D = none → h'.IsList D ys → h'.PlainList D ys → vs.length = n → (∀ j v, vs[j]? = some v → P j v) → Paired (fun v y => ∃ t, y = .str (f v) t) (vs.filter fun _ => true) ys.toList →
        (∀ b o, b ∉ wr → s₂.heap.get? b = some o → h'.get? b = some o) → Q (.ref D) { s₂ with heap := h', toks := tk })) E' s := by
  have hs1 : Builtin.Range.rangeSize 0 (n : Int) 1 = (n : Int) := by rw [rangeSize_one]; split <;> omega
  refine wpAny_pyIter_range hr ?_ ?_
  · exact small_one (by decide) (by decide) (by omega) (by omega)
  have hfr : ∀ b ∈ [s.heap.objs.size], s.heap.get? b = none := fun b hb => by
    rw [List.mem_singleton.mp hb]
    cases e : s.heap.get? s.heap.objs.size with
    | none => rfl
    | some o => exact absurd (Heap.lt_size e) (Nat.lt_irrefl _)
  refine lc_strs (s := s) (Walks.range hh _ 0 1 n).bound (by rw [sizeLine_eq]; omega) ?_ ?_ (fun i v h => h.1) f ((List.range n).map g) (by simp) ?_ F N ⟨_, _, rfl⟩ (fun b o e => Heap.get?_push_of_some _ e) hfr ?_ done
  · show IsRangeIter _ _ _ _ _
    rw [hs1]
    simpa using Heap.get?_push_size _ rfl
  · intro b hb
    rw [List.mem_singleton.mp hb, Heap.size_push]
    exact Nat.lt_succ_self _
  · rintro i v ⟨hi, t, rfl⟩
    have e : (0 + (i : Int) * 1) = (i : Int) := by omega
    rw [e, hfg]
    simp [hi]
  · rintro C i v s₃ m₃ ⟨_, t, rfl⟩ hi hn hm F3 N3 ht
    have e : (0 + (i : Int) * 1) = (i : Int) := by omega
    rw [e] at hm ⊢
    refine wpAny_mono (elt' C i t s₃ m₃ hi hn hm F3 N3 ht) (fun y s₄ h => ?_) fun _ _ h => h
    rw [hfg]; exact h

theorem lc_tuple {elt : Expr} {x : Str} {scope : Scope} {cl : List (Str × Addr)} {env : Env} {Q : Value → Shared → Prop} {E' : Value → Shared → Prop} {ax : Addr} {vs : List Value}
    (hh : A.handled = none) (F : Fr h₀ L s.heap m) (N : News h₀ L s.heap news) (hl : s.heap.IsTuple ax vs.toArray) (hsz : vs.length ≤ 1000) (f : Value → Str)
    (elt' : ∀ C v s₃ m₃, v ∈ vs → s₃.heap.Ns C m₃ → m₃ x = some v → Fr h₀ L s₃.heap m → News h₀ L s₃.heap news → s.toks ≤ s₃.toks →
      wpAny (model prog w) A (eval elt (compEnvC scope cl C env)) (fun y s₄ => (∃ t, y = .str (f v) t) ∧ Keeps s₃ s₄) (fun _ _ => False) s₃)
    (done : ∀ D h' tk l k, Fr h₀ L h' m → News h₀ L h' ((D, listOf (strValues l).toArray k) :: news) → (∀ p ∈ news, p.1 ≠ D) → l.map (·.1) = vs.map f → Q (.ref D) { s with heap := h', toks := tk }) :
    wpAny (model prog w) A (pyIter (.ref ax)) (fun it s₂ => ∃ I fp wr n P St, it = .ref I ∧ Walks prog w A I fp wr n P St ∧ n ≤ sizeLine ∧ St 0 s₂.heap ∧ (∀ b ∈ fp, b < s₂.heap.objs.size) ∧
      QuietOnC prog w A env scope cl x [] elt wr P (fun _ => true) (fun v y => ∃ t, y = .str (f v) t) s₂ ∧
      (∀ D h' tk ys (vs : List Value), s₂.heap.get? D = none → h'.IsList D ys → h'.PlainList D ys → vs.length = n → (∀ j v, vs[j]? = some v → P j v) → Paired (fun v y => ∃ t, y = .str (f v) t) (vs.filter fun _ => true) ys.toList →
        (∀ b o, b ∉ wr → s₂.heap.get? b = some o → h'.get? b = some o) → Q (.ref D) { s₂ with heap := h', toks := tk })) E' s := by
  refine wpAny_pyIter_tuple hl ?_
  obtain ⟨ol, hol, _⟩ := id hl
  have hlt : ax < s.heap.objs.size := Heap.lt_size hol
  have hfr : ∀ b ∈ [s.heap.objs.size], s.heap.get? b = none := fun b hb => by
    rw [List.mem_singleton.mp hb]
    cases e : s.heap.get? s.heap.objs.size with
    | none => rfl
    | some o => exact absurd (Heap.lt_size e) (Nat.lt_irrefl _)
  have hl2 : (s.heap.push { cls := .type "tuple_iterator", data := .fields #[.ref ax, .int 0 0] }).IsTuple ax vs.toArray := by
    obtain ⟨o, ho, r⟩ := hl
    exact ⟨o, Heap.get?_push_of_some _ ho, r⟩
  refine lc_strs (s := s) (Walks.tuple hh _ ax (Nat.ne_of_lt hlt) vs.toArray) (by rw [sizeLine_eq, List.size_toArray]; omega) ⟨⟨_, Heap.get?_push_size _ rfl, rfl, rfl⟩, hl2⟩ ?_ (fun i v h => ?_) f (vs.map f) (by simp) ?_ F N ⟨_, _, rfl⟩ (fun b o e => Heap.get?_push_of_some _ e) hfr ?_ done
  · intro b hb
    simp only [List.mem_cons, List.not_mem_nil, or_false] at hb
    rw [Heap.size_push]
    rcases hb with rfl | rfl
    · exact Nat.lt_succ_self _
    · exact Nat.lt_succ_of_lt hlt
  · exact (Array.getElem?_eq_some_iff.mp h).1
  · intro i v h
    have h' : vs[i]? = some v := by simpa using h
    rw [List.getElem?_map, h']; rfl
  · intro C i v s₃ m₃ hv hi hn hm F3 N3 ht
    exact elt' C v s₃ m₃ (by simpa using Array.mem_of_getElem? hv) hn hm F3 N3 ht
end
end Mine
end

-- part Fmp0
section
open PySem PySem.W PyProof.Rows
namespace Mine

def scan (l : List Nat) (d : Int) (bs bd : Bool) (i : Int) : Option Int :=
  match l with
  | [] => none
  | c :: r =>
    if bs = true then
      if c = 39 then
        if r.head? = some 39 then scan r.tail d bs bd (i + 2) else scan r d false bd (i + 1)
      else scan r d bs bd (i + 1)
    else if bd = true then
      if c = 34 then
        if r.head? = some 34 then scan r.tail d bs bd (i + 2) else scan r d bs false (i + 1)
      else scan r d bs bd (i + 1)
    else if c = 39 then scan r d true bd (i + 1)
    else if c = 34 then scan r d bs true (i + 1)
    else if c = 40 then scan r (d + 1) bs bd (i + 1)
    else if c = 41 then (if d - 1 = 0 then some i else scan r (d - 1) bs bd (i + 1))
    else scan r d bs bd (i + 1)
termination_by l.length
decreasing_by all_goals (simp only [List.length_cons, List.length_tail]; omega)

theorem str_ext {a b : Str} (h : a.cps = b.cps) : a = b := by cases a; cases b; cases h; rfl

theorem charAt_in {x : Str} {i : Int} (h0 : 0 ≤ i) (h1 : i < x.length) : Txt.charAt x i = x.cps[i.toNat]? := by
  unfold Txt.charAt seqIndex?
  have : ¬ i < 0 := by omega
  simp [this, h1, h0]

theorem item_eq_iff {x : Str} {i : Int} {c : Nat} (h0 : 0 ≤ i) (h1 : i < x.length) : ((Txt.item x i == (⟨#[c]⟩ : Str)) = true) ↔ x.cps.toList[i.toNat]? = some c := by
  have h2 : i.toNat < x.cps.size := by simp only [Str.length] at h1; omega
  rw [beq_iff_eq]
  unfold Txt.item
  rw [charAt_in h0 h1]
  rw [Array.getElem?_toList, Array.getElem?_eq_getElem h2]
  simp

theorem drop_cons {l : List Nat} {i : Int} (h0 : 0 ≤ i) (h1 : i < l.length) : ∃ c, l[i.toNat]? = some c ∧ l.drop i.toNat = c :: l.drop (i + 1).toNat := by
  have h2 : i.toNat < l.length := by omega
  refine ⟨l[i.toNat], by simp [h2], ?_⟩
  have : (i + 1).toNat = i.toNat + 1 := by omega
  rw [this, List.drop_eq_getElem_cons h2]

theorem scan_at {x : Str} {i d : Int} {bs bd : Bool} (h0 : 0 ≤ i) (h1 : i < x.length) :
    scan (x.cps.toList.drop i.toNat) d bs bd i =
      if bs = true then
        if (Txt.item x i == (⟨#[39]⟩ : Str)) = true then
          if i + 1 < x.length ∧ (Txt.item x (i + 1) == (⟨#[39]⟩ : Str)) = true then scan (x.cps.toList.drop (i + 2).toNat) d bs bd (i + 2) else scan (x.cps.toList.drop (i + 1).toNat) d false bd (i + 1)
        else scan (x.cps.toList.drop (i + 1).toNat) d bs bd (i + 1)
      else if bd = true then
        if (Txt.item x i == (⟨#[34]⟩ : Str)) = true then
          if i + 1 < x.length ∧ (Txt.item x (i + 1) == (⟨#[34]⟩ : Str)) = true then scan (x.cps.toList.drop (i + 2).toNat) d bs bd (i + 2) else scan (x.cps.toList.drop (i + 1).toNat) d bs false (i + 1)
        else scan (x.cps.toList.drop (i + 1).toNat) d bs bd (i + 1)
      else if (Txt.item x i == (⟨#[39]⟩ : Str)) = true then scan (x.cps.toList.drop (i + 1).toNat) d true bd (i + 1)
      else if (Txt.item x i == (⟨#[34]⟩ : Str)) = true then scan (x.cps.toList.drop (i + 1).toNat) d bs true (i + 1)
      else if (Txt.item x i == (⟨#[40]⟩ : Str)) = true then scan (x.cps.toList.drop (i + 1).toNat) (d + 1) bs bd (i + 1)
      else if (Txt.item x i == (⟨#[41]⟩ : Str)) = true then (if d - 1 = 0 then some i else scan (x.cps.toList.drop (i + 1).toNat) (d - 1) bs bd (i + 1))
      else scan (x.cps.toList.drop (i + 1).toNat) d bs bd (i + 1) := by
  obtain ⟨c, hc, hd⟩ := drop_cons (l := x.cps.toList) (i := i) h0 (by simpa [Str.length] using h1)
  have key : ∀ q : Nat, ((x.cps.toList.drop (i + 1).toNat).head? = some q) ↔ (i + 1 < x.length ∧ (Txt.item x (i + 1) == (⟨#[q]⟩ : Str)) = true) := by
    intro q
    by_cases h2 : i + 1 < x.length
    · rw [item_eq_iff (by omega) h2, List.head?_drop]
      exact ⟨fun h => ⟨h2, h⟩, fun h => h.2⟩
    · have : x.cps.toList.drop (i + 1).toNat = [] := List.drop_eq_nil_of_le (by simp only [Str.length] at h2; simp; omega)
      rw [this]
      simp [h2]
  have tl : (x.cps.toList.drop (i + 1).toNat).tail = x.cps.toList.drop (i + 2).toNat := by
    rw [List.tail_drop]
    congr 1
    omega
  have it : ∀ q : Nat, ((Txt.item x i == (⟨#[q]⟩ : Str)) = true) = (c = q) := by
    intro q
    rw [item_eq_iff h0 h1, hc]
    simp
  rw [hd, scan]
  simp only [key, tl, it]

structure FSt where
  i : Int
  ti : Tok
  d : Int
  td : Tok
  bs : Bool
  bd : Bool
  tn : Tok
def FSt.ps (x : Str) (t : Tok) (c : FSt) : List (Str × Value) :=
  [(Str.ofString "text", .str x t), (Str.ofString "n", .int x.length c.tn), (Str.ofString "i", .int c.i c.ti), (Str.ofString "depth", .int c.d c.td), (Str.ofString "in_single", .bool c.bs), (Str.ofString "in_double", .bool c.bd)]
def FSt.ok (x : Str) (k : Int) (c : FSt) : Prop :=
  0 ≤ c.i ∧ c.i ≤ x.length ∧ scan (x.cps.toList.drop c.i.toNat) c.d c.bs c.bd c.i = scan (x.cps.toList.drop k.toNat) 0 false false k

def FmV (v : Value) (o : Option Int) : Prop := match o with
  | some i => ∃ t, v = .int i t
  | none => v = .none

theorem q39 : Str.ofString "'" = (⟨#[39]⟩ : Str) := by decide +kernel
theorem q34 : Str.ofString "\"" = (⟨#[34]⟩ : Str) := by decide +kernel
theorem q40 : Str.ofString "(" = (⟨#[40]⟩ : Str) := by decide +kernel
theorem q41 : Str.ofString ")" = (⟨#[41]⟩ : Str) := by decide +kernel

section
variable {x : Str} {k i d : Int} {ti td tn ti' td' tn' : Tok} {bs bd : Bool}
theorem f1 (h0 : 0 ≤ i) (h1 : i < x.length) (h : scan (x.cps.toList.drop i.toNat) d bs bd i = scan (x.cps.toList.drop k.toNat) 0 false false k)
    (a : bs = true) (b : (Txt.item x i == Str.ofString "'") = true) (c : i + 1 < x.length) (e : (Txt.item x (i + 1) == Str.ofString "'") = true) : FSt.ok x k ⟨i + 2, ti', d, td', bs, bd, tn'⟩ := by
  rw [q39] at b e
  exact ⟨by dsimp only; omega, by dsimp only; omega, by rw [← h, scan_at h0 h1]; simp [a, b, c, e]⟩
theorem f2 (h0 : 0 ≤ i) (h1 : i < x.length) (h : scan (x.cps.toList.drop i.toNat) d bs bd i = scan (x.cps.toList.drop k.toNat) 0 false false k)
    (a : bs = true) (b : (Txt.item x i == Str.ofString "'") = true) (c : i + 1 < x.length) (e : (Txt.item x (i + 1) == Str.ofString "'") = false) : FSt.ok x k ⟨i + 1, ti', d, td', false, bd, tn'⟩ := by
  rw [q39] at b e
  exact ⟨by dsimp only; omega, by dsimp only; omega, by rw [← h, scan_at h0 h1]; simp [a, b, c, e]⟩
theorem f3 (h0 : 0 ≤ i) (h1 : i < x.length) (h : scan (x.cps.toList.drop i.toNat) d bs bd i = scan (x.cps.toList.drop k.toNat) 0 false false k)
    (a : bs = true) (b : (Txt.item x i == Str.ofString "'") = true) (c : ¬ i + 1 < x.length) : FSt.ok x k ⟨i + 1, ti', d, td', false, bd, tn'⟩ := by
  rw [q39] at b
  exact ⟨by dsimp only; omega, by dsimp only; omega, by rw [← h, scan_at h0 h1]; simp [a, b, c]⟩
theorem f4 (h0 : 0 ≤ i) (h1 : i < x.length) (h : scan (x.cps.toList.drop i.toNat) d bs bd i = scan (x.cps.toList.drop k.toNat) 0 false false k)
    (a : bs = true) (b : (Txt.item x i == Str.ofString "'") = false) : FSt.ok x k ⟨i + 1, ti', d, td', bs, bd, tn'⟩ := by
  rw [q39] at b
  exact ⟨by dsimp only; omega, by dsimp only; omega, by rw [← h, scan_at h0 h1]; simp [a, b]⟩
theorem f5 (h0 : 0 ≤ i) (h1 : i < x.length) (h : scan (x.cps.toList.drop i.toNat) d bs bd i = scan (x.cps.toList.drop k.toNat) 0 false false k)
    (a : bs = false) (a' : bd = true) (b : (Txt.item x i == Str.ofString "\"") = true) (c : i + 1 < x.length) (e : (Txt.item x (i + 1) == Str.ofString "\"") = true) : FSt.ok x k ⟨i + 2, ti', d, td', bs, bd, tn'⟩ := by
  rw [q34] at b e
  exact ⟨by dsimp only; omega, by dsimp only; omega, by rw [← h, scan_at h0 h1]; simp [a, a', b, c, e]⟩
theorem f6 (h0 : 0 ≤ i) (h1 : i < x.length) (h : scan (x.cps.toList.drop i.toNat) d bs bd i = scan (x.cps.toList.drop k.toNat) 0 false false k)
    (a : bs = false) (a' : bd = true) (b : (Txt.item x i == Str.ofString "\"") = true) (c : i + 1 < x.length) (e : (Txt.item x (i + 1) == Str.ofString "\"") = false) : FSt.ok x k ⟨i + 1, ti', d, td', bs, false, tn'⟩ := by
  rw [q34] at b e
  exact ⟨by dsimp only; omega, by dsimp only; omega, by rw [← h, scan_at h0 h1]; simp [a, a', b, c, e]⟩
theorem f7 (h0 : 0 ≤ i) (h1 : i < x.length) (h : scan (x.cps.toList.drop i.toNat) d bs bd i = scan (x.cps.toList.drop k.toNat) 0 false false k)
    (a : bs = false) (a' : bd = true) (b : (Txt.item x i == Str.ofString "\"") = true) (c : ¬ i + 1 < x.length) : FSt.ok x k ⟨i + 1, ti', d, td', bs, false, tn'⟩ := by
  rw [q34] at b
  exact ⟨by dsimp only; omega, by dsimp only; omega, by rw [← h, scan_at h0 h1]; simp [a, a', b, c]⟩
theorem f8 (h0 : 0 ≤ i) (h1 : i < x.length) (h : scan (x.cps.toList.drop i.toNat) d bs bd i = scan (x.cps.toList.drop k.toNat) 0 false false k)
    (a : bs = false) (a' : bd = true) (b : (Txt.item x i == Str.ofString "\"") = false) : FSt.ok x k ⟨i + 1, ti', d, td', bs, bd, tn'⟩ := by
  rw [q34] at b
  exact ⟨by dsimp only; omega, by dsimp only; omega, by rw [← h, scan_at h0 h1]; simp [a, a', b]⟩
theorem f9 (h0 : 0 ≤ i) (h1 : i < x.length) (h : scan (x.cps.toList.drop i.toNat) d bs bd i = scan (x.cps.toList.drop k.toNat) 0 false false k)
    (a : bs = false) (a' : bd = false) (b : (Txt.item x i == Str.ofString "'") = true) : FSt.ok x k ⟨i + 1, ti', d, td', true, bd, tn'⟩ := by
  rw [q39] at b
  exact ⟨by dsimp only; omega, by dsimp only; omega, by rw [← h, scan_at h0 h1]; simp [a, a', b]⟩
theorem f10 (h0 : 0 ≤ i) (h1 : i < x.length) (h : scan (x.cps.toList.drop i.toNat) d bs bd i = scan (x.cps.toList.drop k.toNat) 0 false false k)
    (a : bs = false) (a' : bd = false) (b : (Txt.item x i == Str.ofString "'") = false) (b2 : (Txt.item x i == Str.ofString "\"") = true) : FSt.ok x k ⟨i + 1, ti', d, td', bs, true, tn'⟩ := by
  rw [q39] at b; rw [q34] at b2
  exact ⟨by dsimp only; omega, by dsimp only; omega, by rw [← h, scan_at h0 h1]; simp [a, a', b, b2]⟩
theorem f11 (h0 : 0 ≤ i) (h1 : i < x.length) (h : scan (x.cps.toList.drop i.toNat) d bs bd i = scan (x.cps.toList.drop k.toNat) 0 false false k)
    (a : bs = false) (a' : bd = false) (b : (Txt.item x i == Str.ofString "'") = false) (b2 : (Txt.item x i == Str.ofString "\"") = false) (b3 : (Txt.item x i == Str.ofString "(") = true) : FSt.ok x k ⟨i + 1, ti', d + 1, td', bs, bd, tn'⟩ := by
  rw [q39] at b; rw [q34] at b2; rw [q40] at b3
  exact ⟨by dsimp only; omega, by dsimp only; omega, by rw [← h, scan_at h0 h1]; simp [a, a', b, b2, b3]⟩
theorem f12 (h0 : 0 ≤ i) (h1 : i < x.length) (h : scan (x.cps.toList.drop i.toNat) d bs bd i = scan (x.cps.toList.drop k.toNat) 0 false false k)
    (a : bs = false) (a' : bd = false) (b : (Txt.item x i == Str.ofString "'") = false) (b2 : (Txt.item x i == Str.ofString "\"") = false) (b3 : (Txt.item x i == Str.ofString "(") = false) (b4 : (Txt.item x i == Str.ofString ")") = true) (e : ¬ d - 1 = 0) : FSt.ok x k ⟨i + 1, ti', d - 1, td', bs, bd, tn'⟩ := by
  rw [q39] at b; rw [q34] at b2; rw [q40] at b3; rw [q41] at b4
  exact ⟨by dsimp only; omega, by dsimp only; omega, by rw [← h, scan_at h0 h1]; simp [a, a', b, b2, b3, b4, e]⟩
theorem f13 (h0 : 0 ≤ i) (h1 : i < x.length) (h : scan (x.cps.toList.drop i.toNat) d bs bd i = scan (x.cps.toList.drop k.toNat) 0 false false k)
    (a : bs = false) (a' : bd = false) (b : (Txt.item x i == Str.ofString "'") = false) (b2 : (Txt.item x i == Str.ofString "\"") = false) (b3 : (Txt.item x i == Str.ofString "(") = false) (b4 : (Txt.item x i == Str.ofString ")") = false) : FSt.ok x k ⟨i + 1, ti', d, td', bs, bd, tn'⟩ := by
  rw [q39] at b; rw [q34] at b2; rw [q40] at b3; rw [q41] at b4
  exact ⟨by dsimp only; omega, by dsimp only; omega, by rw [← h, scan_at h0 h1]; simp [a, a', b, b2, b3, b4]⟩
theorem f14 (h0 : 0 ≤ i) (h1 : i < x.length) (h : scan (x.cps.toList.drop i.toNat) d bs bd i = scan (x.cps.toList.drop k.toNat) 0 false false k)
    (a : bs = false) (a' : bd = false) (b : (Txt.item x i == Str.ofString "'") = false) (b2 : (Txt.item x i == Str.ofString "\"") = false) (b3 : (Txt.item x i == Str.ofString "(") = false) (b4 : (Txt.item x i == Str.ofString ")") = true) (e : d - 1 = 0) : FmV (.int i ti) (scan (x.cps.toList.drop k.toNat) 0 false false k) := by
  rw [q39] at b; rw [q34] at b2; rw [q40] at b3; rw [q41] at b4
  rw [← h, scan_at h0 h1]; simp [a, a', b, b2, b3, b4, e, FmV]
theorem f15 (h1 : ¬ i < x.length) (h2 : i ≤ x.length) (h : scan (x.cps.toList.drop i.toNat) d bs bd i = scan (x.cps.toList.drop k.toNat) 0 false false k) : FmV .none (scan (x.cps.toList.drop k.toNat) 0 false false k) := by
  have : x.cps.toList.drop i.toNat = [] := List.drop_eq_nil_of_le (by simp only [Str.length] at h1; simp; omega)
  rw [this, scan] at h
  rw [← h]; exact rfl
end
end Mine
end

-- part Fmp
section
open PySem PySem.W PyProof.Rows
namespace Mine
set_option maxRecDepth 100000
set_option maxHeartbeats 8000000

section
local macro_rules | `(tactic| walk_at "exec While") => `(tactic| refine stop_ ?_)

theorem fmp (w : World) (mean : ExcName → Option Value) (mg mb : Str → Option Value) (A A₀ : Around) (env : Env) (outer : List Env) (base h₀ : Heap) (L : Addr) (m : Str → Option Value) (news : List (Addr × Obj)) (s : Shared) (R : Result → Shared → Prop)
   (x : Str) (t : Tok) (k : Int) (tk : Tok) (args : List Value) (hargs : args = [.str x t, .int k tk] ∨ (args = [.str x t] ∧ k = 0))
   (hx : x.length ≤ 1000) (hk0 : 0 ≤ k) (hk1 : k < x.length) (hxk : Txt.item x k = Str.ofString "(")
   (B : Below A₀ base outer h₀) (F : Fr h₀ L s.heap m) (X : (Mine.hd.heap_39 w.params).In h₀) (N : News h₀ L s.heap news)
   (T : Top Mine.hd.view_39 (looseW Mine.hd.view_39 [Str.ofString "find_matching_paren"]) mean mg mb h₀)
   (hf : A.frames = some (env :: outer)) (hL : env.frame = some L) (hk : env.scope.kind = .function) (hd : A.depth + 1 < recursionLimit)
   (ret : ∀ h' tk' v, Fr h₀ L h' m → News h₀ L h' news → FmV v (scan (x.cps.toList.drop k.toNat) 0 false false k) → R (.ok (.ret v)) { s with heap := h', toks := tk' }) :
   codeAny (model PySem.Challenge.rw_bn5032_01.row.prog w) A (.call (.ref 22) ⟨args, []⟩) R s := by
  w_top off; revert X; k_fill; intro X
  have main : ∀ tk, (∀ fd oc od osl, (Mine.hd.heap_39 w.params).lookup 22 = some ⟨oc, od, .func fd, osl⟩ → BindsTo s fd ⟨args, []⟩ [(Str.ofString "text", .str x t), (Str.ofString "start", .int k tk)]) → codeAny (model PySem.Challenge.rw_bn5032_01.row.prog w) A (.call (.ref 22) ⟨args, []⟩) R s := by
    clear hargs tk
    intro tk hb
    refine code_def B F X N T hf hL hk (by k_dflt k_is) (by k_dflt k_is) (by k_dflt ktr_room) (hb _ _ _ _ (by k_dflt k_is)) (by k_dflt (exact locs rfl)) ?_ (by k_dflt (exact rfl)) (by k_dflt (exact rfl)) (by k_dflt (exact rfl)) (by k_dflt decide)
    intro g' L' h' FG' F' N' B' X' T'
    refine wpAny_noRaise ?_
    (try dsimp only); (try k_fold)
    k_steps
    unfold Stop
    refine' my_while (FSt.ps x t) (fun _ => news) (FSt.ok x k) (fun c => x.length + 2 - c.i.toNat) ⟨k, _, 0, _, false, false, _⟩ (by assumption) (by assumption) (fun _ h => h) ?hk ?hp ?ht
    case hk =>
      repeat' (first | exact List.forall_mem_nil _ | refine List.forall_mem_cons.mpr ⟨?_, ?_⟩)
      all_goals exact rfl
    case hp => exact ⟨hk0, Int.le_of_lt hk1, rfl⟩
    rintro ⟨i, ti, d, td, bs, bd, tn⟩ u h tk ⟨hi0, hi1, hsc⟩ F1 N1
    dsimp only [FSt.ps] at F1
    dsimp only at hi0 hi1 hsc
    (try k_fold)
    k_steps
    all_goals first
      | (refine' wpost_cont ⟨_, _, _, _, _, _, _⟩ (by assumption) (by assumption) (fun _ h => h) ?hk ?hp ?hm
         case hk =>
           repeat' (first | exact List.forall_mem_nil _ | refine List.forall_mem_cons.mpr ⟨?_, ?_⟩)
           all_goals exact rfl
         case hp => first | exact f1 hi0 (by assumption) hsc (by assumption) (by assumption) (by assumption) (by assumption) | exact f5 hi0 (by assumption) hsc (by assumption) (by assumption) (by assumption) (by assumption) (by assumption)
         case hm => (dsimp only; omega))
      | (refine' wpost_go ⟨_, _, _, _, _, _, _⟩ (by assumption) (by assumption) (fun _ h => h) ?hk ?hp ?hm
         case hk =>
           repeat' (first | exact List.forall_mem_nil _ | refine List.forall_mem_cons.mpr ⟨?_, ?_⟩)
           all_goals exact rfl
         case hp => first
           | exact f2 hi0 (by assumption) hsc (by assumption) (by assumption) (by assumption) (by assumption)
           | exact f3 hi0 (by assumption) hsc (by assumption) (by assumption) (by assumption)
           | exact f4 hi0 (by assumption) hsc (by assumption) (by assumption)
           | exact f6 hi0 (by assumption) hsc (by assumption) (by assumption) (by assumption) (by assumption) (by assumption)
           | exact f7 hi0 (by assumption) hsc (by assumption) (by assumption) (by assumption) (by assumption)
           | exact f8 hi0 (by assumption) hsc (by assumption) (by assumption) (by assumption)
           | exact f9 hi0 (by assumption) hsc (by assumption) (by assumption) (by assumption)
           | exact f10 hi0 (by assumption) hsc (by assumption) (by assumption) (by assumption) (by assumption)
           | exact f11 hi0 (by assumption) hsc (by assumption) (by assumption) (by assumption) (by assumption) (by assumption)
           | exact f12 hi0 (by assumption) hsc (by assumption) (by assumption) (by assumption) (by assumption) (by assumption) (by assumption) (by assumption)
           | exact f13 hi0 (by assumption) hsc (by assumption) (by assumption) (by assumption) (by assumption) (by assumption) (by assumption)
         case hm => (dsimp only; omega))
      | skip
    · dsimp only; refine wpost_ret ?_; (try dsimp only); k_steps
      exact ret _ _ _ (by assumption) (by assumption) (f14 hi0 (by assumption) hsc (by assumption) (by assumption) (by assumption) (by assumption) (by assumption) (by assumption) (by assumption))
    · exact ret _ _ _ (by assumption) (by assumption) (f15 (by assumption) hi1 hsc)
  rcases hargs with rfl | ⟨rfl, rfl⟩
  · refine main tk fun fd oc od osl e => ?_
    rw [show (Mine.hd.heap_39 w.params).lookup 22 = some _ from by k_dflt k_is] at e
    cases e
    k_dflt (exact binds_K (by k_in) rfl (by k_is) rfl rfl rfl)
  · refine main 189 fun fd oc od osl e => ?_
    rw [show (Mine.hd.heap_39 w.params).lookup 22 = some _ from by k_dflt k_is] at e
    cases e
    k_dflt (exact binds_K (by k_in) rfl (by k_is) rfl rfl rfl)
end
end Mine
end

-- part Strip
section
open PySem PySem.W PyProof.Rows
namespace Mine
set_option maxRecDepth 100000
set_option maxHeartbeats 8000000

def sop (x : Str) : Str :=
  let st := Txt.strip x
  if (st.length : Int) < 2 then x
  else if ¬ (Txt.item st 0 == Str.ofString "(") = true then x
  else if ¬ (Txt.item st (-1) == Str.ofString ")") = true then x
  else match scan st.cps.toList 0 false false 0 with
    | none => x
    | some c => if c = (st.length : Int) - 1 then Txt.slice st (some 1) (some (-1)) else x

theorem ne_false_eq {a b : Str} (h : (a != b) = false) : a = b := by simpa using h
theorem ne_true_ne {a b : Str} (h : (a != b) = true) : a ≠ b := by simpa using h
theorem sop_a {x : Str} (h : ((Txt.strip x).length : Int) < 2) : sop x = x := by unfold sop; rw [if_pos h]
theorem sop_b {x : Str} (h : ¬ ((Txt.strip x).length : Int) < 2) (h2 : (Txt.item (Txt.strip x) 0 != Str.ofString "(") = true) : sop x = x := by
  unfold sop; rw [if_neg h, if_pos (by simpa using h2)]
theorem sop_c {x : Str} (h : ¬ ((Txt.strip x).length : Int) < 2) (h2 : (Txt.item (Txt.strip x) 0 != Str.ofString "(") = false) (h3 : (Txt.item (Txt.strip x) (-1) != Str.ofString ")") = true) : sop x = x := by
  unfold sop; rw [if_neg h, if_neg (by simpa using h2), if_pos (by simpa using h3)]
theorem sop_d {x : Str} (h : ¬ ((Txt.strip x).length : Int) < 2) (h2 : (Txt.item (Txt.strip x) 0 != Str.ofString "(") = false) (h3 : (Txt.item (Txt.strip x) (-1) != Str.ofString ")") = false)
    (hs : scan (List.drop (Int.toNat 0) (Txt.strip x).cps.toList) 0 false false 0 = none) : sop x = x := by
  unfold sop; rw [if_neg h, if_neg (by simpa using h2), if_neg (by simpa using h3)]
  have e : scan (Txt.strip x).cps.toList 0 false false 0 = none := hs
  rw [e]
theorem sop_e {x : Str} {c : Int} (h : ¬ ((Txt.strip x).length : Int) < 2) (h2 : (Txt.item (Txt.strip x) 0 != Str.ofString "(") = false) (h3 : (Txt.item (Txt.strip x) (-1) != Str.ofString ")") = false)
    (hs : scan (List.drop (Int.toNat 0) (Txt.strip x).cps.toList) 0 false false 0 = some c) (hc : c = ((Txt.strip x).length : Int) - 1) : sop x = Txt.slice (Txt.strip x) (some 1) (some (-1)) := by
  unfold sop; rw [if_neg h, if_neg (by simpa using h2), if_neg (by simpa using h3)]
  have e : scan (Txt.strip x).cps.toList 0 false false 0 = some c := hs
  rw [e]; exact if_pos hc
theorem sop_f {x : Str} {c : Int} (h : ¬ ((Txt.strip x).length : Int) < 2) (h2 : (Txt.item (Txt.strip x) 0 != Str.ofString "(") = false) (h3 : (Txt.item (Txt.strip x) (-1) != Str.ofString ")") = false)
    (hs : scan (List.drop (Int.toNat 0) (Txt.strip x).cps.toList) 0 false false 0 = some c) (hc : c ≠ ((Txt.strip x).length : Int) - 1) : sop x = x := by
  unfold sop; rw [if_neg h, if_neg (by simpa using h2), if_neg (by simpa using h3)]
  have e : scan (Txt.strip x).cps.toList 0 false false 0 = some c := hs
  rw [e]; exact if_neg hc
theorem sop_ret {x y : Str} {t : Tok} {h₀ h' : Heap} {L : Addr} {m : Str → Option Value} {news : List (Addr × Obj)} {s : Shared} {tk : Nat} {R : Result → Shared → Prop}
   (ret : ∀ h' tk' t', Fr h₀ L h' m → News h₀ L h' news → R (.ok (.ret (.str (sop x) t'))) { s with heap := h', toks := tk' })
   (F : Fr h₀ L h' m) (N : News h₀ L h' news) (e : sop x = y) : R (.ok (.ret (.str y t))) { s with heap := h', toks := tk } := e ▸ ret _ _ _ F N
section
local macro_rules | `(tactic| walk_at "no such key, one line more") => `(tactic| skip)
local macro_rules | `(tactic| walk_at "call ref") => `(tactic| refine stop_ ?_)

theorem strip_ok (w : World) (mean : ExcName → Option Value) (mg mb : Str → Option Value) (A A₀ : Around) (env : Env) (outer : List Env) (base h₀ : Heap) (L : Addr) (m : Str → Option Value) (news : List (Addr × Obj)) (s : Shared) (R : Result → Shared → Prop)
   (x : Str) (t : Tok) (hx : x.length ≤ 1000)
   (B : Below A₀ base outer h₀) (F : Fr h₀ L s.heap m) (X : (Mine.hd.heap_39 w.params).In h₀) (N : News h₀ L s.heap news)
   (T : Top Mine.hd.view_39 (looseW Mine.hd.view_39 [Str.ofString "find_matching_paren"]) mean mg mb h₀)
   (hf : A.frames = some (env :: outer)) (hL : env.frame = some L) (hk : env.scope.kind = .function) (hd : A.depth + 2 < recursionLimit)
   (ret : ∀ h' tk' t', Fr h₀ L h' m → News h₀ L h' news → R (.ok (.ret (.str (sop x) t'))) { s with heap := h', toks := tk' }) :
   codeAny (model PySem.Challenge.rw_bn5032_01.row.prog w) A (.call (.ref 29) ⟨[.str x t], []⟩) R s := by
  w_top off; revert X; k_fill; intro X
  refine code_def B F X N T hf hL hk (by k_dflt k_is) (by k_dflt k_is) (by k_dflt ktr_room) (by k_dflt (exact BindsTo.of_eq rfl)) (by k_dflt (exact locs rfl)) ?_ (by k_dflt (exact rfl)) (by k_dflt (exact rfl)) (by k_dflt (exact rfl)) (by k_dflt decide)
  intro g' L' h' FG' F' N' B' X' T'
  refine wpAny_noRaise ?_
  (try dsimp only); (try k_fold)
  k_steps
  all_goals (try exact ret _ _ _ (by assumption) (by assumption))
  all_goals (try (refine sop_ret ret (by assumption) (by assumption) ?_; first | exact sop_a (by assumption) | exact sop_b (by assumption) (by assumption) | exact sop_c (by assumption) (by assumption) (by assumption)))
  unfold Stop
  refine wpAny_call ?_
  refine fmp w mean mg mb _ _ _ _ _ _ _ _ _ _ _ _ _ _ _ _ (.inl rfl) (by omega) (by decide) (by omega) (ne_false_eq (by assumption)) B' (by assumption) X' (by assumption) T' (Around.frames_deeper B'.stack) rfl rfl (by k_dflt ktr_room) ?_
  intro h2 tk2 v F2 N2 hv
  dsimp only
  generalize hs : scan (List.drop (Int.toNat 0) (Txt.strip x).cps.toList) 0 false false 0 = sc at hv
  cases sc with
  | none =>
    cases hv
    k_steps
    exact sop_ret ret (by assumption) (by assumption) (sop_d (by assumption) (by assumption) (by assumption) hs)
  | some c =>
    obtain ⟨tc, rfl⟩ := hv
    k_steps
    · exact sop_ret ret (by assumption) (by assumption) (sop_e (by assumption) (by assumption) (by assumption) hs (by assumption))
    · exact sop_ret ret (by assumption) (by assumption) (sop_f (by assumption) (by assumption) (by assumption) hs (by assumption))
end
end Mine
end

-- part Qtp0
section
open PySem PySem.W PyProof.Rows
namespace Mine

def ch (c : Nat) : Str := ⟨#[c]⟩
def tx (l : List Nat) : Str := ⟨l.toArray⟩

def qrun (l : List Nat) (st : Bool) (acc : List (List Nat)) (cur : List Nat) : List (List Nat) :=
  match l with
  | [] => acc ++ [cur]
  | c :: r =>
    if c = 34 then
      if st = true ∧ r.head? = some 34 then qrun r.tail st acc (cur ++ [34]) else qrun r (!st) acc cur
    else if c = 46 ∧ st = false then qrun r st (acc ++ [cur]) []
    else qrun r st acc (cur ++ [c])
termination_by l.length
decreasing_by all_goals (simp only [List.length_cons, List.length_tail]; omega)

def TokIn (Cl : List (Addr × Obj)) (v : Value) (cur : List Nat) : Prop := ∃ a l n, v = .ref a ∧ (a, listOf (strValues l).toArray n) ∈ Cl ∧ l.map (·.1) = cur.map ch ∧ l.length ≤ 1000
theorem TokIn.mono {Cl Cl' : List (Addr × Obj)} {v : Value} {cur : List Nat} (h : TokIn Cl v cur) (hs : ∀ p ∈ Cl, p ∈ Cl') : TokIn Cl' v cur := by
  obtain ⟨a, l, n, e, hm, hl, hz⟩ := h
  exact ⟨a, l, n, e, hs _ hm, hl, hz⟩

structure QSt where
  idx : Nat
  st : Bool
  acc : List (List Nat)
  cur : List Nat
  Cl : List (Addr × Obj)
  vsR : List Value
  nR : Nat
  b : Addr
  lc : List (Str × Tok)
  nC : Nat
  t1 : Tok
  t2 : Tok
  t3 : Tok

def b2i (b : Bool) : Int := if b then 1 else 0

def QSt.ps (x : Str) (t : Tok) (aR : Addr) (c : QSt) : List (Str × Value) :=
  [(Str.ofString "value", .str x t), (Str.ofString "lv", .int x.length c.t1), (Str.ofString "idx", .int c.idx c.t2), (Str.ofString "state", .int (b2i c.st) c.t3), (Str.ofString "result", .ref aR)]
def QSt.led (aR : Addr) (news : List (Addr × Obj)) (c : QSt) : List (Addr × Obj) :=
  (c.b, listOf (strValues c.lc).toArray c.nC) :: (aR, listOf (c.vsR ++ [Value.ref c.b]).toArray c.nR) :: (c.Cl ++ news)
structure QSt.ok (x : Str) (aR : Addr) (news : List (Addr × Obj)) (c : QSt) : Prop where
  le : c.idx ≤ x.length
  run : qrun (x.cps.toList.drop c.idx) c.st c.acc c.cur = qrun x.cps.toList false [] []
  cur : c.lc.map (·.1) = c.cur.map ch
  toks : Paired (TokIn c.Cl) c.vsR c.acc
  ne1 : @Ne Nat c.b aR
  ne2 : ∀ p ∈ c.Cl ++ news, p.1 ≠ aR
  ne3 : ∀ p ∈ c.Cl ++ news, p.1 ≠ c.b
  sz1 : c.vsR.length ≤ c.idx
  sz2 : c.lc.length ≤ c.idx

theorem qrun_at {x : Str} {i : Nat} {st : Bool} {acc : List (List Nat)} {cur : List Nat} (h1 : i < x.length) :
    qrun (x.cps.toList.drop i) st acc cur =
      if (Txt.item x i == ch 34) = true then
        if st = true ∧ (i + 1 < x.length ∧ (Txt.item x ((i : Int) + 1) == ch 34) = true) then qrun (x.cps.toList.drop (i + 2)) st acc (cur ++ [34]) else qrun (x.cps.toList.drop (i + 1)) (!st) acc cur
      else if (Txt.item x i == ch 46) = true ∧ st = false then qrun (x.cps.toList.drop (i + 1)) st (acc ++ [cur]) []
      else qrun (x.cps.toList.drop (i + 1)) st acc (cur ++ [x.cps.toList[i]'(by simpa [Str.length] using h1)]) := by
  have h1' : (i : Int) < x.length := by omega
  have h2 : i < x.cps.toList.length := by simpa [Str.length] using h1
  have hd : x.cps.toList.drop i = x.cps.toList[i] :: x.cps.toList.drop (i + 1) := List.drop_eq_getElem_cons h2
  have it : ∀ q : Nat, ((Txt.item x i == ch q) = true) = (x.cps.toList[i] = q) := by
    intro q
    rw [ch, item_eq_iff (by omega) h1']
    simp [List.getElem?_eq_getElem h2]
  have key : ∀ q : Nat, ((x.cps.toList.drop (i + 1)).head? = some q) ↔ (i + 1 < x.length ∧ (Txt.item x ((i : Int) + 1) == ch q) = true) := by
    intro q
    by_cases h3 : i + 1 < x.length
    · rw [ch, item_eq_iff (by omega) (by omega), List.head?_drop]
      have : ((i : Int) + 1).toNat = i + 1 := by omega
      rw [this]
      exact ⟨fun h => ⟨h3, h⟩, fun h => h.2⟩
    · have : x.cps.toList.drop (i + 1) = [] := List.drop_eq_nil_of_le (by simp only [Str.length] at h3; simp; omega)
      rw [this]
      simp [h3]
  have tl : (x.cps.toList.drop (i + 1)).tail = x.cps.toList.drop (i + 2) := by rw [List.tail_drop]
  rw [hd, qrun]
  simp only [key, tl, it]

theorem item_ch {x : Str} {i : Nat} (h1 : i < x.length) : Txt.item x i = ch (x.cps.toList[i]'(by simpa [Str.length] using h1)) := by
  have h2 : i < x.cps.toList.length := by simpa [Str.length] using h1
  have := (item_eq_iff (x := x) (i := (i : Int)) (c := x.cps.toList[i]) (by omega) (by omega)).mpr (by simp [List.getElem?_eq_getElem h2])
  exact eq_of_beq this

theorem q34c : Str.ofString "\"" = ch 34 := q34
theorem q46c : Str.ofString "." = ch 46 := by decide +kernel

def qspec (x : Str) : List Str := if (Builtin.Str.occurrences x (Str.ofString "\"") 0 x.length 1).isEmpty = true then Txt.split x (Str.ofString ".") else (qrun x.cps.toList false [] []).map tx
theorem qspec_a {x : Str} (h : (Builtin.Str.occurrences x (Str.ofString "\"") 0 x.length 1).isEmpty = true) : qspec x = Txt.split x (Str.ofString ".") := if_pos h
theorem qspec_b {x : Str} (h : (Builtin.Str.occurrences x (Str.ofString "\"") 0 x.length 1).isEmpty = false) : qspec x = (qrun x.cps.toList false [] []).map tx := if_neg (by rw [h]; exact Bool.false_ne_true)
theorem ch_inj : ∀ {a b : List Nat}, a.map ch = b.map ch → a = b
  | [], [], _ => rfl
  | [], _ :: _, h => by cases h
  | _ :: _, [], h => by cases h
  | x :: a, y :: b, h => by
    simp only [List.map_cons, List.cons.injEq] at h
    have h1 : x = y := by
      have := h.1
      unfold ch at this
      simpa using this
    rw [h1, ch_inj h.2]
theorem strValues_inj : ∀ {a b : List (Str × Tok)}, strValues a = strValues b → a.map (·.1) = b.map (·.1)
  | [], [], _ => rfl
  | [], _ :: _, h => by cases h
  | _ :: _, [], h => by cases h
  | x :: a, y :: b, h => by
    simp only [strValues, List.map_cons, List.cons.injEq, Value.str.injEq] at h
    rw [List.map_cons, List.map_cons, h.1.1, strValues_inj (a := a) (b := b) h.2]
theorem TokIn.unique {h₀ h : Heap} {L : Addr} {Led : List (Addr × Obj)} (N : News h₀ L h Led) {v : Value} {c1 c2 : List Nat} (h1 : TokIn Led v c1) (h2 : TokIn Led v c2) : c1 = c2 := by
  obtain ⟨a, l, n, rfl, hm, hl, _⟩ := h1
  obtain ⟨a', l', n', e, hm', hl', _⟩ := h2
  cases e
  have e1 := (N _ hm).1
  have e2 := (N _ hm').1
  dsimp only at e1 e2
  rw [e1] at e2
  have e3 : (strValues l).toArray = (strValues l').toArray := by
    have := Option.some.inj e2
    simp only [Obj.mk.injEq, Data.seq.injEq] at this
    exact this.2.2.1.1
  have e4 : strValues l = strValues l' := by simpa using e3
  refine ch_inj ?_
  rw [← hl, ← hl', strValues_inj e4]
theorem join_ch : ∀ cur : List Nat, Txt.join (Str.ofString "") (cur.map ch) = tx cur := by
  intro cur
  unfold Txt.join
  rw [StrLaws.glued_eq_join]
  have e0 : Str.ofString "" = (⟨#[]⟩ : Str) := by decide +kernel
  rw [e0]
  have key : ∀ l : List Nat, (Str.join (⟨#[]⟩ : Str) (l.map ch)) = tx l := by
    intro l
    induction l with
    | nil => rfl
    | cons c r ih =>
      cases r with
      | nil => rfl
      | cons d r =>
        show ch c ++ ⟨#[]⟩ ++ Str.join ⟨#[]⟩ ((d :: r).map ch) = _
        rw [ih]
        apply str_ext
        show ((#[c] ++ #[]) ++ (d :: r).toArray : Array Nat) = (c :: d :: r).toArray
        simp
  exact key cur
theorem tok_of_mem {Led : List (Addr × Obj)} {vs : List Value} {cs : List (List Nat)} (hT : Paired (TokIn Led) vs cs) {v : Value} (hv : v ∈ vs) : ∃ c, TokIn Led v c := by
  induction hT with
  | nil => cases hv
  | cons h _ ih =>
    rcases List.mem_cons.mp hv with rfl | hv
    · exact ⟨_, h⟩
    · exact ih hv
theorem toks_strs {Led : List (Addr × Obj)} {vs ys : List Value} {cs : List (List Nat)} (hP : Paired (fun v y => ∀ cur, TokIn Led v cur → ∃ t, y = .str (tx cur) t) vs ys) (hT : Paired (TokIn Led) vs cs) : ∃ l, ys = strValues l ∧ l.map (·.1) = cs.map tx := by
  induction hP generalizing cs with
  | nil => cases hT; exact ⟨[], rfl, rfl⟩
  | cons h _ ih =>
    cases hT with
    | @cons _ c1 _ _ h' r =>
      obtain ⟨l, e, e'⟩ := ih r
      obtain ⟨t, e''⟩ := h _ h'
      refine ⟨(tx c1, t) :: l, ?_, ?_⟩
      · rw [e, e'']; rfl
      · rw [List.map_cons, List.map_cons, e']
theorem qend {x : Str} {aR : Addr} {news : List (Addr × Obj)} {c : QSt} (O : QSt.ok x aR news c) (h : ¬ (c.idx : Int) < x.length) (hoc : (Builtin.Str.occurrences x (Str.ofString "\"") 0 x.length 1).isEmpty = false)  (hx : x.length ≤ 1000) :
    qspec x = (c.acc ++ [c.cur]).map tx ∧ Paired (TokIn (QSt.led aR news c)) (c.vsR ++ [Value.ref c.b]) (c.acc ++ [c.cur]) := by
  obtain ⟨le, run, hcur, toks, ne1, ne2, ne3, sz1, sz2⟩ := O
  constructor
  · rw [qspec_b hoc, ← run]
    have : x.cps.toList.drop c.idx = [] := List.drop_eq_nil_of_le (by simp only [Str.length] at h; simp; omega)
    rw [this, qrun]
  · refine (Paired.mono (fun v cur h => TokIn.mono h fun p hp => ?_) toks).snoc ⟨c.b, c.lc, c.nC, rfl, .head _, hcur, by omega⟩
    exact .tail _ (.tail _ (List.mem_append.mpr (.inl hp)))
theorem join_ok {l : List (Str × Tok)} {cur : List Nat} (h : l.map (·.1) = cur.map ch) (hz : l.length ≤ 1000) : JoinOk (Str.ofString "") (l.map (·.1)) = true := by
  unfold JoinOk
  rw [Bool.not_eq_true']
  refine StrLaws.joinFits (B := 1) ?_ ?_
  · intro y hy
    rw [h] at hy
    obtain ⟨c, _, rfl⟩ := List.mem_map.mp hy
    exact Nat.le_refl _
  · have e0 : (Str.ofString "").length = 0 := by decide +kernel
    rw [e0, List.length_map]; omega

theorem strValues_snoc (l : List (Str × Tok)) (y : Str) (t : Tok) : strValues l ++ [Value.str y t] = strValues (l ++ [(y, t)]) := by simp [strValues]

section
variable {x : Str} {aR : Addr} {news : List (Addr × Obj)} {idx : Nat} {acc : List (List Nat)} {cur : List Nat} {Cl : List (Addr × Obj)} {vsR : List Value} {nR nR' : Nat} {b b' : Addr} {lc : List (Str × Tok)} {nC nC' : Nat} {t1 t2 t3 t1' t2' t3' u1 : Tok} {st : Bool}
theorem g1 (O : QSt.ok x aR news ⟨idx, false, acc, cur, Cl, vsR, nR, b, lc, nC, t1, t2, t3⟩) (h1 : (idx : Int) < x.length) (a : (Txt.item x idx == Str.ofString "\"") = true) :
    QSt.ok x aR news ⟨idx + 1, true, acc, cur, Cl, vsR, nR, b, lc, nC, t1', t2', t3'⟩ := by
  obtain ⟨le, run, hcur, toks, ne1, ne2, ne3, sz1, sz2⟩ := O
  dsimp only at *
  rw [q34c] at a
  have h1' : idx < x.length := by omega
  refine ⟨by dsimp only; omega, ?_, hcur, toks, ne1, ne2, ne3, by dsimp only; omega, by dsimp only; omega⟩
  dsimp only
  rw [← run, qrun_at h1']
  simp [a]
theorem g2 (O : QSt.ok x aR news ⟨idx, true, acc, cur, Cl, vsR, nR, b, lc, nC, t1, t2, t3⟩) (h1 : (idx : Int) < x.length) (a : (Txt.item x idx == Str.ofString "\"") = true) (c : ¬ (idx : Int) < (x.length : Int) - 1) :
    QSt.ok x aR news ⟨idx + 1, false, acc, cur, Cl, vsR, nR, b, lc, nC, t1', t2', t3'⟩ := by
  obtain ⟨le, run, hcur, toks, ne1, ne2, ne3, sz1, sz2⟩ := O
  dsimp only at *
  rw [q34c] at a
  have h1' : idx < x.length := by omega
  have c' : ¬ idx + 1 < x.length := by omega
  refine ⟨by dsimp only; omega, ?_, hcur, toks, ne1, ne2, ne3, by dsimp only; omega, by dsimp only; omega⟩
  dsimp only
  rw [← run, qrun_at h1']
  simp [a, c']
theorem g3 (O : QSt.ok x aR news ⟨idx, true, acc, cur, Cl, vsR, nR, b, lc, nC, t1, t2, t3⟩) (h1 : (idx : Int) < x.length) (a : (Txt.item x idx == Str.ofString "\"") = true) (c : (idx : Int) < (x.length : Int) - 1) (e : (Txt.item x ((idx : Int) + 1) == Str.ofString "\"") = false) :
    QSt.ok x aR news ⟨idx + 1, false, acc, cur, Cl, vsR, nR, b, lc, nC, t1', t2', t3'⟩ := by
  obtain ⟨le, run, hcur, toks, ne1, ne2, ne3, sz1, sz2⟩ := O
  dsimp only at *
  rw [q34c] at a e
  have h1' : idx < x.length := by omega
  refine ⟨by dsimp only; omega, ?_, hcur, toks, ne1, ne2, ne3, by dsimp only; omega, by dsimp only; omega⟩
  dsimp only
  rw [← run, qrun_at h1']
  simp [a, e]
theorem g4 (O : QSt.ok x aR news ⟨idx, true, acc, cur, Cl, vsR, nR, b, lc, nC, t1, t2, t3⟩) (h1 : (idx : Int) < x.length) (a : (Txt.item x idx == Str.ofString "\"") = true) (c : (idx : Int) < (x.length : Int) - 1) (e : (Txt.item x ((idx : Int) + 1) == Str.ofString "\"") = true) :
    QSt.ok x aR news ⟨idx + 2, true, acc, cur ++ [34], Cl, vsR, nR, b, lc ++ [(Str.ofString "\"", u1)], nC + 1, t1', t2', t3'⟩ := by
  obtain ⟨le, run, hcur, toks, ne1, ne2, ne3, sz1, sz2⟩ := O
  dsimp only at *
  rw [q34c] at a e
  have h1' : idx < x.length := by omega
  have c' : idx + 1 < x.length := by omega
  refine ⟨by dsimp only; omega, ?_, ?_, toks, ne1, ne2, ne3, by dsimp only; omega, by simp only [List.length_append, List.length_singleton]; omega⟩
  · dsimp only
    rw [← run, qrun_at h1']
    simp [a, c', e]
  · dsimp only
    rw [List.map_append, List.map_append, hcur, q34c]
    rfl
theorem g5 (hx : x.length ≤ 1000) (O : QSt.ok x aR news ⟨idx, false, acc, cur, Cl, vsR, nR, b, lc, nC, t1, t2, t3⟩) (h1 : (idx : Int) < x.length) (a : (Txt.item x idx == Str.ofString "\"") = false) (c : (Txt.item x idx == Str.ofString ".") = true)
    (l1 : b < b' ∧ aR < b' ∧ AllLt b' (Cl ++ news)) :
    QSt.ok x aR news ⟨idx + 1, false, acc ++ [cur], [], (b, listOf (strValues lc).toArray nC) :: Cl, vsR ++ [Value.ref b], nR', b', [], 0, t1', t2', t3'⟩ := by
  obtain ⟨le, run, hcur, toks, ne1, ne2, ne3, sz1, sz2⟩ := O
  obtain ⟨lb, lr, la⟩ := l1
  dsimp only at *
  rw [q34c] at a
  rw [q46c] at c
  have h1' : idx < x.length := by omega
  refine ⟨by dsimp only; omega, ?_, rfl, ?_, ?_, ?_, ?_, by simp only [List.length_append, List.length_singleton]; omega, Nat.zero_le _⟩
  · dsimp only
    rw [← run, qrun_at h1']
    simp [a, c]
  · refine (Paired.mono (fun v cur h => TokIn.mono h fun p hp => .tail _ hp) toks).snoc ⟨b, lc, nC, rfl, .head _, hcur, by omega⟩
  · exact Nat.ne_of_gt lr
  · intro p hp
    rcases List.mem_cons.mp hp with rfl | hp
    · exact ne1
    · exact ne2 p hp
  · intro p hp
    rcases List.mem_cons.mp hp with rfl | hp
    · exact Nat.ne_of_lt lb
    · exact Nat.ne_of_lt (ktn_ltOf la p hp)
theorem g6 (O : QSt.ok x aR news ⟨idx, st, acc, cur, Cl, vsR, nR, b, lc, nC, t1, t2, t3⟩) (h1 : (idx : Int) < x.length) (a : (Txt.item x idx == Str.ofString "\"") = false) (c : (Txt.item x idx == Str.ofString ".") = false ∨ st = true) :
    QSt.ok x aR news ⟨idx + 1, st, acc, cur ++ [x.cps.toList[idx]'(by simp only [Str.length] at h1; simp; omega)], Cl, vsR, nR, b, lc ++ [(Txt.item x idx, u1)], nC + 1, t1', t2', t3'⟩ := by
  obtain ⟨le, run, hcur, toks, ne1, ne2, ne3, sz1, sz2⟩ := O
  dsimp only at *
  rw [q34c] at a
  rw [q46c] at c
  have h1' : idx < x.length := by omega
  have hni : ¬ ((Txt.item x idx == ch 46) = true ∧ st = false) := by
    rintro ⟨h, h'⟩
    rcases c with c | c
    · rw [c] at h; cases h
    · rw [h'] at c; cases c
  refine ⟨by dsimp only; omega, ?_, ?_, toks, ne1, ne2, ne3, by dsimp only; omega, by simp only [List.length_append, List.length_singleton]; omega⟩
  · dsimp only
    rw [← run, qrun_at h1', if_neg (by rw [a]; exact Bool.false_ne_true), if_neg hni]
  · dsimp only
    rw [List.map_append, List.map_append, hcur, item_ch h1']
    rfl
end
end Mine
end

-- part Qtp
section
open PySem PySem.W PyProof.Rows
namespace Mine
set_option maxRecDepth 100000
set_option maxHeartbeats 8000000

section
local macro_rules | `(tactic| walk_at "exec While") => `(tactic| refine stop_ ?_)
local macro_rules | `(tactic| walk_at "eval ListComp") => `(tactic| refine stop_ ?_)
local macro_rules | `(tactic| kspl_size) => `(tactic| (rw [sizeLine_eq]; omega))
local macro_rules | `(tactic| k_all) => `(tactic| assumption)

local macro_rules | `(tactic| walk_at "subscriptTail Name UnaryOp ref int") => `(tactic| (refine' last_K ?N ?m ?z ?_; (case N => assumption); (case m => k_mem); (case z => (try simp only [List.length_append, List.length_cons, List.length_nil]); omega)))
local macro_rules | `(tactic| walk_at "call builtin:list.append") => `(tactic| (refine' app_K ?F ?N ?U ?z ?_; (case F => assumption); (case N => assumption); (case U => k_upd); (case z => (try simp only [strValues, List.length_map, List.length_append, List.length_cons, List.length_nil]); omega); intro h' F' N'))

theorem qtp_ok (w : World) (mean : ExcName → Option Value) (mg mb : Str → Option Value) (A A₀ : Around) (env : Env) (outer : List Env) (base h₀ : Heap) (L : Addr) (m : Str → Option Value) (news : List (Addr × Obj)) (s : Shared) (R : Result → Shared → Prop)
   (x : Str) (t : Tok) (hx : x.length ≤ 1000)
   (B : Below A₀ base outer h₀) (F : Fr h₀ L s.heap m) (X : (Mine.hd.heap_39 w.params).In h₀) (N : News h₀ L s.heap news)
   (T : Top Mine.hd.view_39 (looseW Mine.hd.view_39 [Str.ofString "find_matching_paren"]) mean mg mb h₀)
   (hf : A.frames = some (env :: outer)) (hL : env.frame = some L) (hk : env.scope.kind = .function) (hd : A.depth + 2 < recursionLimit) (hh : A.handled = none)
   (ret : ∀ h' tk' D l n, Fr h₀ L h' m → News h₀ L h' ((D, listOf (strValues l).toArray n) :: news) → (∀ p ∈ news, p.1 ≠ D) → l.map (·.1) = qspec x → R (.ok (.ret (.ref D))) { s with heap := h', toks := tk' }) :
   codeAny (model PySem.Challenge.rw_bn5032_01.row.prog w) A (.call (.ref 34) ⟨[.str x t], []⟩) R s := by
  w_top off; revert X; k_fill; intro X
  refine code_def B F X N T hf hL hk (by k_dflt k_is) (by k_dflt k_is) (by k_dflt ktr_room) (by k_dflt (exact BindsTo.of_eq rfl)) (by k_dflt (exact locs rfl)) ?_ (by k_dflt (exact rfl)) (by k_dflt (exact rfl)) (by k_dflt (exact rfl)) (by k_dflt decide)
  intro g' L' h' FG' F' N' B' X' T'
  refine wpAny_noRaise ?_
  (try dsimp only); (try k_fold)
  k_steps
  · exact ret _ _ _ _ _ (by assumption) (by assumption) (fun p hp => Nat.ne_of_lt ((by assumption : ∀ p ∈ news, p.1 < _) p hp)) (by rw [qspec_a (by assumption)]; assumption)
  unfold Stop
  rename (_ < _ ∧ AllLt _ _) => hAL
  rename (_ = false) => hoc
  obtain ⟨hA1, hA2⟩ := hAL
  rename (∀ p ∈ news, p.1 < _) => hA3
  rename_i tka h5 b0 h4 aR h3 h2 tkb h1 h0 Fx Nx
  refine' my_while (QSt.ps x t aR) (QSt.led aR news) (QSt.ok x aR news) (fun c => x.length - c.idx) ⟨0, false, [], [], [], [], 0, b0, [], 0, _, _, _⟩ Fx Nx ?hl ?hk ?hp ?ht
  case hl =>
    dsimp only [QSt.led]
    exact List.forall_mem_cons.mpr ⟨.tail _ (.head _), List.forall_mem_cons.mpr ⟨.head _, fun _ h => .tail _ (.tail _ h)⟩⟩
  case hk =>
    dsimp only [QSt.ps]
    repeat' (first | exact List.forall_mem_nil _ | refine List.forall_mem_cons.mpr ⟨?_, ?_⟩)
    all_goals exact rfl
  case hp =>
    refine ⟨Nat.zero_le _, by rw [List.drop_zero], rfl, .nil, ?_, ?_, ?_, Nat.zero_le _, Nat.zero_le _⟩
    · exact Nat.ne_of_lt hA1
    · exact fun p hp => Nat.ne_of_lt (ktn_ltOf hA2 p hp)
    · exact fun p hp => Nat.ne_of_lt (hA3 p hp)
  clear hA1 hA2 hA3
  rintro ⟨idx, st, acc, cur, Cl, vsR, nR, b, lc, nC, t1, t2, t3⟩ u h tk O F1 N1
  obtain ⟨le, run, hcur, toks, ne1, ne2, ne3, sz1, sz2⟩ := id O
  dsimp only [QSt.ps, QSt.led] at F1 N1
  dsimp only at le run hcur toks ne1 ne2 ne3 sz1 sz2
  generalize hst : b2i st = sti at F1
  cases st
  · cases hst
    dsimp only [b2i] at F1
    (try k_fold)
    k_steps
    · refine' wpost_go ⟨idx + 1, true, acc, cur, Cl, vsR, nR, b, lc, nC, _, _, _⟩ (by assumption) (by assumption) ?hl ?hk ?hp ?hm
      case hl => exact fun _ h => h
      case hk =>
        dsimp only [QSt.ps]
        repeat' (first | exact List.forall_mem_nil _ | refine List.forall_mem_cons.mpr ⟨?_, ?_⟩)
        all_goals exact rfl
      case hm => dsimp only; omega
      case hp => exact g1 O (by assumption) (by assumption)
    · obtain ⟨b', hl1, NN⟩ : ∃ b', (b < b' ∧ aR < b' ∧ AllLt b' (Cl ++ news)) ∧ News g' L' _ ((b', listOf #[] 0) :: (b, listOf (strValues lc).toArray nC) :: (aR, listOf (vsR ++ [Value.ref b] ++ [Value.ref b']).toArray (nR + 1)) :: (Cl ++ news)) := ⟨_, by assumption, by assumption⟩
      refine' wpost_go ⟨idx + 1, false, acc ++ [cur], [], (b, listOf (strValues lc).toArray nC) :: Cl, vsR ++ [Value.ref b], nR + 1, b', [], 0, _, _, _⟩ (by assumption) NN ?hl ?hk ?hp ?hm
      case hl => exact List.forall_mem_cons.mpr ⟨.head _, List.forall_mem_cons.mpr ⟨.tail _ (.tail _ (.head _)), List.forall_mem_cons.mpr ⟨.tail _ (.head _), fun _ h => .tail _ (.tail _ (.tail _ h))⟩⟩⟩
      case hk =>
        dsimp only [QSt.ps]
        repeat' (first | exact List.forall_mem_nil _ | refine List.forall_mem_cons.mpr ⟨?_, ?_⟩)
        all_goals exact rfl
      case hm => dsimp only; omega
      case hp => exact g5 hx O (by assumption) (by assumption) (by assumption) (by assumption)
    · obtain ⟨u1, NN⟩ : ∃ u1, News g' L' _ ((b, listOf (strValues (lc ++ [(Txt.item x idx, u1)])).toArray (nC + 1)) :: (aR, listOf (vsR ++ [Value.ref b]).toArray nR) :: (Cl ++ news)) := ⟨_, by rw [← strValues_snoc]; assumption⟩
      refine' wpost_go ⟨idx + 1, false, acc, cur ++ [x.cps.toList[idx]'(by simp only [Str.length] at *; simp; omega)], Cl, vsR, nR, b, lc ++ [(Txt.item x idx, u1)], nC + 1, _, _, _⟩ (by assumption) NN ?hl ?hk ?hp ?hm
      case hl => exact fun _ h => h
      case hk =>
        dsimp only [QSt.ps]
        repeat' (first | exact List.forall_mem_nil _ | refine List.forall_mem_cons.mpr ⟨?_, ?_⟩)
        all_goals exact rfl
      case hm => dsimp only; omega
      case hp => exact g6 O (by assumption) (by assumption) (.inl (by assumption))
    · unfold Stop
      k_fold
      refine wpAny_ListComp_free (fun _ => true) (fun v y => ∀ cur, TokIn ((b, listOf (strValues lc).toArray nC) :: (aR, listOf (vsR ++ [Value.ref b]).toArray nR) :: (Cl ++ news)) v cur → ∃ t, y = .str (tx cur) t) rfl (by decide) rfl (by decide) rfl ?_ (by intro _; rfl)
      refine ld F1 rfl ?_
      obtain ⟨q1, q2⟩ := qend O (by assumption) hoc hx
      dsimp only [QSt.led] at q1 q2
      refine lc_go (A := A.deeper _) (s := { s with heap := h, toks := tk }) hh F1 N1 (N1.isList (.tail _ (.head _))) ?_ _ ?_ ?_
      · rw [sizeLine_eq, List.size_toArray, List.length_append]
        exact Nat.le_trans (Nat.add_le_add_right sz1 _) (by simp only [List.length_singleton]; omega)
      · intro C v s₃ m₃ hv hn hm F3 N3 htk
        obtain ⟨cu, hT⟩ := tok_of_mem q2 (by simpa using hv)
        obtain ⟨al, ll, nl, rfl, hml, hll, hzl⟩ := id hT
        k_steps
        refine SC.join (N3.isList hml) rfl (join_ok hll hzl) ?_
        intro t' k'
        refine ⟨fun c2 hT2 => ?_, _, _, rfl, fun _ _ e => e⟩
        rw [TokIn.unique N3 hT2 hT, hll, join_ch]
        exact ⟨_, rfl⟩
      · intro D h' tk ys n FF NN neD hP
        obtain ⟨lf, e1, e2⟩ := toks_strs hP (by simpa using q2)
        have e3 : ys = (strValues lf).toArray := by rw [← e1]
        subst e3
        k_steps
        rename (News h₀ L _ ((D, _) :: _)) => NZ
        exact ret _ _ D lf n (by assumption) (fun p hp => NZ p (by
          rcases List.mem_cons.mp hp with rfl | hp
          · exact .head _
          · exact .tail _ (.tail _ (.tail _ (List.mem_append.mpr (.inr hp)))))) (fun p hp => neD p (.tail _ (.tail _ (List.mem_append.mpr (.inr hp))))) (by rw [e2, q1])
  · cases hst
    dsimp only [b2i] at F1
    (try k_fold)
    k_steps
    · obtain ⟨u1, NN⟩ : ∃ u1, News g' L' _ ((b, listOf (strValues (lc ++ [(Str.ofString "\"", u1)])).toArray (nC + 1)) :: (aR, listOf (vsR ++ [Value.ref b]).toArray nR) :: (Cl ++ news)) := ⟨_, by rw [← strValues_snoc]; assumption⟩
      refine' wpost_go ⟨idx + 2, true, acc, cur ++ [34], Cl, vsR, nR, b, lc ++ [(Str.ofString "\"", u1)], nC + 1, _, _, _⟩ (by assumption) NN ?hl ?hk ?hp ?hm
      case hl => exact fun _ h => h
      case hk =>
        dsimp only [QSt.ps]
        repeat' (first | exact List.forall_mem_nil _ | refine List.forall_mem_cons.mpr ⟨?_, ?_⟩)
        all_goals exact rfl
      case hm => dsimp only; omega
      case hp => exact g4 O (by assumption) (by assumption) (by assumption) (by assumption)
    · refine' wpost_go ⟨idx + 1, false, acc, cur, Cl, vsR, nR, b, lc, nC, _, _, _⟩ (by assumption) (by assumption) ?hl ?hk ?hp ?hm
      case hl => exact fun _ h => h
      case hk =>
        dsimp only [QSt.ps]
        repeat' (first | exact List.forall_mem_nil _ | refine List.forall_mem_cons.mpr ⟨?_, ?_⟩)
        all_goals exact rfl
      case hm => dsimp only; omega
      case hp => exact g3 O (by assumption) (by assumption) (by assumption) (by assumption)
    · refine' wpost_go ⟨idx + 1, false, acc, cur, Cl, vsR, nR, b, lc, nC, _, _, _⟩ (by assumption) (by assumption) ?hl ?hk ?hp ?hm
      case hl => exact fun _ h => h
      case hk =>
        dsimp only [QSt.ps]
        repeat' (first | exact List.forall_mem_nil _ | refine List.forall_mem_cons.mpr ⟨?_, ?_⟩)
        all_goals exact rfl
      case hm => dsimp only; omega
      case hp => exact g2 O (by assumption) (by assumption) (by assumption)
    · obtain ⟨u1, NN⟩ : ∃ u1, News g' L' _ ((b, listOf (strValues (lc ++ [(Txt.item x idx, u1)])).toArray (nC + 1)) :: (aR, listOf (vsR ++ [Value.ref b]).toArray nR) :: (Cl ++ news)) := ⟨_, by rw [← strValues_snoc]; assumption⟩
      refine' wpost_go ⟨idx + 1, true, acc, cur ++ [x.cps.toList[idx]'(by simp only [Str.length] at *; simp; omega)], Cl, vsR, nR, b, lc ++ [(Txt.item x idx, u1)], nC + 1, _, _, _⟩ (by assumption) NN ?hl ?hk ?hp ?hm
      case hl => exact fun _ h => h
      case hk =>
        dsimp only [QSt.ps]
        repeat' (first | exact List.forall_mem_nil _ | refine List.forall_mem_cons.mpr ⟨?_, ?_⟩)
        all_goals exact rfl
      case hm => dsimp only; omega
      case hp => exact g6 O (by assumption) (by assumption) (.inr rfl)
    · obtain ⟨u1, NN⟩ : ∃ u1, News g' L' _ ((b, listOf (strValues (lc ++ [(Txt.item x idx, u1)])).toArray (nC + 1)) :: (aR, listOf (vsR ++ [Value.ref b]).toArray nR) :: (Cl ++ news)) := ⟨_, by rw [← strValues_snoc]; assumption⟩
      refine' wpost_go ⟨idx + 1, true, acc, cur ++ [x.cps.toList[idx]'(by simp only [Str.length] at *; simp; omega)], Cl, vsR, nR, b, lc ++ [(Txt.item x idx, u1)], nC + 1, _, _, _⟩ (by assumption) NN ?hl ?hk ?hp ?hm
      case hl => exact fun _ h => h
      case hk =>
        dsimp only [QSt.ps]
        repeat' (first | exact List.forall_mem_nil _ | refine List.forall_mem_cons.mpr ⟨?_, ?_⟩)
        all_goals exact rfl
      case hm => dsimp only; omega
      case hp => exact g6 O (by assumption) (by assumption) (.inr rfl)
    · unfold Stop
      k_fold
      refine wpAny_ListComp_free (fun _ => true) (fun v y => ∀ cur, TokIn ((b, listOf (strValues lc).toArray nC) :: (aR, listOf (vsR ++ [Value.ref b]).toArray nR) :: (Cl ++ news)) v cur → ∃ t, y = .str (tx cur) t) rfl (by decide) rfl (by decide) rfl ?_ (by intro _; rfl)
      refine ld F1 rfl ?_
      obtain ⟨q1, q2⟩ := qend O (by assumption) hoc hx
      dsimp only [QSt.led] at q1 q2
      refine lc_go (A := A.deeper _) (s := { s with heap := h, toks := tk }) hh F1 N1 (N1.isList (.tail _ (.head _))) ?_ _ ?_ ?_
      · rw [sizeLine_eq, List.size_toArray, List.length_append]
        exact Nat.le_trans (Nat.add_le_add_right sz1 _) (by simp only [List.length_singleton]; omega)
      · intro C v s₃ m₃ hv hn hm F3 N3 htk
        obtain ⟨cu, hT⟩ := tok_of_mem q2 (by simpa using hv)
        obtain ⟨al, ll, nl, rfl, hml, hll, hzl⟩ := id hT
        k_steps
        refine SC.join (N3.isList hml) rfl (join_ok hll hzl) ?_
        intro t' k'
        refine ⟨fun c2 hT2 => ?_, _, _, rfl, fun _ _ e => e⟩
        rw [TokIn.unique N3 hT2 hT, hll, join_ch]
        exact ⟨_, rfl⟩
      · intro D h' tk ys n FF NN neD hP
        obtain ⟨lf, e1, e2⟩ := toks_strs hP (by simpa using q2)
        have e3 : ys = (strValues lf).toArray := by rw [← e1]
        subst e3
        k_steps
        rename (News h₀ L _ ((D, _) :: _)) => NZ
        exact ret _ _ D lf n (by assumption) (fun p hp => NZ p (by
          rcases List.mem_cons.mp hp with rfl | hp
          · exact .head _
          · exact .tail _ (.tail _ (.tail _ (List.mem_append.mpr (.inr hp)))))) (fun p hp => neD p (.tail _ (.tail _ (List.mem_append.mpr (.inr hp))))) (by rw [e2, q1])
end
end Mine
end

-- part Nd0
section
open PySem PySem.W PyProof.Rows
namespace Mine

inductive Nd where
  | bra (ks : List Nd)
  | nam (ps : List (List Nat))
  | lit (p : List Nat)

abbrev dbl (q : Nat) (l : List Nat) : List Nat := StrLaws.dbl q l
abbrev bare (p : List Nat) : Prop := p = [97, 98] ∨ p = [99, 95, 49] ∨ p = [68]
def qname (p : List Nat) : List Nat := if bare p then p else 34 :: (dbl 34 p ++ [34])
def dots : List (List Nat) → List Nat
  | [] => []
  | [p] => qname p
  | p :: r => qname p ++ 46 :: dots r
def gap (i : Nat) : List Nat := if i % 3 = 0 then [32] else if i % 3 = 1 then [] else [32, 111, 114, 32]
def dstr (p : List Nat) : Dat := .str (tx p)
mutual
def Nd.dat : Nd → Dat
  | .bra ks => .list (Nd.dats ks)
  | .nam ps => .tuple (.str (Str.ofString "n") :: ps.map dstr)
  | .lit p => .tuple [.str (Str.ofString "t"), dstr p]
def Nd.dats : List Nd → List Dat
  | [] => []
  | k :: r => k.dat :: Nd.dats r
end
mutual
def Nd.txt : Nd → List Nat
  | .bra ks => Nd.txts ks 0
  | .nam ps => dots ps
  | .lit p => 39 :: (dbl 39 p ++ [39])
def Nd.txts : List Nd → Nat → List Nat
  | [], _ => []
  | k :: r, i => gap i ++ 40 :: (k.txt ++ 41 :: Nd.txts r (i + 1))
end
mutual
def Nd.depth : Nd → Nat
  | .bra ks => Nd.depths ks + 1
  | .nam _ => 0
  | .lit _ => 0
def Nd.depths : List Nd → Nat
  | [] => 0
  | k :: r => max k.depth (Nd.depths r)
end
mutual
/-- the texts of the leaves, as the law lays them -/
def Nd.flat : Nd → List Str
  | .bra ks => Nd.flats ks
  | .nam ps => Str.ofString "n" :: ps.map tx
  | .lit p => [Str.ofString "t", tx p]
def Nd.flats : List Nd → List Str
  | [] => []
  | k :: r => k.flat ++ Nd.flats r
end
mutual
def Nd.count : Nd → Nat
  | .bra ks => Nd.counts ks + 1
  | .nam _ => 1
  | .lit _ => 1
def Nd.counts : List Nd → Nat
  | [] => 0
  | k :: r => k.count + Nd.counts r
end
/-- a text of a leaf: of at most three signs, each of them one of the bits' -/
def sign (c : Nat) : Prop := c = 34 ∨ c = 40 ∨ c = 41 ∨ c = 39 ∨ c = 46 ∨ c = 32 ∨ c = 97
def part (p : List Nat) : Prop := bare p ∨ (p.length ≤ 2 ∧ ∀ c ∈ p, sign c)
mutual
def Nd.ok : Nd → Prop
  | .bra ks => Nd.oks ks
  | .nam ps => (∃ p, ps = [p] ∧ part p) ∨ (∃ p q, ps = [p, q] ∧ part p ∧ part q)
  | .lit p => p.length ≤ 3 ∧ ∀ c ∈ p, sign c
def Nd.oks : List Nd → Prop
  | [] => True
  | k :: r => k.ok ∧ Nd.oks r
end

theorem dbl_len (q : Nat) : ∀ p : List Nat, (dbl q p).length ≤ 2 * p.length
  | [] => Nat.le_refl _
  | c :: r => by
    have h : (StrLaws.dbl q r).length ≤ 2 * r.length := dbl_len q r
    unfold dbl StrLaws.dbl
    split <;> simp only [List.length_cons] <;> omega
theorem gap_len (i : Nat) : (gap i).length ≤ 4 := by
  unfold gap; split
  · exact Nat.le_succ_of_le (Nat.le_succ_of_le (Nat.le_succ _))
  · split <;> simp
theorem qname_len {p : List Nat} (h : part p) : (qname p).length ≤ 6 := by
  unfold qname
  split
  · rename_i hb
    rcases hb with rfl | rfl | rfl <;> simp
  · rename_i hb
    rcases h with h | h
    · exact absurd h hb
    · have := dbl_len 34 p
      simp only [List.length_cons, List.length_append, List.length_nil]
      omega
mutual
theorem Nd.txt_len : ∀ t : Nd, t.ok → t.txt.length + 6 ≤ 26 * t.count
  | .bra ks, h => by
    have := Nd.txts_len ks 0 h
    simp only [Nd.txt, Nd.count]; omega
  | .nam ps, h => by
    simp only [Nd.txt, Nd.count]
    rcases h with ⟨p, rfl, hp⟩ | ⟨p, q, rfl, hp, hq⟩
    · have := qname_len hp
      simp only [dots]; omega
    · have := qname_len hp
      have := qname_len hq
      simp only [dots, List.length_append, List.length_cons]; omega
  | .lit p, h => by
    have := dbl_len 39 p
    have := h.1
    simp only [Nd.txt, Nd.count, List.length_cons, List.length_append, List.length_nil]; omega
theorem Nd.txts_len : ∀ (ks : List Nd) (i : Nat), Nd.oks ks → (Nd.txts ks i).length ≤ 26 * Nd.counts ks
  | [], _, _ => Nat.le_refl _
  | k :: r, i, h => by
    have := Nd.txt_len k h.1
    have := Nd.txts_len r (i + 1) h.2
    have := gap_len i
    simp only [Nd.txts, Nd.counts, List.length_append, List.length_cons]
    omega
end

theorem gap_mod (i : Nat) : gap (i % 3) = gap i := by unfold gap; simp
theorem gap_at0 {i : Nat} (h : i % 3 = 0) : Str.ofString " " = tx (gap i) := by
  unfold gap; rw [if_pos h]; decide +kernel
theorem gap_at1 {i : Nat} (h : i % 3 = 1) : Str.ofString "" = tx (gap i) := by
  unfold gap; rw [if_neg (by omega), if_pos h]; decide +kernel
theorem gap_at2 {i : Nat} (h : i % 3 = 2) : Str.ofString " or " = tx (gap i) := by
  unfold gap; rw [if_neg (by omega), if_neg (by omega)]; decide +kernel
theorem tx_append (a b : List Nat) : tx a ++ tx b = tx (a ++ b) := by
  apply str_ext; show (a.toArray ++ b.toArray : Array Nat) = (a ++ b).toArray; simp
theorem Nd.dats_length : ∀ ks : List Nd, (Nd.dats ks).length = ks.length
  | [] => rfl
  | k :: r => by rw [Nd.dats, List.length_cons, List.length_cons, Nd.dats_length r]
theorem Nd.counts_ge : ∀ ks : List Nd, ks.length ≤ Nd.counts ks
  | [] => Nat.le_refl _
  | k :: r => by
    have := Nd.counts_ge r
    have : 1 ≤ k.count := by cases k <;> simp [Nd.count]
    rw [List.length_cons, Nd.counts]; omega
theorem tx_append' (a b : List Nat) : tx a ++ tx b = tx (a ++ b) := by
  apply str_ext; show (a.toArray ++ b.toArray : Array Nat) = (a ++ b).toArray; simp
theorem Nd.kid : ∀ {ks : List Nd} {i : Nat} {k : Nd}, ks[i]? = some k → Nd.oks ks → k.ok ∧ k.depth ≤ Nd.depths ks ∧ k.count ≤ Nd.counts ks ∧ (Nd.dats ks)[i]? = some k.dat
  | [], _, _, h, _ => by simp at h
  | x :: r, 0, k, h, o => by
    have e : x = k := by simpa using h
    subst e
    exact ⟨o.1, Nat.le_max_left _ _, Nat.le_add_right _ _, rfl⟩
  | x :: r, i + 1, k, h, o => by
    obtain ⟨a, b, c, d⟩ := Nd.kid (ks := r) (i := i) (k := k) (by simpa using h) o.2
    exact ⟨a, Nat.le_trans b (Nat.le_max_right _ _), Nat.le_trans c (Nat.le_add_left _ _), by rw [Nd.dats]; simpa using d⟩
def piece (ks : List Nd) (i : Nat) : Str := tx (gap i ++ 40 :: (((ks[i]?).elim [] Nd.txt) ++ [41]))
theorem join_nil_tx : ∀ ls : List (List Nat), Txt.join (Str.ofString "") (ls.map tx) = tx ls.flatten := by
  intro ls
  unfold Txt.join
  rw [StrLaws.glued_eq_join]
  have e0 : Str.ofString "" = (⟨#[]⟩ : Str) := by decide +kernel
  rw [e0]
  induction ls with
  | nil => rfl
  | cons c r ih =>
    cases r with
    | nil => simp [Str.join]
    | cons d r =>
      show tx c ++ ⟨#[]⟩ ++ Str.join ⟨#[]⟩ ((d :: r).map tx) = _
      rw [ih]
      apply str_ext
      show ((c.toArray ++ #[]) ++ ((d :: r).flatten).toArray : Array Nat) = ((c :: d :: r).flatten).toArray
      simp
theorem txts_pieces : ∀ (ks : List Nd) (j : Nat), ((List.range ks.length).map fun i => gap (i + j) ++ 40 :: (((ks[i]?).elim [] Nd.txt) ++ [41])).flatten = Nd.txts ks j
  | [], _ => rfl
  | k :: r, j => by
    have ih := txts_pieces r (j + 1)
    rw [List.length_cons, List.range_succ_eq_map, List.map_cons, List.flatten_cons, List.map_map, Nd.txts, ← ih]
    simp only [List.getElem?_cons_zero, Option.elim_some, Nat.zero_add, List.append_assoc, List.cons_append, List.nil_append]
    congr 1
    congr 1
    congr 1
    congr 1
    congr 1
    refine List.map_congr_left fun i _ => ?_
    simp only [Function.comp, List.getElem?_cons_succ]
    have : i.succ + j = i + (j + 1) := by omega
    rw [this]
theorem fmod3 {i : Nat} {r : Nat} (h : (i : Int).fmod 3 = (r : Int)) : i % 3 = r := by
  rw [Int.fmod_eq_emod_of_nonneg _ (by decide)] at h; omega
theorem piece_eq {ks : List Nd} {i : Nat} {k : Nd} {g : Str} (hk : ks[i]? = some k) (hg : g = tx (gap i)) : piece ks i = g ++ Str.ofString "(" ++ tx k.txt ++ Str.ofString ")" := by
  have e1 : Str.ofString "(" = tx [40] := by decide +kernel
  have e2 : Str.ofString ")" = tx [41] := by decide +kernel
  unfold piece
  rw [hk, hg, e1, e2, tx_append', tx_append', tx_append']
  simp
theorem strs_values {vs : List Value} {ys : List Str} (h : StrsAre vs ys) : ∃ l, vs = strValues l ∧ l.map (·.1) = ys := by
  induction h with
  | nil => exact ⟨[], rfl, rfl⟩
  | cons y t _ ih =>
    obtain ⟨l, e, e'⟩ := ih
    exact ⟨(y, t) :: l, by rw [e]; rfl, by rw [List.map_cons, e']⟩
theorem pieces_of {vs : List Value} {ks : List Nd} {n : Nat} (hn : n = ks.length) (h : CarriedAll vs ((rangeKs 0 n).map fun k => PyData.str (piece ks k.toNat))) :
    ∃ l, vs = strValues l ∧ l.map (·.1) = (List.range ks.length).map (piece ks) := by
  subst hn
  have e : (rangeKs 0 ks.length).map (fun k => PyData.str (piece ks k.toNat)) = ((List.range ks.length).map (piece ks)).map PyData.str := by
    unfold rangeKs
    rw [List.map_map, List.map_map]
    refine List.map_congr_left fun i _ => ?_
    simp
  rw [e] at h
  exact strs_values (StrsAre.of_carried h)
theorem join_pieces (ks : List Nd) : Txt.join (Str.ofString "") ((List.range ks.length).map (piece ks)) = tx (Nd.txt (.bra ks)) := by
  have := join_nil_tx ((List.range ks.length).map fun i => gap i ++ 40 :: (((ks[i]?).elim [] Nd.txt) ++ [41]))
  rw [List.map_map] at this
  rw [Nd.txt, ← txts_pieces ks 0]
  exact this
theorem joinOk_of {l : List Str} {sep : Str} (hs : sep.length ≤ 1) (h : ∀ y ∈ l, y.length ≤ 1000) (hz : l.length ≤ 1000) : JoinOk sep l = true := by
  unfold JoinOk
  rw [Bool.not_eq_true']
  refine StrLaws.joinFits (B := 1000) h ?_
  have h2 : l.length * sep.length ≤ l.length * 1 := Nat.mul_le_mul_left _ hs
  omega
theorem tx_len (l : List Nat) : (tx l).length = l.length := by unfold tx Str.length; rw [List.size_toArray]
theorem piece_len {ks : List Nd} (ok : Nd.oks ks) (hc : Nd.counts ks ≤ 13) {i : Nat} (hi : i < ks.length) : (piece ks i).length ≤ 400 := by
  have hki : ks[i]? = some ks[i] := by simp [hi]
  obtain ⟨ok', dep', cnt', dat'⟩ := Nd.kid hki ok
  have := Nd.txt_len _ ok'
  have := gap_len i
  unfold piece
  rw [tx_len, hki]
  simp only [Option.elim_some, List.length_append, List.length_cons, List.length_nil]
  omega
theorem dat_strs {news : List (Addr × Obj)} : ∀ {ps : List (List Nat)} {vs : List Value}, DatAll news vs (ps.map dstr) → ∃ l, vs = strValues l ∧ l.map (·.1) = ps.map tx
  | [], _, h => by cases h; exact ⟨[], rfl, rfl⟩
  | p :: r, _, h => by
    cases h with
    | cons h1 h2 =>
      obtain ⟨l, e, e'⟩ := dat_strs h2
      cases h1 with
      | str x t => exact ⟨(tx p, t) :: l, by rw [e]; rfl, by rw [List.map_cons, List.map_cons, e']⟩
def qval : Value → Str
  | .str x _ => tx (qname x.cps.toList)
  | _ => Str.empty
theorem rep34 (p : List Nat) : Txt.replace (tx p) (Str.ofString "\"") (Str.ofString "\"\"") = tx (dbl 34 p) := by
  have e1 : Str.ofString "\"" = (⟨#[34]⟩ : Str) := q34
  have e2 : Str.ofString "\"\"" = (⟨#[34, 34]⟩ : Str) := by decide +kernel
  rw [e1, e2]
  apply str_ext
  rw [← Array.toList_inj]
  exact StrLaws.replace_double (tx p) 34
def bares : List Str := [Str.ofString "ab", Str.ofString "c_1", Str.ofString "D"]
theorem bare_any (p : List Nat) : (bares.any (· == tx p)) = decide (bare p) := by
  have e1 : Str.ofString "ab" = tx [97, 98] := by decide +kernel
  have e2 : Str.ofString "c_1" = tx [99, 95, 49] := by decide +kernel
  have e3 : Str.ofString "D" = tx [68] := by decide +kernel
  have inj : ∀ l : List Nat, (tx l == tx p) = decide (p = l) := by
    intro l
    by_cases h : p = l
    · subst h; simp
    · have : tx l ≠ tx p := fun e => h (by unfold tx at e; simpa using e.symm)
      simp [h, this]
  unfold bares
  rw [e1, e2, e3]
  simp only [List.any_cons, List.any_nil, inj, Bool.or_false]
  by_cases h : bare p
  · rw [decide_eq_true h]
    rcases h with h | h | h <;> simp [h]
  · rw [decide_eq_false h]
    unfold bare at h
    simp only [not_or] at h
    simp [h]
theorem qval_str (p : List Nat) (t : Tok) : qval (.str (tx p) t) = tx (qname p) := by
  show tx (qname (tx p).cps.toList) = _
  unfold tx; simp
theorem qval_bare {p : List Nat} {t : Tok} (h : (bares.any (· == tx p)) = true) : qval (.str (tx p) t) = tx p := by
  rw [qval_str, qname, if_pos (of_decide_eq_true ((bare_any p).symm.trans h))]
theorem qval_quoted {p : List Nat} {t : Tok} (h : (bares.any (· == tx p)) = false) : qval (.str (tx p) t) = Str.ofString "\"" ++ Txt.replace (tx p) (Str.ofString "\"") (Str.ofString "\"\"") ++ Str.ofString "\"" := by
  have e0 : Str.ofString "\"" = tx [34] := by decide +kernel
  rw [qval_str, qname, if_neg (of_decide_eq_false ((bare_any p).symm.trans h)), rep34, e0, tx_append', tx_append']
  simp
theorem part_len {p : List Nat} (h : part p) : (tx p).length ≤ 3 := by
  rw [tx_len]
  rcases h with h | h
  · rcases h with rfl | rfl | rfl <;> simp
  · omega
theorem dots_join1 (p : List Nat) (t : Tok) : Txt.join (Str.ofString ".") ([Value.str (tx p) t].map qval) = tx (dots [p]) := by
  rw [List.map_cons, List.map_nil, qval_str]
  unfold Txt.join; rw [StrLaws.glued_eq_join]; rfl
theorem dots_join2 (p q : List Nat) (t u : Tok) : Txt.join (Str.ofString ".") ([Value.str (tx p) t, Value.str (tx q) u].map qval) = tx (dots [p, q]) := by
  rw [List.map_cons, List.map_cons, List.map_nil, qval_str, qval_str]
  unfold Txt.join; rw [StrLaws.glued_eq_join]
  have e0 : Str.ofString "." = tx [46] := by decide +kernel
  show tx (qname p) ++ Str.ofString "." ++ tx (qname q) = _
  rw [e0, tx_append', tx_append']
  show _ = tx (qname p ++ 46 :: qname q)
  simp
theorem rep39 (p : List Nat) : Txt.replace (tx p) (Str.ofString "'") (Str.ofString "''") = tx (dbl 39 p) := by
  have e1 : Str.ofString "'" = (⟨#[39]⟩ : Str) := q39
  have e2 : Str.ofString "''" = (⟨#[39, 39]⟩ : Str) := by decide +kernel
  rw [e1, e2]
  apply str_ext
  rw [← Array.toList_inj]
  exact StrLaws.replace_double (tx p) 39
theorem rep_len (p : List Nat) : (Txt.replace (tx p) (Str.ofString "'") (Str.ofString "''")).length ≤ 2 * p.length := by
  rw [rep39]; unfold tx Str.length; rw [List.size_toArray]; exact dbl_len 39 p
theorem rep_len34 (p : List Nat) : (Txt.replace (tx p) (Str.ofString "\"") (Str.ofString "\"\"")).length ≤ 2 * p.length := by
  rw [rep34]; unfold tx Str.length; rw [List.size_toArray]; exact dbl_len 34 p
end Mine
end

-- part Ins
section
open PySem PySem.W PyProof.Rows
namespace Mine
set_option maxRecDepth 100000
set_option maxHeartbeats 8000000

section
local macro_rules | `(tactic| walk_at "eval ListComp") => `(tactic| refine stop_ ?_)
local macro_rules | `(tactic| k_mem) => `(tactic| assumption)
local macro_rules | `(tactic| walk_at "pyIter") => `(tactic| refine stop_ ?_)
local macro_rules | `(tactic| walk_at "And") => `(tactic| ((with_reducible show (Exists _) ∧ (Keeps _ _)); refine stop_ ?_))
local macro_rules | `(tactic| walk_at "CompSrc") => `(tactic| refine stop_ ?_)
local macro_rules | `(tactic| walk_at "call builtin:str.join") => `(tactic| refine stop_ ?_)
local macro_rules | `(tactic| walk_at "call ref") => `(tactic| refine stop_ ?_)
local macro_rules | `(tactic| walk_at "subscriptTail Name Name ref int") => `(tactic| (refine' item_litK ?k1 ?k2 ?k3 ?k4 ?_ ?k6; (case k1 => exact News.isList (by k_asm) (by k_mem)); (case k2 => omega); (case k3 => omega); (case k4 => assumption); (case k6 => with_unfolding_all rfl)))
local macro_rules | `(tactic| walk_at "call builtin:str.replace") => `(tactic| ((refine SC.replaceW (by omega) (by omega) (by omega) (by decide +kernel) (by omega) (by decide +kernel) ?_); intro t' k'))
local macro_rules | `(tactic| walk_at "call builtin:len") => `(tactic| ((with_reducible show wpAny _ _ (call (Value.builtin "len") [Value.ref _]) _ _ _); (refine' len_list ?hl ?hf ?_; (case hl => exact News.isList (by k_asm) (by k_mem)); (case hf => omega))))
local macro_rules | `(tactic| walk_at "call type:range") => `(tactic| ((refine' range1_rows ?hF ?hN ?_; (case hF => k_asm); (case hN => k_asm)); intro h' tk' t1' u1' v1' hR' hF' hN' hK'))

def InsC (w : World) (mean : ExcName → Option Value) (mg mb : Str → Option Value) (t : Nd) : Prop := ∀ (A A₀ : Around) (env : Env) (outer : List Env) (base h₀ : Heap) (L : Addr) (m : Str → Option Value) (news : List (Addr × Obj)) (s : Shared) (R : Result → Shared → Prop)
   (v : Value) (_ : DatIn news v t.dat) (_ : t.ok) (_ : t.count ≤ 13)
   (_ : Below A₀ base outer h₀) (_ : Fr h₀ L s.heap m) (_ : (Mine.hd.heap_39 w.params).In h₀) (_ : News h₀ L s.heap news)
   (_ : Top Mine.hd.view_39 (looseW Mine.hd.view_39 [Str.ofString "find_matching_paren"]) mean mg mb h₀)
   (_ : A.frames = some (env :: outer)) (_ : env.frame = some L) (_ : env.scope.kind = .function) (_ : A.depth + t.depth + 2 < recursionLimit) (_ : A.units + 8 * t.depth + 100 < cLine) (_ : A.handled = none)
   (_ : ∀ h' tk' t', Fr h₀ L h' m → News h₀ L h' news → R (.ok (.ret (.str (tx t.txt) t'))) { s with heap := h', toks := tk' }),
   codeAny (model PySem.Challenge.rw_bn5032_01.row.prog w) A (.call (.ref 61) ⟨[v], []⟩) R s

theorem ins_ok (w : World) (mean : ExcName → Option Value) (mg mb : Str → Option Value) : ∀ (bound : Nat) (t : Nd), t.depth < bound → InsC w mean mg mb t := by
  intro bound
  induction bound with
  | zero => intro t h; exact absurd h (Nat.not_lt_zero _)
  | succ bound IH =>
  intro t hdep
  intro A A₀ env outer base h₀ L m news s R v hv ok hc B F X N T hf hL hk hd hu hh ret
  w_top off; revert X; k_fill; intro X
  cases t with
  | bra ks => 
    rw [Nd.dat] at hv
    cases hv with
    | @list a vs n ds hm hr =>
    have hvk : vs.length = ks.length := by rw [hr.length, Nd.dats_length]
    have hvl : vs.length ≤ 13 := by rw [hvk]; have := Nd.counts_ge ks; simp only [Nd.count] at hc; omega
    have hvl' : vs.toArray.size ≤ 13 := by rw [List.size_toArray]; exact hvl
    refine' code_defC B F X N T hf hL hk ?k6 ?k7 ?k8 ?k9 ?kB ?kD ?_ ?c2 ?c3 ?c4
    case k6 => k_dflt k_is
    case k7 => k_dflt k_is
    case k8 => k_dflt ktr_room
    case k9 => k_dflt (exact BindsTo.of_eq rfl)
    case kB => k_dflt (exact rfl)
    case kD => decide +kernel
    case c2 => exact rfl
    case c3 => exact rfl
    case c4 => exact rfl
    intro g' L' h' tk' cells' FG' F' N' Y' B' X' T' l1; (try k_lt l1); k_cells Y'; (try simp only [List.cons_append, List.nil_append] at N'); (try dsimp only)
    obtain ⟨mm, F0⟩ : ∃ mm, Fr g' L' h' mm := ⟨_, F'⟩
    clear F'
    rename (Obj.data _ = Data.cell _) => d1
    rename_i oc
    have d2 : oc.data = .cell (some (.ref a)) := d1
    clear d1
    refine wpAny_noRaise ?_
    (try k_fold)
    k_steps
    unfold Stop
    k_fold
    refine LCg.ListComp_U (F0) (by with_unfolding_all rfl) (by decide) rfl (by decide) rfl ?_ (by intro _; rfl)
    k_steps
    unfold Stop
    rename (IsRange _ _ _ _ _ _ _ _) => hR
    rename (Fr g' L' _ _) => F2
    rename (News g' L' _ _) => N2
    rw [show vs.toArray.size = ks.length by rw [List.size_toArray, hvk]] at hR
    refine LCg.CompSrc.range (A := A.deeper _) (n := ks.length) hh F2 N2 hR (small_one (by decide) (by decide) (by omega) (by omega)) (by rw [rangeSize_one]; split <;> omega) (by rw [sizeLine_eq]; omega) ?_
    intro gh
    refine kct_range (fun k => piece ks k.toNat) ?_ ?_
    · intro k t I oI C oC D m₂ ys h tk E' hk0 hk1 hC hm2 F3 N3 off ne _
      obtain ⟨i, rfl⟩ : ∃ i : Nat, k = (i : Int) := ⟨k.toNat, by omega⟩
      have hi : i < ks.length := by omega
      have hki : ks[i]? = some ks[i] := by simp [hi]
      obtain ⟨ok', dep', cnt', dat'⟩ := Nd.kid hki ok
      obtain ⟨vi, hvi, hdi⟩ := hr.get (k := i) (by rw [Nd.dats_length]; exact hi)
      have hvi' : vs[((i : Int)).toNat]? = some vi := hvi
      refine wpAny_noRaise ?_
      have edat : (Nd.dats ks)[i]'(by rw [Nd.dats_length]; exact hi) = ks[i].dat := by
        have := dat'
        rw [List.getElem?_eq_getElem (by rw [Nd.dats_length]; exact hi)] at this
        exact Option.some.inj this
      rw [edat] at hdi
      have htl := Nd.txt_len _ ok'
      simp only [Nd.count] at hc
      simp only [Nd.depth] at hdep hd hu
      have hxl : (tx ks[i].txt).length ≤ 400 := by rw [tx_len]; omega
      k_steps
      all_goals (
        unfold Stop
        refine wpAny_call ?_
        refine IH ks[i] (by omega) _ _ _ _ _ _ _ _ _ _ _ vi (hdi.mono fun p hp => .tail _ (.tail _ (.tail _ (.tail _ hp)))) ok' (by omega) B' F3 X' N3 T' (Around.frames_deeper B'.stack) rfl rfl (by k_dflt ktr_room) (by k_dflt ktr_units) hh ?_
        intro h7 tk7 t7 F7 N7
        dsimp only
        k_steps)
      all_goals (
        refine LCg.CompEnd.intro F7 N7 _ (fun _ h => h) off trivial (kct_el ?_ rfl rfl)
        first
          | exact piece_eq hki (gap_at0 (fmod3 (by assumption)))
          | exact piece_eq hki (gap_at1 (fmod3 (by assumption)))
          | exact piece_eq hki (gap_at2 (fmod3 (by assumption))))
    · unfold KPfDone
      intro ys hcr hl
      obtain ⟨lf, rfl, elf⟩ := pieces_of (by omega) hcr
      intro D h5 tk5 F5 N5 off5
      simp only [Nd.count] at hc
      k_steps
      unfold Stop
      refine SC.join (N5.isList (.head _)) elf (joinOk_of (by decide +kernel) (fun y hy => ?_) (by rw [List.length_map, List.length_range]; omega)) ?_
      · obtain ⟨j, hj, rfl⟩ := List.mem_map.mp hy
        have := piece_len ok (by omega) (List.mem_range.mp hj)
        omega
      intro t' k'
      rw [join_pieces]
      k_steps
      exact ret _ _ _ (by assumption) (fun p hp => (by assumption : News h₀ L _ _) p (.tail _ (.tail _ hp)))
  | nam ps =>
    rw [Nd.dat] at hv
    cases hv with
    | @tuple a vs n ds hm hr =>
    cases hr with
    | cons h1 hr =>
    rename_i vs'
    cases h1
    rcases ok with ⟨p, rfl, hp⟩ | ⟨p, q, rfl, hp, hq⟩
    · cases hr with
      | cons h2 hr =>
      cases hr
      cases h2
      refine' code_defC B F X N T hf hL hk ?k6 ?k7 ?k8 ?k9 ?kB ?kD ?_ ?c2 ?c3 ?c4
      case k6 => k_dflt k_is
      case k7 => k_dflt k_is
      case k8 => k_dflt ktr_room
      case k9 => k_dflt (exact BindsTo.of_eq rfl)
      case kB => k_dflt (exact rfl)
      case kD => decide +kernel
      case c2 => exact rfl
      case c3 => exact rfl
      case c4 => exact rfl
      intro g' L' h' tk' cells' FG' F' N' Y' B' X' T' l1; (try k_lt l1); k_cells Y'; (try simp only [List.cons_append, List.nil_append] at N'); (try dsimp only)
      obtain ⟨mm, F0⟩ : ∃ mm, Fr g' L' h' mm := ⟨_, F'⟩
      clear F'
      rename (Obj.data _ = Data.cell _) => d1
      rename_i oc
      have d2 : oc.data = .cell (some (.ref a)) := d1
      clear d1
      refine wpAny_noRaise ?_
      (try k_fold)
      k_steps
      unfold Stop
      k_fold
      refine wpAny_ListComp_free (fun _ => true) (fun v y => ∃ t, y = .str (qval v) t) (by with_unfolding_all rfl) (by decide) rfl (by decide) rfl ?_ (by intro _; rfl)
      k_steps
      refine slice_tuple_from (s := { s with heap := h', toks := _ }) (a := 1) F0 N' (News.isTup N' (.tail _ hm)) (by decide) (by simp) ?_ (by with_unfolding_all rfl) (by intro _; with_unfolding_all rfl) (by rw [sizeLine_eq]; simp)
      intro h3 F3 N3
      simp only [List.drop_succ_cons, List.drop_zero] at N3
      refine lc_tuple (s := { s with heap := h3, toks := _ }) (A := A.deeper _) hh F3 N3 (News.isTup N3 (.head _)) (by simp) qval ?_ ?_
      · intro C v s₃ m₃ hv hC hm3 F4 N4 htk
        simp only [List.mem_cons, List.not_mem_nil, or_false] at hv
        subst hv
        refine wpAny_noRaise ?_
        k_steps
        refine in_tuple_strs (ys := bares) (t := 49) ⟨_, F4.keep _ _ (X' _ _ (by k_dflt k_is)), rfl, _, rfl⟩ (.cons _ _ (.cons _ _ (.cons _ _ .nil))) ?_
        have hpl := part_len hp
        have hrl : (Txt.replace (tx p) (Str.ofString "\"") (Str.ofString "\"\"")).length ≤ 6 := by have := rep_len34 p; rw [tx_len] at hpl; omega
        k_steps
        · exact Stop.out ⟨⟨_, congrArg (fun x => Value.str x _) (qval_bare (by assumption)).symm⟩, _, _, rfl, fun _ _ e => e⟩
        · exact Stop.out ⟨⟨_, congrArg (fun x => Value.str x _) (qval_quoted (by assumption)).symm⟩, _, _, rfl, fun _ _ e => e⟩
      · intro D h5 tk5 l k F5 N5 ne5 hl5
        k_steps
        unfold Stop
        refine SC.join (N5.isList (.head _)) hl5 (joinOk_of (by decide +kernel) (fun y hy => ?_) (by simp)) ?_
        · simp only [List.map_cons, List.map_nil, List.mem_cons, List.not_mem_nil, or_false] at hy
          have := qname_len hp
          rw [hy, qval_str, tx_len]; omega
        intro t' k'
        rw [dots_join1]
        k_steps
        exact ret _ _ _ (by assumption) (fun p hp => (by assumption : News h₀ L _ _) p (.tail _ (.tail _ (.tail _ hp))))
    · cases hr with
      | cons h2 hr =>
      cases hr with
      | cons h3 hr =>
      cases hr
      cases h2
      cases h3
      refine' code_defC B F X N T hf hL hk ?k6 ?k7 ?k8 ?k9 ?kB ?kD ?_ ?c2 ?c3 ?c4
      case k6 => k_dflt k_is
      case k7 => k_dflt k_is
      case k8 => k_dflt ktr_room
      case k9 => k_dflt (exact BindsTo.of_eq rfl)
      case kB => k_dflt (exact rfl)
      case kD => decide +kernel
      case c2 => exact rfl
      case c3 => exact rfl
      case c4 => exact rfl
      intro g' L' h' tk' cells' FG' F' N' Y' B' X' T' l1; (try k_lt l1); k_cells Y'; (try simp only [List.cons_append, List.nil_append] at N'); (try dsimp only)
      obtain ⟨mm, F0⟩ : ∃ mm, Fr g' L' h' mm := ⟨_, F'⟩
      clear F'
      rename (Obj.data _ = Data.cell _) => d1
      rename_i oc
      have d2 : oc.data = .cell (some (.ref a)) := d1
      clear d1
      refine wpAny_noRaise ?_
      (try k_fold)
      k_steps
      unfold Stop
      k_fold
      refine wpAny_ListComp_free (fun _ => true) (fun v y => ∃ t, y = .str (qval v) t) (by with_unfolding_all rfl) (by decide) rfl (by decide) rfl ?_ (by intro _; rfl)
      k_steps
      refine slice_tuple_from (s := { s with heap := h', toks := _ }) (a := 1) F0 N' (News.isTup N' (.tail _ hm)) (by decide) (by simp) ?_ (by with_unfolding_all rfl) (by intro _; with_unfolding_all rfl) (by rw [sizeLine_eq]; simp)
      intro h3 F3 N3
      simp only [List.drop_succ_cons, List.drop_zero] at N3
      refine lc_tuple (s := { s with heap := h3, toks := _ }) (A := A.deeper _) hh F3 N3 (News.isTup N3 (.head _)) (by simp) qval ?_ ?_
      · intro C v s₃ m₃ hv hC hm3 F4 N4 htk
        simp only [List.mem_cons, List.not_mem_nil, or_false] at hv
        obtain ⟨r, tr, rfl, hpr⟩ : ∃ r tr, v = .str (tx r) tr ∧ part r := by
          rcases hv with rfl | rfl
          · exact ⟨_, _, rfl, hp⟩
          · exact ⟨_, _, rfl, hq⟩
        refine wpAny_noRaise ?_
        k_steps
        refine in_tuple_strs (ys := bares) (t := 49) ⟨_, F4.keep _ _ (X' _ _ (by k_dflt k_is)), rfl, _, rfl⟩ (.cons _ _ (.cons _ _ (.cons _ _ .nil))) ?_
        have hpl := part_len hpr
        have hrl : (Txt.replace (tx r) (Str.ofString "\"") (Str.ofString "\"\"")).length ≤ 6 := by have := rep_len34 r; rw [tx_len] at hpl; omega
        k_steps
        · exact Stop.out ⟨⟨_, congrArg (fun x => Value.str x _) (qval_bare (by assumption)).symm⟩, _, _, rfl, fun _ _ e => e⟩
        · exact Stop.out ⟨⟨_, congrArg (fun x => Value.str x _) (qval_quoted (by assumption)).symm⟩, _, _, rfl, fun _ _ e => e⟩
      · intro D h5 tk5 l k F5 N5 ne5 hl5
        k_steps
        unfold Stop
        refine SC.join (N5.isList (.head _)) hl5 (joinOk_of (by decide +kernel) (fun y hy => ?_) (by simp)) ?_
        · simp only [List.map_cons, List.map_nil, List.mem_cons, List.not_mem_nil, or_false] at hy
          have := qname_len hp
          have := qname_len hq
          rcases hy with rfl | rfl <;> (rw [qval_str, tx_len]; omega)
        intro t' k'
        rw [dots_join2]
        k_steps
        exact ret _ _ _ (by assumption) (fun p hp => (by assumption : News h₀ L _ _) p (.tail _ (.tail _ (.tail _ hp))))
  | lit p =>
    rw [Nd.dat] at hv
    cases hv with
    | @tuple a vs n ds hm hr =>
    cases hr with
    | cons h1 hr =>
    cases hr with
    | cons h2 hr =>
    cases hr
    cases h1
    cases h2
    have hpl : (tx p).length ≤ 3 := by rw [tx_len]; exact ok.1
    have hrl : (Txt.replace (tx p) (Str.ofString "'") (Str.ofString "''")).length ≤ 6 := by
      have := rep_len p; have := ok.1; omega
    refine' code_defC B F X N T hf hL hk ?k6 ?k7 ?k8 ?k9 ?kB ?kD ?_ ?c2 ?c3 ?c4
    case k6 => k_dflt k_is
    case k7 => k_dflt k_is
    case k8 => k_dflt ktr_room
    case k9 => k_dflt (exact BindsTo.of_eq rfl)
    case kB => k_dflt (exact rfl)
    case kD => decide +kernel
    case c2 => exact rfl
    case c3 => exact rfl
    case c4 => exact rfl
    intro g' L' h' tk' cells' FG' F' N' Y' B' X' T' l1; (try k_lt l1); k_cells Y'; (try simp only [List.cons_append, List.nil_append] at N'); (try dsimp only)
    obtain ⟨mm, F0⟩ : ∃ mm, Fr g' L' h' mm := ⟨_, F'⟩
    clear F'
    rename (Obj.data _ = Data.cell _) => d1
    rename_i oc
    have d2 : oc.data = .cell (some (.ref a)) := d1
    clear d1
    refine wpAny_noRaise ?_
    (try k_fold)
    k_steps
    have e1 : Str.ofString "'" ++ Txt.replace (tx p) (Str.ofString "'") (Str.ofString "''") ++ Str.ofString "'" = tx (Nd.lit p).txt := by
      have e0 : Str.ofString "'" = tx [39] := by decide +kernel
      rw [rep39, e0, tx_append, tx_append, Nd.txt]; simp
    rw [e1]
    exact ret _ _ _ (by assumption) (fun p hp => (by assumption : News h₀ L _ _) p (.tail _ hp))
end
end Mine
end

-- part Rd0
section
open PySem PySem.W PyProof.Rows
namespace Mine

theorem tx_toList (l : List Nat) : (tx l).cps.toList = l := by unfold tx; simp
theorem tx_inj {a b : List Nat} (h : tx a = tx b) : a = b := by rw [← tx_toList a, h, tx_toList]
theorem tx_of (x : Str) : tx x.cps.toList = x := by apply str_ext; unfold tx; simp
theorem slice_plain {x : Str} {i j : Int} (h : 0 ≤ i ∧ i ≤ j ∧ j ≤ x.cps.toList.length) : Txt.slice x (some i) (some j) = tx ((x.cps.toList.drop i.toNat).take (j - i).toNat) := StrLaws.sliceText_plain h
theorem slice_to {x : Str} {j : Int} (h : 0 ≤ j ∧ j ≤ x.cps.toList.length) : Txt.slice x none (some j) = tx (x.cps.toList.take j.toNat) := by
  have := StrLaws.sliceText_to h
  have e : (j - 0).toNat = j.toNat := by omega
  rw [List.drop_zero, e] at this
  exact this
theorem slice_inner (a b : Nat) (l : List Nat) : Txt.slice (tx (a :: (l ++ [b]))) (some 1) (some (-1)) = tx l := by
  have h := StrLaws.sliceText_neg_hi (tx (a :: (l ++ [b]))) (some 1) (j := -1) (by decide) (by rw [tx_len]; simp; omega)
  have h2 : Txt.slice (tx (a :: (l ++ [b]))) (some 1) (some (-1)) = Txt.slice (tx (a :: (l ++ [b]))) (some 1) (some (-1 + ((tx (a :: (l ++ [b]))).length : Int))) := h
  rw [h2, tx_len, slice_plain (by rw [tx_toList]; simp; omega), tx_toList]
  congr 1
  have e : (-1 + ((a :: (l ++ [b])).length : Int) - 1).toNat = l.length := by simp; omega
  rw [e]
  simp
theorem slice_head (c : Nat) (r : List Nat) : Txt.slice (tx (c :: r)) none (some 1) = tx [c] := by
  rw [slice_to (by rw [tx_toList]; simp; omega), tx_toList]; simp
theorem slice_head0 : Txt.slice (tx []) none (some 1) = tx [] := by decide +kernel

theorem lookd {z : List Nat} {q : Nat} (h : z.head? ≠ some q) : ¬ (z.head? = some q) := h
theorem scan_quoted (p : List Nat) : ∀ (z : List Nat) (d i : Int), z.head? ≠ some 34 → scan (dbl 34 p ++ 34 :: z) d false true i = scan z d false false (i + (dbl 34 p).length + 1) := by
  induction p with
  | nil =>
    intro z d i h
    show scan (34 :: z) d false true i = _
    rw [scan]
    simp only [Bool.false_eq_true, if_false, if_true, if_neg h]
    simp [dbl, StrLaws.dbl]
  | cons c r ih =>
    intro z d i h
    by_cases hc : c = 34
    · subst hc
      show scan ((34 :: 34 :: StrLaws.dbl 34 r) ++ 34 :: z) d false true i = scan z d false false (i + ((34 :: 34 :: StrLaws.dbl 34 r).length : Nat) + 1)
      rw [List.cons_append, List.cons_append, scan]
      simp only [Bool.false_eq_true, if_false, if_true, List.head?_cons, List.tail_cons]
      rw [show StrLaws.dbl 34 r = dbl 34 r from rfl, ih z d (i + 2) h]
      congr 1
      simp only [List.length_cons]; omega
    · have e : StrLaws.dbl 34 (c :: r) = c :: StrLaws.dbl 34 r := by rw [StrLaws.dbl, if_neg hc]
      show scan (StrLaws.dbl 34 (c :: r) ++ 34 :: z) d false true i = scan z d false false (i + ((StrLaws.dbl 34 (c :: r)).length : Nat) + 1)
      rw [e, List.cons_append, scan]
      simp only [Bool.false_eq_true, if_false, if_true, if_neg hc]
      rw [show StrLaws.dbl 34 r = dbl 34 r from rfl, ih z d (i + 1) h]
      congr 1
      simp only [List.length_cons]; omega
theorem scan_lit (p : List Nat) : ∀ (z : List Nat) (d i : Int), z.head? ≠ some 39 → scan (dbl 39 p ++ 39 :: z) d true false i = scan z d false false (i + (dbl 39 p).length + 1) := by
  induction p with
  | nil =>
    intro z d i h
    show scan (39 :: z) d true false i = _
    rw [scan]
    simp only [if_true, if_neg h]
    simp [dbl, StrLaws.dbl]
  | cons c r ih =>
    intro z d i h
    by_cases hc : c = 39
    · subst hc
      show scan ((39 :: 39 :: StrLaws.dbl 39 r) ++ 39 :: z) d true false i = scan z d false false (i + ((39 :: 39 :: StrLaws.dbl 39 r).length : Nat) + 1)
      rw [List.cons_append, List.cons_append, scan]
      simp only [if_true, List.head?_cons, List.tail_cons]
      rw [show StrLaws.dbl 39 r = dbl 39 r from rfl, ih z d (i + 2) h]
      congr 1
      simp only [List.length_cons]; omega
    · have e : StrLaws.dbl 39 (c :: r) = c :: StrLaws.dbl 39 r := by rw [StrLaws.dbl, if_neg hc]
      show scan (StrLaws.dbl 39 (c :: r) ++ 39 :: z) d true false i = scan z d false false (i + ((StrLaws.dbl 39 (c :: r)).length : Nat) + 1)
      rw [e, List.cons_append, scan]
      simp only [if_true, if_neg hc]
      rw [show StrLaws.dbl 39 r = dbl 39 r from rfl, ih z d (i + 1) h]
      congr 1
      simp only [List.length_cons]; omega
theorem scan_plain : ∀ (l z : List Nat) (d i : Int), (∀ c ∈ l, c ≠ 39 ∧ c ≠ 34 ∧ c ≠ 40 ∧ c ≠ 41) → scan (l ++ z) d false false i = scan z d false false (i + l.length)
  | [], z, d, i, _ => by simp
  | c :: r, z, d, i, h => by
    obtain ⟨h1, h2, h3, h4⟩ := h c (.head _)
    rw [List.cons_append, scan]
    simp only [Bool.false_eq_true, if_false, if_neg h1, if_neg h2, if_neg h3, if_neg h4]
    rw [scan_plain r z d (i + 1) fun c hc => h c (.tail _ hc)]
    congr 1
    simp only [List.length_cons]; omega
theorem bare_plain {p : List Nat} (h : bare p) : ∀ c ∈ p, c ≠ 39 ∧ c ≠ 34 ∧ c ≠ 40 ∧ c ≠ 41 := by
  rcases h with rfl | rfl | rfl <;> decide
theorem scan_qname (p z : List Nat) (d i : Int) (h : z.head? ≠ some 34) : scan (qname p ++ z) d false false i = scan z d false false (i + (qname p).length) := by
  unfold qname
  split
  · rename_i hb
    exact scan_plain p z d i (bare_plain hb)
  · rw [List.cons_append, scan]
    simp only [Bool.false_eq_true, if_false, show (34 : Nat) ≠ 39 by decide, if_true]
    rw [List.append_assoc, List.cons_append, List.nil_append, scan_quoted p z d (i + 1) h]
    congr 1
    simp only [List.length_cons, List.length_append, List.length_nil]; omega
theorem gap_plain (i : Nat) : ∀ c ∈ gap i, c ≠ 39 ∧ c ≠ 34 ∧ c ≠ 40 ∧ c ≠ 41 := by
  unfold gap; split
  · decide
  · split <;> decide
mutual
theorem scan_node : ∀ (t : Nd) (z : List Nat) (d i : Int), t.ok → 1 ≤ d → scan (t.txt ++ 41 :: z) d false false i = scan (41 :: z) d false false (i + t.txt.length)
  | .bra ks, z, d, i, h, hd => by rw [Nd.txt]; exact scan_nodes ks 0 z d i h hd
  | .nam ps, z, d, i, h, hd => by
    rw [Nd.txt]
    rcases h with ⟨p, rfl, hp⟩ | ⟨p, q, rfl, hp, hq⟩
    · exact scan_qname p (41 :: z) d i (by simp)
    · show scan ((qname p ++ 46 :: qname q) ++ 41 :: z) d false false i = scan (41 :: z) d false false (i + (qname p ++ 46 :: qname q).length)
      rw [List.append_assoc, List.cons_append, scan_qname p _ d i (by simp), scan]
      simp only [Bool.false_eq_true, if_false, show (46 : Nat) ≠ 39 by decide, show (46 : Nat) ≠ 34 by decide, show (46 : Nat) ≠ 40 by decide, show (46 : Nat) ≠ 41 by decide]
      rw [scan_qname q _ d _ (by simp)]
      congr 1
      simp only [List.length_append, List.length_cons]; omega
  | .lit p, z, d, i, h, hd => by
    rw [Nd.txt, List.cons_append, scan]
    simp only [Bool.false_eq_true, if_false, if_true]
    rw [List.append_assoc, List.cons_append, List.nil_append, scan_lit p (41 :: z) d (i + 1) (by simp)]
    congr 1
    simp only [List.length_cons, List.length_append, List.length_nil]; omega
theorem scan_nodes : ∀ (ks : List Nd) (j : Nat) (z : List Nat) (d i : Int), Nd.oks ks → 1 ≤ d → scan (Nd.txts ks j ++ 41 :: z) d false false i = scan (41 :: z) d false false (i + (Nd.txts ks j).length)
  | [], j, z, d, i, _, _ => by rw [Nd.txts]; simp
  | k :: r, j, z, d, i, h, hd => by
    rw [Nd.txts, List.append_assoc, scan_plain _ _ d i (gap_plain j), List.cons_append, scan]
    simp only [Bool.false_eq_true, if_false, show (40 : Nat) ≠ 39 by decide, show (40 : Nat) ≠ 34 by decide, if_true]
    rw [List.append_assoc, List.cons_append, scan_node k _ (d + 1) _ h.1 (by omega), scan]
    simp only [Bool.false_eq_true, if_false, show (41 : Nat) ≠ 39 by decide, show (41 : Nat) ≠ 34 by decide, show (41 : Nat) ≠ 40 by decide, if_true, show ¬ (d + 1 - 1 = 0) by omega]
    rw [show d + 1 - 1 = d by omega, scan_nodes r (j + 1) z d _ h.2 hd]
    congr 1
    simp only [List.length_append, List.length_cons]; omega
end
theorem scan_own (t : Nd) (z : List Nat) (i : Int) (h : t.ok) : scan (40 :: (t.txt ++ 41 :: z)) 0 false false i = some (i + 1 + t.txt.length) := by
  rw [scan]
  simp only [Bool.false_eq_true, if_false, show (40 : Nat) ≠ 39 by decide, show (40 : Nat) ≠ 34 by decide, if_true]
  rw [scan_node t z (0 + 1) (i + 1) h (by decide), scan]
  simp only [Bool.false_eq_true, if_false, show (41 : Nat) ≠ 39 by decide, show (41 : Nat) ≠ 34 by decide, show (41 : Nat) ≠ 40 by decide, if_true, show (0 : Int) + 1 - 1 = 0 by decide]

/-- a torn text: what closes in it closes in the whole -/
theorem scan_take : ∀ (n : Nat) (l : List Nat), l.length ≤ n → ∀ (k : Nat) (d i j : Int) (bs bd : Bool), scan (l.take k) d bs bd i = some j → scan l d bs bd i = some j ∧ j < i + k := by
  intro n
  induction n with
  | zero =>
    intro l hl k d i j bs bd h
    have : l = [] := List.length_eq_zero_iff.mp (Nat.le_zero.mp hl)
    subst this
    rw [List.take_nil, scan] at h; cases h
  | succ n ih =>
    intro l hl k d i j bs bd h
    cases l with
    | nil => rw [List.take_nil, scan] at h; cases h
    | cons c r =>
      cases k with
      | zero => rw [List.take_zero, scan] at h; cases h
      | succ k =>
        have hr : r.length ≤ n := Nat.le_of_succ_le_succ hl
        have hrt : r.tail.length ≤ n := by rw [List.length_tail]; omega
        have one : ∀ {d bs bd}, scan (r.take k) d bs bd (i + 1) = some j → scan r d bs bd (i + 1) = some j ∧ j < i + (k + 1 : Nat) := fun h => by
          obtain ⟨a, b⟩ := ih r hr k _ _ _ _ _ h
          exact ⟨a, by push_cast at *; omega⟩
        have two : ∀ {d bs bd}, scan (r.take k).tail d bs bd (i + 2) = some j → scan r.tail d bs bd (i + 2) = some j ∧ j < i + (k + 1 : Nat) := fun {d bs bd} h => by
          cases k with
          | zero => rw [List.take_zero, List.tail_nil, scan] at h; cases h
          | succ k =>
            have e : (r.take (k + 1)).tail = r.tail.take k := by cases r <;> simp
            rw [e] at h
            obtain ⟨a, b⟩ := ih r.tail hrt k _ _ _ _ _ h
            exact ⟨a, by push_cast at *; omega⟩
        have hd : ∀ q : Nat, (r.take k).head? = some q → r.head? = some q := fun q e => by
          cases k with
          | zero => rw [List.take_zero] at e; cases e
          | succ k => cases r with
            | nil => simp at e
            | cons a b => simpa using e
        have hd2 : ∀ q : Nat, ¬ (r.take k).head? = some q → r.head? = some q → r.take k = [] := fun q e e' => by
          cases k with
          | zero => rfl
          | succ k => cases r with
            | nil => rfl
            | cons a b => exact absurd (by simpa using e') (by simpa using e)
        have none' : ∀ {d bs bd i}, scan [] d bs bd i ≠ some j := fun h => by rw [scan] at h; cases h
        rw [List.take_succ_cons, scan] at h
        rw [scan]
        by_cases b1 : bs = true
        · simp only [if_pos b1] at h ⊢
          by_cases c1 : c = 39
          · simp only [if_pos c1] at h ⊢
            by_cases c2 : (r.take k).head? = some 39
            · rw [if_pos c2] at h
              rw [if_pos (hd _ c2)]; exact two h
            · rw [if_neg c2] at h
              by_cases c3 : r.head? = some 39
              · rw [hd2 _ c2 c3] at h; exact absurd h none'
              · rw [if_neg c3]; exact one h
          · simp only [if_neg c1] at h ⊢; exact one h
        · simp only [if_neg b1] at h ⊢
          by_cases b2 : bd = true
          · simp only [if_pos b2] at h ⊢
            by_cases c1 : c = 34
            · simp only [if_pos c1] at h ⊢
              by_cases c2 : (r.take k).head? = some 34
              · rw [if_pos c2] at h
                rw [if_pos (hd _ c2)]; exact two h
              · rw [if_neg c2] at h
                by_cases c3 : r.head? = some 34
                · rw [hd2 _ c2 c3] at h; exact absurd h none'
                · rw [if_neg c3]; exact one h
            · simp only [if_neg c1] at h ⊢; exact one h
          · simp only [if_neg b2] at h ⊢
            by_cases c1 : c = 39
            · simp only [if_pos c1] at h ⊢; exact one h
            · simp only [if_neg c1] at h ⊢
              by_cases c2 : c = 34
              · simp only [if_pos c2] at h ⊢; exact one h
              · simp only [if_neg c2] at h ⊢
                by_cases c3 : c = 40
                · simp only [if_pos c3] at h ⊢; exact one h
                · simp only [if_neg c3] at h ⊢
                  by_cases c4 : c = 41
                  · simp only [if_pos c4] at h ⊢
                    by_cases c5 : d - 1 = 0
                    · simp only [if_pos c5] at h ⊢
                      exact ⟨h, by have := Option.some.inj h; push_cast; omega⟩
                    · simp only [if_neg c5] at h ⊢; exact one h
                  · simp only [if_neg c4] at h ⊢; exact one h
theorem scan_torn {t : Nd} (h : t.ok) {n : Nat} (hn : n ≤ 1 + t.txt.length) : scan ((40 :: (t.txt ++ [41])).take n) 0 false false 0 = none := by
  cases e : scan ((40 :: (t.txt ++ [41])).take n) 0 false false 0 with
  | none => rfl
  | some j =>
    obtain ⟨a, b⟩ := scan_take _ _ (Nat.le_refl _) _ _ _ _ _ _ e
    rw [scan_own t [] 0 h] at a
    have := Option.some.inj a
    omega
end Mine
end

-- part Rd1
section
open PySem PySem.W PyProof.Rows
namespace Mine

def signs : List Nat := [34, 40, 41, 39, 46, 32, 97]
theorem sign_mem {c : Nat} (h : sign c) : c ∈ signs := by
  rcases h with h | h | h | h | h | h | h <;> subst h <;> decide
def ext (ls : List (List Nat)) : List (List Nat) := signs.flatMap fun c => ls.map (c :: ·)
def short : Nat → List (List Nat)
  | 0 => [[]]
  | n + 1 => ext (short n)
theorem short_mem : ∀ (n : Nat) (p : List Nat), p.length = n → (∀ c ∈ p, sign c) → p ∈ short n
  | 0, p, h, _ => by rw [List.length_eq_zero_iff.mp h]; exact List.mem_singleton.mpr rfl
  | n + 1, [], h, _ => by cases h
  | n + 1, c :: r, h, hs => by
    have := short_mem n r (by simpa using h) fun d hd => hs d (.tail _ hd)
    exact List.mem_flatMap.mpr ⟨c, sign_mem (hs c (.head _)), List.mem_map.mpr ⟨r, this, rfl⟩⟩
def backOk (p : List Nat) : Bool := Txt.replace (tx (dbl 39 p)) (Str.ofString "''") (Str.ofString "'") == tx p
theorem back0 : (short 0).all backOk = true := by decide +kernel
theorem back1 : (short 1).all backOk = true := by decide +kernel
theorem back2 : (short 2).all backOk = true := by decide +kernel
theorem back3 : (short 3).all backOk = true := by decide +kernel
theorem rep_back {p : List Nat} (h : p.length ≤ 3) (hs : ∀ c ∈ p, sign c) : Txt.replace (tx (dbl 39 p)) (Str.ofString "''") (Str.ofString "'") = tx p := by
  have hm := short_mem p.length p rfl hs
  have : p.length = 0 ∨ p.length = 1 ∨ p.length = 2 ∨ p.length = 3 := by omega
  have e : backOk p = true := by
    rcases this with e | e | e | e <;> rw [e] at hm
    · exact List.all_eq_true.mp back0 p hm
    · exact List.all_eq_true.mp back1 p hm
    · exact List.all_eq_true.mp back2 p hm
    · exact List.all_eq_true.mp back3 p hm
  exact eq_of_beq e

theorem hd_lit (p : List Nat) : (Txt.slice (tx (Nd.lit p).txt) none (some 1) == Str.ofString "'") = true := by
  rw [Nd.txt, slice_head]
  have e : Str.ofString "'" = tx [39] := by decide +kernel
  rw [e]; exact beq_self_eq_true _
theorem lit_back {p : List Nat} (h : (Nd.lit p).ok) : Txt.replace (Txt.slice (tx (Nd.lit p).txt) (some 1) (some (-1))) (Str.ofString "''") (Str.ofString "'") = tx p := by
  rw [Nd.txt, slice_inner, rep_back h.1 h.2]
theorem tx_ne {a b : List Nat} (h : a ≠ b) : (tx a == tx b) = false := by
  rw [beq_eq_false_iff_ne]; exact fun e => h (tx_inj e)
theorem q39t : Str.ofString "'" = tx [39] := by decide +kernel
theorem q32t : Str.ofString " " = tx [32] := by decide +kernel
theorem q0t : Str.ofString "" = tx [] := by decide +kernel
theorem qname_head (p : List Nat) : ∃ c r, qname p = c :: r ∧ c ≠ 39 ∧ c ≠ 32 ∧ c ≠ 40 := by
  unfold qname
  split
  · rename_i h
    rcases h with rfl | rfl | rfl
    · exact ⟨_, _, rfl, by decide, by decide, by decide⟩
    · exact ⟨_, _, rfl, by decide, by decide, by decide⟩
    · exact ⟨_, _, rfl, by decide, by decide, by decide⟩
  · exact ⟨34, _, rfl, by decide, by decide, by decide⟩
theorem nam_head {ps : List (List Nat)} (h : (Nd.nam ps).ok) : ∃ c r, (Nd.nam ps).txt = c :: r ∧ c ≠ 39 ∧ c ≠ 32 ∧ c ≠ 40 := by
  rcases h with ⟨p, rfl, _⟩ | ⟨p, q, rfl, _, _⟩
  · exact qname_head p
  · obtain ⟨c, r, e, h⟩ := qname_head p
    exact ⟨c, r ++ 46 :: qname q, by show qname p ++ 46 :: qname q = _; rw [e]; rfl, h⟩
theorem hd_nam {ps : List (List Nat)} (h : (Nd.nam ps).ok) : (Txt.slice (tx (Nd.nam ps).txt) none (some 1) == Str.ofString "'") = false := by
  obtain ⟨c, r, e, h1, h2, h3⟩ := nam_head h
  rw [e, slice_head, q39t]
  exact tx_ne (by simpa using h1)
theorem hd_nam2 {ps : List (List Nat)} (h : (Nd.nam ps).ok) : (Txt.slice (tx (Nd.nam ps).txt) none (some 1) != Str.ofString " ") = true := by
  obtain ⟨c, r, e, h1, h2, h3⟩ := nam_head h
  rw [e, slice_head, q32t, bne, tx_ne (by simpa using h2)]; rfl
theorem hd_nam3 {ps : List (List Nat)} (h : (Nd.nam ps).ok) : (tx (Nd.nam ps).txt).length ≠ 0 := by
  obtain ⟨c, r, e, h1, h2, h3⟩ := nam_head h
  rw [e, tx_len]; simp
theorem hd_bra (ks : List Nd) : (Txt.slice (tx (Nd.bra ks).txt) none (some 1) == Str.ofString "'") = false := by
  rw [Nd.txt, q39t]
  cases ks with
  | nil => rw [Nd.txts, slice_head0]; exact tx_ne (by decide)
  | cons k r => show (Txt.slice (tx (32 :: _)) none (some 1) == _) = false; rw [slice_head]; exact tx_ne (by decide)
theorem hd_bra2 {k : Nd} {r : List Nd} : (Txt.slice (tx (Nd.bra (k :: r)).txt) none (some 1) != Str.ofString " ") = false := by
  show (Txt.slice (tx (32 :: _)) none (some 1) != _) = false
  rw [slice_head, q32t, bne, beq_self_eq_true]; rfl

theorem qr_q (p : List Nat) : ∀ (z : List Nat) (acc : List (List Nat)) (cur : List Nat), z.head? ≠ some 34 → qrun (dbl 34 p ++ 34 :: z) true acc cur = qrun z false acc (cur ++ p) := by
  induction p with
  | nil =>
    intro z acc cur h
    show qrun (34 :: z) true acc cur = _
    rw [qrun]
    simp only [if_true, if_neg h, true_and, Bool.not_true, List.append_nil]
  | cons c r ih =>
    intro z acc cur h
    by_cases hc : c = 34
    · subst hc
      show qrun ((34 :: 34 :: StrLaws.dbl 34 r) ++ 34 :: z) true acc cur = _
      rw [List.cons_append, List.cons_append, qrun]
      simp only [if_true, List.head?_cons, List.tail_cons, and_self]
      rw [show StrLaws.dbl 34 r = dbl 34 r from rfl, ih z acc _ h, List.append_assoc]; rfl
    · have e : StrLaws.dbl 34 (c :: r) = c :: StrLaws.dbl 34 r := by rw [StrLaws.dbl, if_neg hc]
      show qrun (StrLaws.dbl 34 (c :: r) ++ 34 :: z) true acc cur = _
      rw [e, List.cons_append, qrun]
      simp only [if_neg hc, Bool.true_eq_false, and_false, if_false]
      rw [show StrLaws.dbl 34 r = dbl 34 r from rfl, ih z acc _ h, List.append_assoc]; rfl
theorem qr_plain : ∀ (p z : List Nat) (acc : List (List Nat)) (cur : List Nat), (∀ c ∈ p, c ≠ 34 ∧ c ≠ 46) → qrun (p ++ z) false acc cur = qrun z false acc (cur ++ p)
  | [], z, acc, cur, _ => by simp
  | c :: r, z, acc, cur, h => by
    obtain ⟨h1, h2⟩ := h c (.head _)
    rw [List.cons_append, qrun]
    simp only [if_neg h1, h2, false_and, if_false]
    rw [qr_plain r z acc _ fun d hd => h d (.tail _ hd), List.append_assoc]; rfl
theorem bare_dots {p : List Nat} (h : bare p) : ∀ c ∈ p, c ≠ 34 ∧ c ≠ 46 := by
  rcases h with rfl | rfl | rfl <;> decide
theorem qr_name (p z : List Nat) (acc : List (List Nat)) (h : z.head? ≠ some 34) : qrun (qname p ++ z) false acc [] = qrun z false acc p := by
  unfold qname
  split
  · rename_i hb
    rw [qr_plain p z acc [] (bare_dots hb)]; rfl
  · rw [List.cons_append, qrun]
    simp only [if_true, Bool.false_eq_true, false_and, if_false, Bool.not_false]
    rw [List.append_assoc, List.cons_append, List.nil_append, qr_q p z acc [] h]; rfl
theorem qr_dots {ps : List (List Nat)} (h : (Nd.nam ps).ok) : qrun (dots ps) false [] [] = ps := by
  rcases h with ⟨p, rfl, _⟩ | ⟨p, q, rfl, _, _⟩
  · show qrun (qname p) false [] [] = [p]
    have := qr_name p [] [] (by simp)
    rw [List.append_nil] at this
    rw [this, qrun]; rfl
  · show qrun (qname p ++ 46 :: qname q) false [] [] = [p, q]
    rw [qr_name p _ [] (by simp), qrun]
    simp only [show (46 : Nat) ≠ 34 by decide, if_false, and_self, if_true]
    have := qr_name q [] ([] ++ [p]) (by simp)
    rw [List.append_nil] at this
    rw [this, qrun]; rfl
theorem noq_bare {p : List Nat} (h : 34 ∉ qname p) : bare p := by
  unfold qname at h
  split at h
  · assumption
  · exact absurd (.head _) h
theorem q46t : Str.ofString "." = tx [46] := by decide +kernel
theorem split1 {p : List Nat} (h : bare p) : Txt.split (tx p) (Str.ofString ".") = [tx p] := by
  rcases h with rfl | rfl | rfl <;> decide +kernel
theorem split2 {p q : List Nat} (h : bare p) (h2 : bare q) : Txt.split (tx (p ++ 46 :: q)) (Str.ofString ".") = [tx p, tx q] := by
  rcases h with rfl | rfl | rfl <;> rcases h2 with rfl | rfl | rfl <;> decide +kernel
theorem qspec_dots {ps : List (List Nat)} (h : (Nd.nam ps).ok) : qspec (tx (Nd.nam ps).txt) = ps.map tx := by
  have e1 : Str.ofString "\"" = (⟨#[34]⟩ : Str) := q34
  have hf := StrLaws.found_one (tx (Nd.nam ps).txt) 34
  rw [← e1] at hf
  unfold qspec
  cases ho : (Builtin.Str.occurrences (tx (Nd.nam ps).txt) (Str.ofString "\"") 0 (tx (Nd.nam ps).txt).length 1).isEmpty with
  | true =>
    rw [ho] at hf
    have hn : 34 ∉ dots ps := by
      have := of_decide_eq_false hf.symm
      rw [tx_toList] at this
      exact this
    simp only [if_true]
    rcases h with ⟨p, rfl, _⟩ | ⟨p, q, rfl, _, _⟩
    · have hb := noq_bare hn
      show Txt.split (tx (qname p)) _ = [tx p]
      have e : qname p = p := if_pos hb
      rw [e]; exact split1 hb
    · have hb : bare p := noq_bare fun hm => hn (List.mem_append_left _ hm)
      have hb2 : bare q := noq_bare fun hm => hn (List.mem_append_right _ (.tail _ hm))
      show Txt.split (tx (qname p ++ 46 :: qname q)) _ = [tx p, tx q]
      have e : qname p = p := if_pos hb
      have e' : qname q = q := if_pos hb2
      rw [e, e']; exact split2 hb hb2
  | false =>
    simp only [Bool.false_eq_true, if_false]
    rw [tx_toList, show (Nd.nam ps).txt = dots ps from rfl, qr_dots h]
end Mine
end

-- part Rd2
section
open PySem PySem.W PyProof.Rows
namespace Mine

def full (pre post : List Nat) (t : Nd) : List Nat := pre ++ 40 :: (t.txt ++ 41 :: post)
theorem full_len (pre post : List Nat) (t : Nd) : (full pre post t).length = pre.length + (2 + t.txt.length + post.length) := by unfold full; simp; omega
theorem full_scan (pre post : List Nat) {t : Nd} (ok : t.ok) : scan (List.drop (Int.toNat (pre.length : Int)) (tx (full pre post t)).cps.toList) 0 false false pre.length = some ((pre.length : Int) + 1 + t.txt.length) := by
  rw [tx_toList, Int.toNat_natCast, full, List.drop_left, scan_own t post _ ok]
theorem full_item (pre post : List Nat) (t : Nd) : Txt.item (tx (full pre post t)) (pre.length : Int) = Str.ofString "(" := by
  rw [item_ch (by rw [tx_len, full_len]; omega)]
  simp only [tx_toList, full]
  rw [List.getElem_append_right (Nat.le_refl _)]
  simp only [Nat.sub_self, List.getElem_cons_zero]
  decide +kernel
theorem full_slice (pre post : List Nat) (t : Nd) : Txt.slice (tx (full pre post t)) (some ((pre.length : Int) + 1)) (some ((pre.length : Int) + 1 + t.txt.length)) = tx t.txt := by
  have hlen := full_len pre post t
  rw [slice_plain (by rw [tx_toList, hlen]; omega), tx_toList, full]
  congr 1
  have e1 : ((pre.length : Int) + 1).toNat = pre.length + 1 := by omega
  have e2 : ((pre.length : Int) + 1 + t.txt.length - ((pre.length : Int) + 1)).toNat = t.txt.length := by omega
  rw [e1, e2, List.drop_append, List.drop_of_length_le (by omega)]
  simp
theorem hd_bra3 (ks : List Nd) (h : ((tx (Nd.bra ks).txt).length : Int) ≠ 0) (h2 : (Txt.slice (tx (Nd.bra ks).txt) none (some 1) != Str.ofString " ") = true) : False := by
  cases ks with
  | nil => exact h (by rw [tx_len]; rfl)
  | cons k r => rw [hd_bra2] at h2; cases h2

def remOf (g : List Nat) (j : Nat) : List Nd → List Nat
  | [] => []
  | k :: r => g ++ 40 :: (k.txt ++ 41 :: Nd.txts r (j + 1))
structure RSt where
  k : Int
  tk : Tok
  done : List Nd
  rest : List Nd
  g : List Nat
  tl : List (Addr × Obj)
  vs : List Value
  n : Nat
def RSt.ps (x : Str) (t : Tok) (e : Int) (te : Tok) (aK : Addr) (c : RSt) : List (Str × Value) :=
  [(Str.ofString "text", .str x t), (Str.ofString "end", .int e te), (Str.ofString "kids", .ref aK), (Str.ofString "k", .int c.k c.tk)]
def RSt.led (aK : Addr) (news : List (Addr × Obj)) (c : RSt) : List (Addr × Obj) := (aK, listOf c.vs.toArray c.n) :: (c.tl ++ news)
structure RSt.ok (pre post : List Nat) (ks : List Nd) (aK : Addr) (news : List (Addr × Obj)) (c : RSt) : Prop where
  pos : 0 ≤ c.k
  dropk : (full pre post (.bra ks)).drop c.k.toNat = remOf c.g c.done.length c.rest ++ 41 :: post
  fin : c.k + (remOf c.g c.done.length c.rest).length = (pre.length : Int) + 1 + (Nd.bra ks).txt.length
  gp : ∀ x ∈ c.g, x ≠ 40
  all : c.done ++ c.rest = ks
  dat : DatAll c.tl c.vs (Nd.dats c.done)
  fr : ∀ q ∈ c.tl, ∀ p ∈ news, @Ne Nat p.1 q.1
  frK : ∀ q ∈ c.tl, @Ne Nat q.1 aK
  newK : ∀ p ∈ news, @Ne Nat p.1 aK
  vl : c.vs.length = c.done.length

theorem rem_start (ks : List Nd) : Nd.txts ks 0 = remOf (gap 0) 0 ks := by cases ks <;> rfl
theorem rem_next (ks : List Nd) (j : Nat) : Nd.txts ks j = remOf (gap j) j ks := by cases ks <;> rfl
theorem gap_40 (i : Nat) : ∀ x ∈ gap i, x ≠ 40 := fun x hx => (gap_plain i x hx).2.2.1

theorem rst_start {pre post : List Nat} {ks : List Nd} {aK : Addr} {news : List (Addr × Obj)} {tk : Tok} (h : ∀ p ∈ news, @Ne Nat p.1 aK) :
    RSt.ok pre post ks aK news ⟨(pre.length : Int) + 1, tk, [], ks, gap 0, [], [], 0⟩ where
  pos := by dsimp only; omega
  dropk := by
    show (full pre post (.bra ks)).drop ((pre.length : Int) + 1).toNat = remOf (gap 0) 0 ks ++ 41 :: post
    have e1 : ((pre.length : Int) + 1).toNat = pre.length + 1 := by omega
    rw [e1, full, List.drop_append, List.drop_of_length_le (by omega), ← rem_start]
    simp [Nd.txt]
  fin := by
    show (pre.length : Int) + 1 + (remOf (gap 0) 0 ks).length = (pre.length : Int) + 1 + (Nd.txts ks 0).length
    rw [← rem_start]
  gp := gap_40 0
  all := rfl
  dat := .nil
  fr := fun q hq => nomatch hq
  frK := fun q hq => nomatch hq
  newK := h
  vl := rfl

section
variable {pre post : List Nat} {ks done rest : List Nd} {g : List Nat} {aK : Addr} {news tl : List (Addr × Obj)} {k : Int} {tk tk' : Tok} {vs : List Value} {n : Nat}
theorem r_lt (O : RSt.ok pre post ks aK news ⟨k, tk, done, rest, g, tl, vs, n⟩) (h : k < (pre.length : Int) + 1 + (Nd.bra ks).txt.length) : k < ((tx (full pre post (.bra ks))).length : Int) := by
  rw [tx_len, full_len]; omega
theorem r_head (O : RSt.ok pre post ks aK news ⟨k, tk, done, rest, g, tl, vs, n⟩) (h : k < (pre.length : Int) + 1 + (Nd.bra ks).txt.length) :
    ∃ c r, remOf g done.length rest = c :: r ∧ Txt.item (tx (full pre post (.bra ks))) k = ch c := by
  have h1 := O.fin
  have h0 := O.pos
  have h2 := O.dropk
  dsimp only at h0 h1 h2
  cases e : remOf g done.length rest with
  | nil => rw [e] at h1; simp at h1; omega
  | cons c r =>
    refine ⟨c, r, rfl, ?_⟩
    obtain ⟨i, rfl⟩ : ∃ i : Nat, k = (i : Int) := ⟨k.toNat, by omega⟩
    have hlt : i < (tx (full pre post (.bra ks))).length := by have := r_lt O h; omega
    rw [item_ch hlt]
    congr 1
    rw [e, Int.toNat_natCast, List.cons_append] at h2
    have h3 := congrArg List.head? h2
    rw [List.head?_drop, List.head?_cons] at h3
    simp only [tx_toList]
    rw [List.getElem?_eq_getElem (by rw [tx_len] at hlt; exact hlt)] at h3
    exact Option.some.inj h3
theorem q40c : Str.ofString "(" = ch 40 := by decide +kernel
theorem ch_beq (a b : Nat) : (ch a == ch b) = decide (a = b) := by
  by_cases h : a = b
  · subst h; simp
  · have : ch a ≠ ch b := fun e => h (by unfold ch at e; simpa using e)
    simp [h, this]
/-- a sign of the gap is passed -/
theorem r_gap (O : RSt.ok pre post ks aK news ⟨k, tk, done, rest, g, tl, vs, n⟩) (h : k < (pre.length : Int) + 1 + (Nd.bra ks).txt.length) (hb : (Txt.item (tx (full pre post (.bra ks))) k == Str.ofString "(") = false) :
    RSt.ok pre post ks aK news ⟨k + 1, tk', done, rest, g.tail, tl, vs, n⟩ := by
  obtain ⟨c, r, e, hi⟩ := r_head O h
  rw [hi, q40c, ch_beq] at hb
  have hc : c ≠ 40 := of_decide_eq_false hb
  have h1 := O.fin
  have h0 := O.pos
  have h2 := O.dropk
  have h3 := O.gp
  dsimp only at h0 h1 h2 h3
  cases rest with
  | nil => cases e
  | cons k0 r0 =>
    cases g with
    | nil => exact absurd (List.cons.inj e).1.symm hc
    | cons c' g' =>
      refine ⟨by dsimp only; omega, ?_, ?_, fun x hx => h3 x (.tail _ hx), O.all, O.dat, O.fr, O.frK, O.newK, O.vl⟩
      · dsimp only
        have e1 : (k + 1).toNat = k.toNat + 1 := by omega
        rw [e1, ← List.drop_drop, h2]; rfl
      · dsimp only
        simp only [remOf, List.cons_append, List.length_cons, List.tail_cons] at h1 ⊢
        omega
/-- a kid begins -/
theorem r_kid (O : RSt.ok pre post ks aK news ⟨k, tk, done, rest, g, tl, vs, n⟩) (h : k < (pre.length : Int) + 1 + (Nd.bra ks).txt.length) (hb : (Txt.item (tx (full pre post (.bra ks))) k == Str.ofString "(") = true) :
    ∃ k0 r0, rest = k0 :: r0 ∧ g = [] ∧ full pre post (.bra ks) = full ((full pre post (.bra ks)).take k.toNat) (Nd.txts r0 (done.length + 1) ++ 41 :: post) k0 ∧ k = (((full pre post (.bra ks)).take k.toNat).length : Int) := by
  obtain ⟨c, r, e, hi⟩ := r_head O h
  rw [hi, q40c, ch_beq] at hb
  have hc : c = 40 := of_decide_eq_true hb
  have h0 := O.pos
  have h2 := O.dropk
  have h3 := O.gp
  dsimp only at h0 h2 h3
  cases rest with
  | nil => cases e
  | cons k0 r0 =>
    cases g with
    | cons c' g' => exact absurd ((List.cons.inj e).1.trans hc) (h3 c' (.head _))
    | nil =>
      refine ⟨k0, r0, rfl, rfl, ?_, ?_⟩
      · have := List.take_append_drop k.toNat (full pre post (.bra ks))
        rw [h2] at this
        rw [show full ((full pre post (.bra ks)).take k.toNat) (Nd.txts r0 (done.length + 1) ++ 41 :: post) k0 = (full pre post (.bra ks)).take k.toNat ++ 40 :: (k0.txt ++ 41 :: (Nd.txts r0 (done.length + 1) ++ 41 :: post)) from rfl]
        refine this.symm.trans ?_
        simp [remOf]
      · have := r_lt O h
        rw [tx_len] at this
        rw [List.length_take]; omega
theorem datAll_snoc {tl : List (Addr × Obj)} : ∀ {vs : List Value} {ds : List Dat} {v : Value} {d : Dat}, DatAll tl vs ds → DatIn tl v d → DatAll tl (vs ++ [v]) (ds ++ [d])
  | [], _, _, _, .nil, h => .cons h .nil
  | _ :: _, _, _, _, .cons h1 h2, h => .cons h1 (datAll_snoc h2 h)
theorem dats_snoc : ∀ (ks : List Nd) (k : Nd), Nd.dats (ks ++ [k]) = Nd.dats ks ++ [k.dat]
  | [], _ => rfl
  | x :: r, k => by rw [List.cons_append, Nd.dats, Nd.dats, dats_snoc r k]; rfl
/-- a kid is read -/
theorem r_read {k0 : Nd} {r0 : List Nd} {tl2 : List (Addr × Obj)} {vk : Value} (O : RSt.ok pre post ks aK news ⟨k, tk, done, k0 :: r0, [], tl, vs, n⟩) (hd : DatIn tl2 vk k0.dat) (hf : ∀ q ∈ tl2, ∀ p ∈ RSt.led aK news ⟨k, tk, done, k0 :: r0, [], tl, vs, n⟩, @Ne Nat p.1 q.1) :
    RSt.ok pre post ks aK news ⟨k + 1 + k0.txt.length + 1, tk', done ++ [k0], r0, gap (done.length + 1), tl2 ++ tl, vs ++ [vk], n + 1⟩ := by
  have h1 := O.fin
  have h0 := O.pos
  have h2 := O.dropk
  dsimp only at h0 h1 h2
  simp only [remOf, List.nil_append] at h1 h2
  refine ⟨by dsimp only; omega, ?_, ?_, gap_40 _, ?_, ?_, ?_, ?_, O.newK, ?_⟩
  · dsimp only
    have e1 : (k + 1 + k0.txt.length + 1).toNat = k.toNat + (1 + (k0.txt.length + 1)) := by omega
    rw [e1, ← List.drop_drop, h2, List.length_append, List.length_singleton, ← rem_next, ← List.drop_drop]
    simp only [List.cons_append, List.drop_succ_cons, List.drop_zero, List.append_assoc, List.drop_append, List.drop_of_length_le (Nat.le_succ _), List.nil_append, Nat.add_sub_cancel_left, Nat.zero_sub]
  · dsimp only
    rw [List.length_append, List.length_singleton, ← rem_next]
    simp only [List.length_cons, List.length_append] at h1
    omega
  · dsimp only
    have := O.all
    dsimp only at this
    rw [List.append_assoc]; exact this
  · dsimp only
    rw [dats_snoc]
    exact datAll_snoc (DatAll.mono (fun p hp => List.mem_append_right _ hp) O.dat) (hd.mono fun p hp => List.mem_append_left _ hp)
  · dsimp only
    intro q hq p hp
    rcases List.mem_append.mp hq with hq | hq
    · exact hf q hq p (.tail _ (List.mem_append_right _ hp))
    · exact O.fr q hq p hp
  · dsimp only
    intro q hq
    rcases List.mem_append.mp hq with hq | hq
    · exact (hf q hq _ (.head _)).symm
    · exact O.frK q hq
  · dsimp only
    have := O.vl
    dsimp only at this
    rw [List.length_append, List.length_append, this]; rfl
theorem r_end (O : RSt.ok pre post ks aK news ⟨k, tk, done, rest, g, tl, vs, n⟩) (h : ¬ k < (pre.length : Int) + 1 + (Nd.bra ks).txt.length) : DatAll tl vs (Nd.dats ks) := by
  have h1 := O.fin
  have h2 := O.all
  have h3 := O.dat
  dsimp only at h1 h2 h3
  cases rest with
  | nil => rw [List.append_nil] at h2; rw [← h2]; exact h3
  | cons k0 r0 => simp only [remOf, List.length_append, List.length_cons] at h1; omega
end
end Mine
end

-- part Rd
section
open PySem PySem.W PyProof.Rows
namespace Mine
set_option maxRecDepth 100000
set_option maxHeartbeats 8000000

def GoOn : Prop := True
def Marked : Prop := True
section
local macro_rules | `(tactic| k_mem) => `(tactic| assumption)
local macro_rules | `(tactic| walk_at "no such key, one line more") => `(tactic| skip)
local macro_rules | `(tactic| walk_at "exec While") => `(tactic| refine stop_ ?_)
local macro_rules | `(tactic| walk_at "exec If") => `(tactic| ((fail_if_success (rename GoOn => hgo)); refine stop_ ?_))
local macro_rules | `(tactic| walk_at "subscriptTail Name Slice str ref") => `(tactic| ((with_reducible show wpAny _ _ (subscriptTail _ (Expr.Slice (some _) (some _) none _) _ _) _ _ _); (rename GoOn => hgo); (fail_if_success (rename Marked => hmk)); refine wpAny_with_toks (Nat.le_refl _) ?_; refine stop_ ?_))
local macro_rules | `(tactic| walk_at "call builtin:str.replace") => `(tactic| refine stop_ ?_)
local macro_rules | `(tactic| walk_at "binaryOp Add ref ref") => `(tactic| refine stop_ ?_)
local macro_rules | `(tactic| walk_at "call type:tuple") => `(tactic| refine stop_ ?_)
local macro_rules | `(tactic| walk_at "unpackItems ref") => `(tactic| (refine' unpackItemsN_ ?k1 ?k2 ?k3 ?k4 ?k5 ?_; (case k1 => k_asm); (case k2 => k_asm); (case k3 => kun_tup); (case k4 => (first | exact rfl | assumption)); (case k5 => exact rfl); intro h' F' N'))
local macro_rules | `(tactic| walk_at "call builtin:list.append") => `(tactic| refine stop_ ?_)
local macro_rules | `(tactic| walk_at "assign Tuple") => `(tactic| (refine' unpackN_ ?k1 ?k2 ?k3 ?k4 ?k5 ?k6 ?_; (case k1 => k_asm); (case k2 => k_asm); (case k3 => kun_tup); (case k4 => (first | exact rfl | assumption)); (case k5 => (first | exact rfl | assumption)); (case k6 => exact rfl); intro h' F' N'))
local macro_rules | `(tactic| walk_at "call ref") => `(tactic| refine stop_ ?_)


def RdC (w : World) (mean : ExcName → Option Value) (mg mb : Str → Option Value) (t : Nd) : Prop := ∀ (A A₀ : Around) (env : Env) (outer : List Env) (base h₀ : Heap) (L : Addr) (m : Str → Option Value) (news : List (Addr × Obj)) (s : Shared) (R : Result → Shared → Prop)
   (pre post : List Nat) (tx1 tk1 : Tok) (_ : t.ok) (_ : t.count ≤ 13) (_ : (full pre post t).length ≤ 1000)
   (_ : Below A₀ base outer h₀) (_ : Fr h₀ L s.heap m) (_ : (Mine.hd.heap_39 w.params).In h₀) (_ : News h₀ L s.heap news)
   (_ : Top Mine.hd.view_39 (looseW Mine.hd.view_39 [Str.ofString "find_matching_paren"]) mean mg mb h₀)
   (_ : A.frames = some (env :: outer)) (_ : env.frame = some L) (_ : env.scope.kind = .function) (_ : A.depth + t.depth + 4 < recursionLimit) (_ : A.units + 8 * t.depth + 100 < cLine) (_ : A.handled = none)
   (_ : ∀ h' tk' tl vk r n te, Fr h₀ L h' m → News h₀ L h' ((r, ({ cls := .type "tuple", data := .seq #[vk, .int ((pre.length : Int) + 1 + t.txt.length) te] n } : Obj)) :: (tl ++ news)) → DatIn tl vk t.dat → (∀ q ∈ tl, ∀ p ∈ news, @Ne Nat p.1 q.1) → R (.ok (.ret (.ref r))) { s with heap := h', toks := tk' }),
   codeAny (model PySem.Challenge.rw_bn5032_01.row.prog w) A (.call (.ref 68) ⟨[.str (tx (full pre post t)) tx1, .int pre.length tk1], []⟩) R s

section
variable {h₀ h' : Heap} {L : Addr} {m : Str → Option Value} {news : List (Addr × Obj)} {s : Shared} {R : Result → Shared → Prop} {e : Int} {te : Tok} {tk : Nat} {D1 D2 D3 D4 : Addr} {t1 t2 : Tok} {d : Dat}
abbrev tupO (vs : Array Value) (n : Nat) : Obj := { cls := .type "tuple", data := .seq vs n }
theorem rd_lit_fin {p : List Nat} 
   (ret : ∀ h' tk' tl vk r n te, Fr h₀ L h' m → News h₀ L h' ((r, tupO #[vk, .int e te] n) :: (tl ++ news)) → DatIn tl vk (Nd.lit p).dat → (∀ q ∈ tl, ∀ p ∈ news, @Ne Nat p.1 q.1) → R (.ok (.ret (.ref r))) { s with heap := h', toks := tk' })
   (F : Fr h₀ L h' m) (NN : News h₀ L h' ((D2, tupO #[.ref D1, .int e te] 0) :: (D1, tupO #[.str (Str.ofString "t") t1, .str (tx p) t2] 0) :: news)) (hlt : ∀ p ∈ news, p.1 < D1) :
   R (.ok (.ret (.ref D2))) { s with heap := h', toks := tk } :=
  ret _ _ [(D1, _)] _ D2 _ te F NN (.tuple (vs := [.str (Str.ofString "t") t1, .str (tx p) t2]) (.head _) (.cons (.str _ _) (.cons (.str _ _) .nil))) (by
      intro q hq p hp
      rw [List.mem_singleton.mp hq]
      exact Nat.ne_of_lt (hlt p hp))
theorem datAll_strs {tl : List (Addr × Obj)} : ∀ {ps : List (List Nat)} {l : List (Str × Tok)}, l.map (·.1) = ps.map tx → DatAll tl (strValues l) (ps.map dstr)
  | [], [], _ => .nil
  | p :: r, (x, t) :: l, h => by
    have h1 : x = tx p := by simpa using (List.cons.inj h).1
    subst h1
    exact .cons (.str _ _) (datAll_strs (List.cons.inj h).2)
  | [], _ :: _, h => by simp at h
  | _ :: _, [], h => by simp at h
theorem rd_nam_fin {ps : List (List Nat)} {l : List (Str × Tok)} {Ds : List (Addr × Obj)}
   (ret : ∀ h' tk' tl vk r n te, Fr h₀ L h' m → News h₀ L h' ((r, tupO #[vk, .int e te] n) :: (tl ++ news)) → DatIn tl vk (Nd.nam ps).dat → (∀ q ∈ tl, ∀ p ∈ news, @Ne Nat p.1 q.1) → R (.ok (.ret (.ref r))) { s with heap := h', toks := tk' })
   (hl : l.map (·.1) = ps.map tx)
   (F : Fr h₀ L h' m) (NN : News h₀ L h' ((D2, tupO #[.ref D1, .int e te] 0) :: (D1, tupO (Value.str (Str.ofString "n") t1 :: strValues l).toArray 0) :: (Ds ++ news))) (hlt : ∀ p ∈ Ds ++ news, p.1 < D1) :
   R (.ok (.ret (.ref D2))) { s with heap := h', toks := tk } := by
  refine ret _ _ [(D1, tupO (Value.str (Str.ofString "n") t1 :: strValues l).toArray 0)] _ D2 0 te F (fun p hp => NN p ?_) (.tuple (vs := Value.str (Str.ofString "n") t1 :: strValues l) (.head _) (.cons (.str _ _) (datAll_strs hl))) (by
      intro q hq p hp
      rw [List.mem_singleton.mp hq]
      exact Nat.ne_of_lt (hlt p (List.mem_append_right _ hp)))
  rcases List.mem_cons.mp hp with rfl | hp
  · exact .head _
  rcases List.mem_cons.mp hp with rfl | hp
  · exact .tail _ (.head _)
  · exact .tail _ (.tail _ (List.mem_append_right _ hp))
theorem rd_bra_fin {ks : List Nd} {tl : List (Addr × Obj)} {vs : List Value} {n : Nat}
   (ret : ∀ h' tk' tl vk r n te, Fr h₀ L h' m → News h₀ L h' ((r, tupO #[vk, .int e te] n) :: (tl ++ news)) → DatIn tl vk (Nd.bra ks).dat → (∀ q ∈ tl, ∀ p ∈ news, @Ne Nat p.1 q.1) → R (.ok (.ret (.ref r))) { s with heap := h', toks := tk' })
   (hd : DatAll tl vs (Nd.dats ks)) (hf : ∀ q ∈ tl, ∀ p ∈ news, @Ne Nat p.1 q.1) (hn : ∀ p ∈ news, @Ne Nat p.1 D1)
   (F : Fr h₀ L h' m) (NN : News h₀ L h' ((D2, tupO #[.ref D1, .int e te] 0) :: (D1, listOf vs.toArray n) :: (tl ++ news))) :
   R (.ok (.ret (.ref D2))) { s with heap := h', toks := tk } := by
  refine ret _ _ ((D1, listOf vs.toArray n) :: tl) _ D2 0 te F NN (.list (.head _) (DatAll.mono (fun p hp => .tail _ hp) hd)) (by
      intro q hq p hp
      rcases List.mem_cons.mp hq with rfl | hq
      · exact hn p hp
      · exact hf q hq p hp)
end
theorem RdC.go {w : World} {mean : ExcName → Option Value} {mg mb : Str → Option Value} {t : Nd} (H : RdC w mean mg mb t) {A A₀ : Around} {env : Env} {outer : List Env} {base h₀ : Heap} {L : Addr} {m : Str → Option Value} {news : List (Addr × Obj)} {s : Shared} {R : Result → Shared → Prop}
   {pre post : List Nat} {tx1 tk1 : Tok} {x : Str} {k : Int} (hx : x = tx (full pre post t)) (hk : k = (pre.length : Int)) (a1 : t.ok) (a2 : t.count ≤ 13) (a3 : (full pre post t).length ≤ 1000)
   (a4 : Below A₀ base outer h₀) (a5 : Fr h₀ L s.heap m) (a6 : (Mine.hd.heap_39 w.params).In h₀) (a7 : News h₀ L s.heap news)
   (a8 : Top Mine.hd.view_39 (looseW Mine.hd.view_39 [Str.ofString "find_matching_paren"]) mean mg mb h₀)
   (a9 : A.frames = some (env :: outer)) (b1 : env.frame = some L) (b2 : env.scope.kind = .function) (b3 : A.depth + t.depth + 4 < recursionLimit) (b4 : A.units + 8 * t.depth + 100 < cLine) (b5 : A.handled = none)
   (ret : ∀ h' tk' tl vk r n te, Fr h₀ L h' m → News h₀ L h' ((r, ({ cls := .type "tuple", data := .seq #[vk, .int (k + 1 + t.txt.length) te] n } : Obj)) :: (tl ++ news)) → DatIn tl vk t.dat → (∀ q ∈ tl, ∀ p ∈ news, @Ne Nat p.1 q.1) → R (.ok (.ret (.ref r))) { s with heap := h', toks := tk' }) :
   codeAny (model PySem.Challenge.rw_bn5032_01.row.prog w) A (.call (.ref 68) ⟨[.str x tx1, .int k tk1], []⟩) R s := by
  subst hx hk
  exact H A A₀ env outer base h₀ L m news s R pre post tx1 tk1 a1 a2 a3 a4 a5 a6 a7 a8 a9 b1 b2 b3 b4 b5 ret
theorem rd_ok (w : World) (mean : ExcName → Option Value) (mg mb : Str → Option Value) : ∀ (bound : Nat) (t : Nd), t.depth < bound → RdC w mean mg mb t := by
  intro bound
  induction bound with
  | zero => intro t h; exact absurd h (Nat.not_lt_zero _)
  | succ bound IH =>
  intro t hdep
  intro A A₀ env outer base h₀ L m news s R pre post tx1 tk1 ok hc hfl B F X N T hf hL hk hd hu hh ret
  w_top off; revert X; k_fill; intro X
  have hxl : (tx (full pre post t)).length ≤ 1000 := by rw [tx_len]; exact hfl
  refine code_def B F X N T hf hL hk (by k_dflt k_is) (by k_dflt k_is) (by k_dflt ktr_room) (by k_dflt (exact BindsTo.of_eq rfl)) (by k_dflt (exact locs rfl)) ?_ (by k_dflt (exact rfl)) (by k_dflt (exact rfl)) (by k_dflt (exact rfl)) (by k_dflt decide)
  intro g' L' h' FG' F' N' B' X' T'
  refine wpAny_noRaise ?_
  (try dsimp only); (try k_fold)
  k_steps
  have hlen := full_len pre post t
  have hsc := full_scan pre post ok
  have hit := full_item pre post t
  have hins := full_slice pre post t
  unfold Stop
  refine wpAny_call ?_
  refine fmp w mean mg mb _ _ _ _ _ _ _ _ _ _ _ _ _ _ _ _ (.inl rfl) (by omega) (by omega) (by rw [tx_len, hlen]; omega) hit B' F' X' N' T' (Around.frames_deeper B'.stack) rfl rfl (by k_dflt ktr_room) ?_
  intro h2 tk2 v F2 N2 hv
  dsimp only
  rw [hsc] at hv
  obtain ⟨te, rfl⟩ := hv
  k_steps
  rw [hins] at *
  unfold Stop
  have goOn : GoOn := trivial
  cases t with
  | lit p =>
    have hq := hd_lit p
    have htl := Nd.txt_len _ ok
    have hyl : (tx (Nd.lit p).txt).length ≤ 30 := by rw [tx_len]; simp only [Nd.count] at htl; omega
    k_steps
    unfold Stop
    have mk : Marked := trivial
    k_steps
    unfold Stop
    rename (_ ≤ _) => hge
    dsimp only at hge
    refine SC.replaceW (by show @Ne Nat _ _; omega) (by show @Ne Nat _ _; omega) (by show @Ne Nat _ _; omega) (by decide +kernel) (by omega) (by decide +kernel) ?_
    intro t' k'
    rw [lit_back ok]
    k_steps
    refine' rd_lit_fin ret ?F ?N ?l
    case F => assumption
    case N => assumption
    case l => assumption
  | nam ps =>
    have hq := hd_nam ok
    have hq2 := hd_nam2 ok
    have hq3 : ((tx (Nd.nam ps).txt).length : Int) ≠ 0 := by have := hd_nam3 ok; omega
    have htl := Nd.txt_len _ ok
    have hyl : (tx (Nd.nam ps).txt).length ≤ 30 := by rw [tx_len]; simp only [Nd.count] at htl; omega
    k_steps
    rotate_left
    · contradiction
    unfold Stop
    refine wpAny_call ?_
    refine qtp_ok w mean mg mb _ _ _ _ _ _ _ _ _ _ _ _ _ (by omega) B' (by assumption) X' (by assumption) T' (Around.frames_deeper B'.stack) rfl rfl (by k_dflt ktr_room) hh ?_
    intro h3 tk3 D3 l3 n3 F3 N3 ne3 hl3
    dsimp only
    rw [qspec_dots ok] at hl3
    have hl3n : l3.length ≤ 2 := by
      have := congrArg List.length hl3
      rw [List.length_map, List.length_map] at this
      rcases ok with ⟨p, rfl, _⟩ | ⟨p, q, rfl, _, _⟩ <;> (simp at this; omega)
    k_steps
    unfold Stop
    refine kmk_add_lit (zs := Value.str (Str.ofString "n") tk :: strValues l3) F3 N3 (N3.isList (.tail _ (.head _))) (N3.isList (.head _)) (by simp) ?_ (by rw [sizeLine_eq]; simp [strValues]; omega)
    intro D4 h4 F4 N4 l4
    k_steps
    unfold Stop
    refine kde_tupleOf (zs := Value.str (Str.ofString "n") tk :: strValues l3) F4 N4 (N4.isList (.head _)) (by simp [strValues]; omega) rfl ?_
    intro D5 h5 F5 N5 l5
    k_steps
    refine' rd_nam_fin (Ds := [_, _, _]) ret hl3 ?F ?N ?l
    case F => assumption
    case N => assumption
    case l => assumption
  | bra ks =>
    have hq := hd_bra ks
    have htl := Nd.txt_len _ ok
    have hyl : (tx (Nd.bra ks).txt).length ≤ 1000 := by rw [tx_len]; simp only [Nd.count] at htl; omega
    k_steps
    · exact (hd_bra3 ks (by assumption) (by assumption)).elim
    · unfold Stop
      rename (News g' L' _ _) => NZ
      obtain ⟨aK, hK, NZ2⟩ : ∃ aK, aK = _ ∧ News g' L' _ ((_, _) :: (aK, listOf #[] 0) :: news) := ⟨_, rfl, NZ⟩
      subst hK
      have NN : News g' L' _ ((aK, listOf #[] 0) :: news) := fun p hp => NZ2 p (.tail _ hp)
      have hlt : ∀ p ∈ news, p.1 < aK := by assumption
      refine' my_while (RSt.ps _ tx1 _ te aK) (RSt.led aK news) (RSt.ok pre post ks aK news) (fun c => (full pre post (.bra ks)).length + 1 - c.k.toNat) ⟨_, _, [], ks, gap 0, [], [], 0⟩ (by assumption) NN (fun p hp => hp) ?hk1 ?hp1 ?ht1
      case hk1 =>
        dsimp only [RSt.ps]
        repeat' (first | exact List.forall_mem_nil _ | refine List.forall_mem_cons.mpr ⟨?_, ?_⟩)
        all_goals exact rfl
      case hp1 => exact rst_start fun p hp => Nat.ne_of_lt (hlt p hp)
      rintro ⟨k, tkk, done, rest, g, tl, vs, n⟩ u h tk O F1 N1
      dsimp only [RSt.ps, RSt.led] at F1 N1
      have hxe : (tx (full pre post (.bra ks))).length = pre.length + (2 + (Nd.bra ks).txt.length + post.length) := by rw [tx_len]; exact hlen
      have hk0 : 0 ≤ k := O.pos
      have hxe2 := hlen
      (try k_fold)
      k_steps
      · unfold Stop
        have hkb : k < (pre.length : Int) + 1 + (Nd.bra ks).txt.length := by assumption
        obtain ⟨k0, r0, rfl, rfl, hfull, hkl⟩ := r_kid O hkb (by assumption)
        obtain ⟨ok', dep', cnt', _⟩ := Nd.kid (ks := ks) (i := done.length) (k := k0) (by have := O.all; dsimp only at this; rw [← this]; simp) ok
        have hdone : done.length ≤ 13 := by
          have h1 := congrArg List.length O.all
          have h2 := Nd.counts_ge ks
          simp only [Nd.count] at hc
          simp only [List.length_append] at h1
          omega
        have hvl : vs.length = done.length := O.vl
        simp only [Nd.depth] at hdep hd hu
        simp only [Nd.count] at hc
        refine wpAny_call ?_
        refine (IH k0 (by omega)).go (pre := (full pre post (.bra ks)).take k.toNat) (post := Nd.txts r0 (done.length + 1) ++ 41 :: post) (congrArg tx hfull) hkl ok' (by omega) (by rw [← hfull]; exact hfl) B' F1 X' N1 T' (Around.frames_deeper B'.stack) rfl rfl (by k_dflt ktr_room) (by k_dflt ktr_units) hh ?_
        intro h5 tk5 tl5 vk5 r5 n5 te5 F5 N5 hd5 hf5
        dsimp only
        have N6 : News g' L' h5 ((aK, listOf vs.toArray n) :: (r5, tupO #[vk5, .int (k + 1 + k0.txt.length) te5] n5) :: ((tl5 ++ tl) ++ news)) := fun p hp => N5 p (by
          rcases List.mem_cons.mp hp with rfl | hp
          · exact .tail _ (List.mem_append_right _ (.head _))
          rcases List.mem_cons.mp hp with rfl | hp
          · exact .head _
          rcases List.mem_append.mp hp with hp | hp
          · rcases List.mem_append.mp hp with hp | hp
            · exact .tail _ (List.mem_append_left _ hp)
            · exact .tail _ (List.mem_append_right _ (.tail _ (List.mem_append_left _ hp)))
          · exact .tail _ (List.mem_append_right _ (.tail _ (List.mem_append_right _ hp))))
        clear N5
        k_steps
        unfold Stop
        rename (Fr g' L' _ _) => F7
        rename (News g' L' _ _) => N7
        have N8 : News g' L' _ ((aK, listOf vs.toArray n) :: ((tl5 ++ tl) ++ news)) := fun p hp => N7 p (by
          rcases List.mem_cons.mp hp with rfl | hp
          · exact .head _
          · exact .tail _ (.tail _ hp))
        refine app_K F7 N8 (.head ?_) (by omega) ?_
        · intro p hp
          rcases List.mem_append.mp hp with hp | hp
          · rcases List.mem_append.mp hp with hp | hp
            · exact (hf5 p hp _ (.head _)).symm
            · exact O.frK p hp
          · exact O.newK p hp
        clear N7
        intro h9 F9 N9
        k_steps
        refine' wpost_go (news' := (aK, listOf (vs ++ [vk5]).toArray (n + 1)) :: ((tl5 ++ tl) ++ news)) ⟨k + 1 + k0.txt.length + 1, _, done ++ [k0], r0, gap (done.length + 1), tl5 ++ tl, vs ++ [vk5], n + 1⟩ (by assumption) (by assumption) (fun p hp => hp) ?hk5 ?hp5 ?hm5
        case hk5 =>
          dsimp only [RSt.ps]
          repeat' (first | exact List.forall_mem_nil _ | refine List.forall_mem_cons.mpr ⟨?_, ?_⟩)
          all_goals exact rfl
        case hp5 => exact r_read O hd5 hf5
        case hm5 => dsimp only; omega
      · refine' wpost_go (news' := (aK, listOf vs.toArray n) :: (tl ++ news)) ⟨k + 1, _, done, rest, g.tail, tl, vs, n⟩ (by assumption) (by assumption) (fun p hp => hp) ?hk3 ?hp3 ?hm3
        case hk3 =>
          dsimp only [RSt.ps]
          repeat' (first | exact List.forall_mem_nil _ | refine List.forall_mem_cons.mpr ⟨?_, ?_⟩)
          all_goals exact rfl
        case hp3 => exact r_gap O (by assumption) (by assumption)
        case hm3 => dsimp only; omega
      · refine' rd_bra_fin (tl := tl) (vs := vs) (ks := ks) ret (r_end O (by assumption)) O.fr O.newK ?F7 ?N7
        case F7 => assumption
        case N7 => assumption
    · unfold Stop
      rename (News g' L' _ _) => NZ
      obtain ⟨aK, hK, NZ2⟩ : ∃ aK, aK = _ ∧ News g' L' _ ((_, _) :: (aK, listOf #[] 0) :: news) := ⟨_, rfl, NZ⟩
      subst hK
      have NN : News g' L' _ ((aK, listOf #[] 0) :: news) := fun p hp => NZ2 p (.tail _ hp)
      have hlt : ∀ p ∈ news, p.1 < aK := by assumption
      refine' my_while (RSt.ps _ tx1 _ te aK) (RSt.led aK news) (RSt.ok pre post ks aK news) (fun c => (full pre post (.bra ks)).length + 1 - c.k.toNat) ⟨_, _, [], ks, gap 0, [], [], 0⟩ (by assumption) NN (fun p hp => hp) ?hk2 ?hp2 ?ht2
      case hk2 =>
        dsimp only [RSt.ps]
        repeat' (first | exact List.forall_mem_nil _ | refine List.forall_mem_cons.mpr ⟨?_, ?_⟩)
        all_goals exact rfl
      case hp2 => exact rst_start fun p hp => Nat.ne_of_lt (hlt p hp)
      rintro ⟨k, tkk, done, rest, g, tl, vs, n⟩ u h tk O F1 N1
      dsimp only [RSt.ps, RSt.led] at F1 N1
      have hxe : (tx (full pre post (.bra ks))).length = pre.length + (2 + (Nd.bra ks).txt.length + post.length) := by rw [tx_len]; exact hlen
      have hk0 : 0 ≤ k := O.pos
      have hxe2 := hlen
      (try k_fold)
      k_steps
      · unfold Stop
        have hkb : k < (pre.length : Int) + 1 + (Nd.bra ks).txt.length := by assumption
        obtain ⟨k0, r0, rfl, rfl, hfull, hkl⟩ := r_kid O hkb (by assumption)
        obtain ⟨ok', dep', cnt', _⟩ := Nd.kid (ks := ks) (i := done.length) (k := k0) (by have := O.all; dsimp only at this; rw [← this]; simp) ok
        have hdone : done.length ≤ 13 := by
          have h1 := congrArg List.length O.all
          have h2 := Nd.counts_ge ks
          simp only [Nd.count] at hc
          simp only [List.length_append] at h1
          omega
        have hvl : vs.length = done.length := O.vl
        simp only [Nd.depth] at hdep hd hu
        simp only [Nd.count] at hc
        refine wpAny_call ?_
        refine (IH k0 (by omega)).go (pre := (full pre post (.bra ks)).take k.toNat) (post := Nd.txts r0 (done.length + 1) ++ 41 :: post) (congrArg tx hfull) hkl ok' (by omega) (by rw [← hfull]; exact hfl) B' F1 X' N1 T' (Around.frames_deeper B'.stack) rfl rfl (by k_dflt ktr_room) (by k_dflt ktr_units) hh ?_
        intro h5 tk5 tl5 vk5 r5 n5 te5 F5 N5 hd5 hf5
        dsimp only
        have N6 : News g' L' h5 ((aK, listOf vs.toArray n) :: (r5, tupO #[vk5, .int (k + 1 + k0.txt.length) te5] n5) :: ((tl5 ++ tl) ++ news)) := fun p hp => N5 p (by
          rcases List.mem_cons.mp hp with rfl | hp
          · exact .tail _ (List.mem_append_right _ (.head _))
          rcases List.mem_cons.mp hp with rfl | hp
          · exact .head _
          rcases List.mem_append.mp hp with hp | hp
          · rcases List.mem_append.mp hp with hp | hp
            · exact .tail _ (List.mem_append_left _ hp)
            · exact .tail _ (List.mem_append_right _ (.tail _ (List.mem_append_left _ hp)))
          · exact .tail _ (List.mem_append_right _ (.tail _ (List.mem_append_right _ hp))))
        clear N5
        k_steps
        unfold Stop
        rename (Fr g' L' _ _) => F7
        rename (News g' L' _ _) => N7
        have N8 : News g' L' _ ((aK, listOf vs.toArray n) :: ((tl5 ++ tl) ++ news)) := fun p hp => N7 p (by
          rcases List.mem_cons.mp hp with rfl | hp
          · exact .head _
          · exact .tail _ (.tail _ hp))
        refine app_K F7 N8 (.head ?_) (by omega) ?_
        · intro p hp
          rcases List.mem_append.mp hp with hp | hp
          · rcases List.mem_append.mp hp with hp | hp
            · exact (hf5 p hp _ (.head _)).symm
            · exact O.frK p hp
          · exact O.newK p hp
        clear N7
        intro h9 F9 N9
        k_steps
        refine' wpost_go (news' := (aK, listOf (vs ++ [vk5]).toArray (n + 1)) :: ((tl5 ++ tl) ++ news)) ⟨k + 1 + k0.txt.length + 1, _, done ++ [k0], r0, gap (done.length + 1), tl5 ++ tl, vs ++ [vk5], n + 1⟩ (by assumption) (by assumption) (fun p hp => hp) ?hk6 ?hp6 ?hm6
        case hk6 =>
          dsimp only [RSt.ps]
          repeat' (first | exact List.forall_mem_nil _ | refine List.forall_mem_cons.mpr ⟨?_, ?_⟩)
          all_goals exact rfl
        case hp6 => exact r_read O hd5 hf5
        case hm6 => dsimp only; omega
      · refine' wpost_go (news' := (aK, listOf vs.toArray n) :: (tl ++ news)) ⟨k + 1, _, done, rest, g.tail, tl, vs, n⟩ (by assumption) (by assumption) (fun p hp => hp) ?hk4 ?hp4 ?hm4
        case hk4 =>
          dsimp only [RSt.ps]
          repeat' (first | exact List.forall_mem_nil _ | refine List.forall_mem_cons.mpr ⟨?_, ?_⟩)
          all_goals exact rfl
        case hp4 => exact r_gap O (by assumption) (by assumption)
        case hm4 => dsimp only; omega
      · refine' rd_bra_fin (tl := tl) (vs := vs) (ks := ks) ret (r_end O (by assumption)) O.fr O.newK ?F8 ?N8
        case F8 => assumption
        case N8 => assumption
end
end Mine
end

-- part Base3
section
open PySem PySem.W PyProof.Rows
namespace Mine
set_option maxRecDepth 100000
set_option maxHeartbeats 8000000

/-- a post that the walk is not to open -/
def Hide (Q : Value → Shared → Prop) (v : Value) (s : Shared) : Prop := Q v s
theorem hide_ {M : Model} {A : Around} {t : Sem Value} {Q E : Value → Shared → Prop} {s : Shared} (h : wpAny M A t (Hide Q) E s) : wpAny M A t Q E s := h
theorem Hide.out {Q : Value → Shared → Prop} {v : Value} {s : Shared} (h : Q v s) : Hide Q v s := h

def FPost {σ : Type} (h₀ : Heap) (L : Addr) (I : Addr) (oI : Obj) (l : Addr) (lo : Obj) (s : Shared) (ps : σ → List (Str × Value)) (Led : σ → List (Addr × Obj)) (P : Nat → σ → Prop) (i : Nat) (Q : Flow → Shared → Prop) (f : Flow) (s₂ : Shared) : Prop :=
  match f with
  | .ret v => Q (.ret v) s₂
  | .brk => Q .next s₂
  | _ => ∃ (c' : σ) (h' : Heap) (tk : Nat) (m' : Str → Option Value) (news' : List (Addr × Obj)), s₂ = { s with heap := h', toks := tk } ∧ Fr h₀ L h' m' ∧ News h₀ L h' news' ∧ (I, oI) ∈ news' ∧ (l, lo) ∈ news' ∧ (∀ p ∈ Led c', p ∈ news') ∧ (∀ p ∈ Led c', @Ne Nat p.1 I) ∧ (∀ p ∈ ps c', m' p.1 = some p.2) ∧ P (i + 1) c'
theorem fpost_go {σ : Type} {h₀ : Heap} {L I l : Addr} {oI lo : Obj} {s : Shared} {ps : σ → List (Str × Value)} {Led : σ → List (Addr × Obj)} {P : Nat → σ → Prop} {i : Nat} {Q : Flow → Shared → Prop} {h' : Heap} {tk : Nat} {m' : Str → Option Value} {news' : List (Addr × Obj)}
    (c' : σ) (F : Fr h₀ L h' m') (N : News h₀ L h' news') (hI : (I, oI) ∈ news') (hL : (l, lo) ∈ news') (hl : ∀ p ∈ Led c', p ∈ news') (hn : ∀ p ∈ Led c', @Ne Nat p.1 I) (hk : ∀ p ∈ ps c', m' p.1 = some p.2) (hp : P (i + 1) c') :
    FPost h₀ L I oI l lo s ps Led P i Q .next { s with heap := h', toks := tk } := ⟨c', h', tk, m', news', rfl, F, N, hI, hL, hl, hn, hk, hp⟩
theorem kstB_self' {m : Str → Option Value} {ps : List (Str × Value)} (h : ∀ p ∈ ps, m p.1 = some p.2) : kstB m ps = m := funext fun _ => kstB_eq h fun _ => rfl

theorem my_for {prog : Program} {w : World} {A : Around} {E : Value → Shared → Prop} {s : Shared} {env : Env} {h₀ : Heap} {x : Str} {body : List Stmt} {Q : Flow → Shared → Prop} {σ : Type} {l : Addr} {vs : List Value} {nn : Nat} {m₀ : Str → Option Value} {news : List (Addr × Obj)}
    (ps : σ → List (Str × Value)) (Led : σ → List (Addr × Obj)) (P : Nat → σ → Prop) (c₀ : σ)
    (hh : A.handled = none) (F : Fr h₀ env.locals s.heap m₀) (N : News h₀ env.locals s.heap news) (hm : (l, listOf vs.toArray nn) ∈ news) (hl : ∀ p ∈ Led c₀, p ∈ news) (hk : ∀ p ∈ ps c₀, m₀ p.1 = some p.2) (hp : P 0 c₀)
    (turn : ∀ i v c u h tk I oI, vs[i]? = some v → P i c → Fr h₀ env.locals h (fun y => if y = x then some v else kstB u (ps c) y) → News h₀ env.locals h ((I, oI) :: (l, listOf vs.toArray nn) :: Led c) → (∀ p ∈ Led c, @Ne Nat p.1 I) →
      wpAny (model prog w) A (execs body env) (FPost h₀ env.locals I oI l (listOf vs.toArray nn) s ps Led P i Q) E { s with heap := h, toks := tk })
    (done : ∀ c u h tk, P vs.length c → Fr h₀ env.locals h (kstB u (ps c)) → News h₀ env.locals h ((l, listOf vs.toArray nn) :: Led c) → Q .next { s with heap := h, toks := tk }) :
    wpAny (model prog w) A (pyIter (.ref l)) (fun it s₂ => LoopAtV prog w A h₀ env x body Q E it s₂) E s := by
  have hol : s.heap.get? l = some (listOf vs.toArray nn) := (N _ hm).1
  have hls : s.heap.IsList l vs.toArray := ⟨_, hol, rfl, nn, rfl⟩
  have hlt : l < s.heap.objs.size := Heap.lt_size hol
  have hne : l ≠ s.heap.objs.size := Nat.ne_of_lt hlt
  refine wpAny_pyIter_list hls ?_
  have W := Walks.list (prog := prog) (w := w) hh s.heap.objs.size l hne vs.toArray
  have hlen : vs.toArray.size = vs.length := by simp
  rw [hlen] at W
  refine ⟨_, _, _, vs.length, _, _, m₀, (l, listOf vs.toArray nn) :: Led c₀, (fun i m nx => ∃ c, nx = (l, listOf vs.toArray nn) :: Led c ∧ (∀ p ∈ ps c, m p.1 = some p.2) ∧ P i c), rfl, W, ?_, ?_, ?_, ⟨⟨_, Heap.get?_push_size _ rfl, rfl, rfl⟩, hls.at fun o e => Heap.get?_push_of_some _ e⟩, F.push _, ?_, ⟨c₀, rfl, hk, hp⟩, ?_, ?_⟩
  · intro hx
    rcases List.mem_cons.mp hx with e | hx
    · exact absurd F.ns.lt (e ▸ Nat.lt_irrefl _)
    · exact (N _ hm).2.1 ((List.mem_singleton.mp hx).symm)
  · intro b hb
    rw [List.mem_singleton.mp hb]
    exact next_is_new F
  · intro p hp hI
    have : p ∈ news := by
      rcases List.mem_cons.mp hp with rfl | hp
      · exact hm
      · exact hl p hp
    exact absurd (Heap.lt_size (N p this).1) ((List.mem_singleton.mp hI) ▸ Nat.lt_irrefl _)
  · intro p hp
    have : p ∈ news := by
      rcases List.mem_cons.mp hp with rfl | hp
      · exact hm
      · exact hl p hp
    exact ⟨Heap.get?_push_of_some _ (N p this).1, (N p this).2⟩
  · rintro i v m₁ news₁ s₁ own ⟨hh', tk', rfl⟩ hin hP ⟨c, rfl, hkc, hpc⟩ hoff hown hget hfp hst F₁ N₁
    have hI0 : h₀.get? s.heap.objs.size = none := next_is_new F
    obtain ⟨⟨oI, hoI, _⟩, _⟩ := id hst
    have hIown : (s.heap.objs.size, oI) ∈ own := hfp _ (List.mem_cons.mpr (.inl rfl)) hI0 _ hoI
    have N₂ : News h₀ env.locals hh' ((s.heap.objs.size, oI) :: (l, listOf vs.toArray nn) :: Led c) := fun p hp => by
      rcases List.mem_cons.mp hp with rfl | hp
      · exact N₁ _ (List.mem_append_left _ hIown)
      · exact N₁ _ (List.mem_append_right _ hp)
    have hv : vs[i]? = some v := by simpa using hP
    refine wpAny_mono (turn i v c m₁ hh' tk' s.heap.objs.size oI hv hpc (by rw [kstB_self' hkc]; exact F₁) N₂ (fun p hp e => hoff p (.tail _ hp) (List.mem_singleton.mpr e))) (fun f s₂ p => ?_) fun _ _ e => e
    have fin : (∃ (c' : σ) (h' : Heap) (tk : Nat) (m' : Str → Option Value) (news' : List (Addr × Obj)), s₂ = { s with heap := h', toks := tk } ∧ Fr h₀ env.locals h' m' ∧ News h₀ env.locals h' news' ∧ (s.heap.objs.size, oI) ∈ news' ∧ (l, listOf vs.toArray nn) ∈ news' ∧ (∀ p ∈ Led c', p ∈ news') ∧ (∀ p ∈ Led c', @Ne Nat p.1 s.heap.objs.size) ∧ (∀ p ∈ ps c', m' p.1 = some p.2) ∧ P (i + 1) c') →
        LoopStepU h₀ env.locals [s.heap.objs.size] own (fun m nx => ∃ c, nx = (l, listOf vs.toArray nn) :: Led c ∧ (∀ p ∈ ps c, m p.1 = some p.2) ∧ P (i + 1) c) { s with heap := hh', toks := tk' } .next s₂ := by
      rintro ⟨c', h', tk, m', news', e, F', N', hIn, hLn, hn, hnI, hk', hp'⟩
      refine ⟨rfl, h', tk, m', (l, listOf vs.toArray nn) :: Led c', e, F', fun p hp => ?_, fun p hp hq => ?_, c', rfl, hk', hp'⟩
      · rcases List.mem_append.mp hp with hp | hp
        · have hg := hget p hp
          have h1 := hown p hp
          rcases List.mem_cons.mp h1 with h1 | h1
          · obtain ⟨p1, p2⟩ := p
            dsimp only at h1 hg
            subst h1
            have : p2 = oI := Option.some.inj (hg.symm.trans hoI)
            subst this
            exact N' _ hIn
          · have h1 := List.mem_singleton.mp h1
            obtain ⟨p1, p2⟩ := p
            dsimp only at h1 hg
            subst h1
            have : p2 = listOf vs.toArray nn := Option.some.inj (hg.symm.trans (N₁ _ (List.mem_append_right _ (.head _))).1)
            subst this
            exact N' _ hLn
        · rcases List.mem_cons.mp hp with rfl | hp
          · exact N' _ hLn
          · exact N' _ (hn p hp)
      · have hq := List.mem_singleton.mp hq
        rcases List.mem_cons.mp hp with rfl | hp
        · exact hne hq
        · exact hnI p hp hq
    cases f with
    | ret v => exact .ret p
    | brk => exact .brk p
    | next => exact .next (fin p)
    | cont => exact .cont (fin p)
  · rintro h' tk m' news' F' N' _ ⟨c, rfl, hkc, hpc⟩
    exact done c m' h' tk hpc (by rw [kstB_self' hkc]; exact F') N'
end Mine
end

-- part Tr0
section
open PySem PySem.W PyProof.Rows
namespace Mine

structure Up where
  a : Addr
  vs : List Value
  n : Nat
  ks : List Nd
structure TSt where
  ups : List Up
  cur : Addr
  vs : List Value
  n : Nat
  ks : List Nd
  l : List (Str × Tok)
  nl : Nat
  nS : Nat
  tl : List (Addr × Obj)
def refs (ups : List Up) : List Value := (ups.reverse.map fun u => Value.ref u.a)
def upEnt (child : Addr) : List Up → List (Addr × Obj)
  | [] => []
  | u :: r => (u.a, listOf (u.vs ++ [Value.ref child]).toArray u.n) :: upEnt u.a r
def rootA (child : Addr) : List Up → Addr
  | [] => child
  | u :: r => rootA u.a r
def flatUps : List Up → List Str
  | [] => []
  | u :: r => flatUps r ++ Nd.flats u.ks
def cntUps : List Up → Nat
  | [] => 0
  | u :: r => cntUps r + Nd.counts u.ks + 1
def depUps : List Up → Prop
  | [] => True
  | u :: r => Nd.depths u.ks + r.length ≤ 3 ∧ depUps r
def wrapUps : List Up → Nd → Nd
  | [], t => t
  | u :: r, t => wrapUps r (.bra (u.ks ++ [t]))
def TSt.own (aS aL : Addr) (c : TSt) : List (Addr × Obj) :=
  (aS, listOf (refs c.ups ++ [Value.ref c.cur]).toArray c.nS) :: (aL, listOf (strValues c.l).toArray c.nl) :: (c.cur, listOf c.vs.toArray c.n) :: (upEnt c.cur c.ups ++ c.tl)
def TSt.led (aS aL : Addr) (news : List (Addr × Obj)) (c : TSt) : List (Addr × Obj) :=
  (aS, listOf (refs c.ups ++ [Value.ref c.cur]).toArray c.nS) :: (aL, listOf (strValues c.l).toArray c.nl) :: (c.cur, listOf c.vs.toArray c.n) :: (upEnt c.cur c.ups ++ (c.tl ++ news))
def TSt.ps (aS aL aR : Addr) (_ : TSt) : List (Str × Value) :=
  [(Str.ofString "root", .ref aR), (Str.ofString "laid", .ref aL), (Str.ofString "stack", .ref aS)]
structure TSt.ok (aS aL aR : Addr) (news : List (Addr × Obj)) (i : Nat) (c : TSt) : Prop where
  root : rootA c.cur c.ups = aR
  lup : c.ups.length ≤ 3
  pw : (c.own aS aL).Pairwise fun p q => @Ne Nat p.1 q.1
  fr : ∀ q ∈ c.own aS aL, ∀ p ∈ news, @Ne Nat p.1 q.1
  dcur : DatAll c.tl c.vs (Nd.dats c.ks)
  dups : ∀ u ∈ c.ups, DatAll c.tl u.vs (Nd.dats u.ks)
  okc : Nd.oks c.ks
  oku : ∀ u ∈ c.ups, Nd.oks u.ks
  cnt : Nd.counts c.ks + cntUps c.ups ≤ i
  dep : Nd.depths c.ks + c.ups.length ≤ 3
  depu : depUps c.ups
  fl : c.l.map (·.1) = flatUps c.ups ++ Nd.flats c.ks
  lv : c.vs.length ≤ i
  ll : c.l.length ≤ 3 * i
theorem own_led {aS aL : Addr} {news : List (Addr × Obj)} {c : TSt} : c.led aS aL news = c.own aS aL ++ news := by
  simp [TSt.led, TSt.own]
theorem refs_cons (u : Up) (r : List Up) : refs (u :: r) = refs r ++ [Value.ref u.a] := by simp [refs]
theorem refs_length (ups : List Up) : (refs ups).length = ups.length := by simp [refs]

theorem oks_snoc : ∀ {ks : List Nd} {k : Nd}, Nd.oks ks → k.ok → Nd.oks (ks ++ [k])
  | [], _, _, h => ⟨h, trivial⟩
  | _ :: _, _, h, h2 => ⟨h.1, oks_snoc h.2 h2⟩
theorem counts_snoc : ∀ (ks : List Nd) (k : Nd), Nd.counts (ks ++ [k]) = Nd.counts ks + k.count
  | [], _ => by simp [Nd.counts]
  | x :: r, k => by rw [List.cons_append, Nd.counts, Nd.counts, counts_snoc r k]; omega
theorem flats_snoc : ∀ (ks : List Nd) (k : Nd), Nd.flats (ks ++ [k]) = Nd.flats ks ++ k.flat
  | [], _ => by simp [Nd.flats]
  | x :: r, k => by rw [List.cons_append, Nd.flats, Nd.flats, flats_snoc r k, List.append_assoc]
theorem depths_snoc : ∀ (ks : List Nd) (k : Nd), Nd.depths (ks ++ [k]) = max (Nd.depths ks) k.depth
  | [], _ => by simp [Nd.depths]
  | x :: r, k => by rw [List.cons_append, Nd.depths, Nd.depths, depths_snoc r k]; omega

/-- a list's entry is changed where all addresses differ -/
theorem upd_at {d : Addr} {o o' : Obj} : ∀ {pre post : List (Addr × Obj)}, (∀ p ∈ pre, @Ne Nat p.1 d) → (∀ p ∈ post, @Ne Nat p.1 d) → Upd d o o' (pre ++ (d, o) :: post) (pre ++ (d, o') :: post)
  | [], _, _, h => .head h
  | p :: _, _, h, h2 => .tail (h p (.head _)) (upd_at (fun q hq => h q (.tail _ hq)) h2)
theorem kl_last_snoc : ∀ (p : List Value) (y : Value), kl_last (p ++ [y]) = some (p, y)
  | [], _ => rfl
  | x :: p, y => by
    show kl_last (x :: (p ++ [y])) = _
    unfold kl_last
    rw [kl_last_snoc p y]

section
variable {aS aL aR D : Addr} {news tl : List (Addr × Obj)} {i : Nat} {ups : List Up} {cur : Addr} {vs : List Value} {n nl nS : Nat} {ks : List Nd} {l : List (Str × Tok)}
/-- a group is opened -/
theorem t_open (O : TSt.ok aS aL aR news i ⟨ups, cur, vs, n, ks, l, nl, nS, tl⟩) (hlen : ups.length < 3) (hD : ∀ q ∈ TSt.led aS aL news ⟨ups, cur, vs, n, ks, l, nl, nS, tl⟩, @Ne Nat q.1 D) :
    TSt.ok aS aL aR news (i + 1) ⟨⟨cur, vs, n + 1, ks⟩ :: ups, D, [], 0, [], l, nl, nS + 1, tl⟩ := by
  rw [own_led] at hD
  have e := O.pw
  have f := O.fr
  simp only [TSt.own, List.pairwise_cons, List.forall_mem_cons] at e f hD
  simp only [List.forall_mem_append, List.forall_mem_cons, TSt.own] at hD
  obtain ⟨⟨d1, d2, d3, d4⟩, d5⟩ := hD
  obtain ⟨⟨e1, e2, e3⟩, ⟨e4, e5⟩, e6, e7⟩ := e
  obtain ⟨f1, f2, f3, f4⟩ := f
  refine ⟨O.root, by dsimp only [List.length_cons]; omega, ?_, ?_, .nil, ?_, trivial, ?_, ?_, ?_, ?_, ?_, Nat.zero_le _, ?_⟩
  · simp only [TSt.own, upEnt, List.cons_append, List.pairwise_cons, List.forall_mem_cons]
    exact ⟨⟨e1, d1, e2, e3⟩, ⟨d2, e4, e5⟩, ⟨fun h => d3 h.symm, fun p hp h => (List.mem_append.mp hp).elim (fun hp => d4.1 p hp h.symm) (fun hp => d4.2 p hp h.symm)⟩, e6, e7⟩
  · simp only [TSt.own, upEnt, List.cons_append, List.forall_mem_cons]
    exact ⟨f1, f2, d5, f3, f4⟩
  · intro u hu
    rcases List.mem_cons.mp hu with rfl | hu
    · exact O.dcur
    · exact O.dups u hu
  · intro u hu
    rcases List.mem_cons.mp hu with rfl | hu
    · exact O.okc
    · exact O.oku u hu
  · have := O.cnt
    dsimp only [cntUps, Nd.counts] at this ⊢
    omega
  · dsimp only [Nd.depths, List.length_cons]; omega
  · exact ⟨O.dep, O.depu⟩
  · have := O.fl
    dsimp only [flatUps, Nd.flats] at this ⊢
    rw [this, List.append_nil]
  · have := O.ll
    dsimp only at this ⊢
    omega
/-- a group is closed -/
theorem t_close {u : Up} (O : TSt.ok aS aL aR news i ⟨u :: ups, cur, vs, n, ks, l, nl, nS, tl⟩) :
    TSt.ok aS aL aR news (i + 1) ⟨ups, u.a, u.vs ++ [Value.ref cur], u.n, u.ks ++ [.bra ks], l, nl, nS + 1, (cur, listOf vs.toArray n) :: tl⟩ := by
  have e := O.pw
  have f := O.fr
  simp only [TSt.own, upEnt, List.cons_append, List.pairwise_cons, List.forall_mem_cons] at e f
  obtain ⟨⟨e1, e2, e8, e3⟩, ⟨e4, e9, e5⟩, ⟨e10, e6⟩, e11, e7⟩ := e
  obtain ⟨f1, f2, f3, f5, f4⟩ := f
  have hc := O.cnt
  have hd := O.dep
  have hu := O.depu
  dsimp only [cntUps, depUps, List.length_cons] at hc hd hu
  have hl := O.lup
  dsimp only [List.length_cons] at hl
  have sub : ∀ p ∈ tl, p ∈ (cur, listOf vs.toArray n) :: tl := fun p hp => .tail _ hp
  refine ⟨O.root, by dsimp only; omega, ?_, ?_, ?_, ?_, ?_, ?_, ?_, ?_, hu.2, ?_, ?_, ?_⟩
  · simp only [TSt.own, List.pairwise_cons, List.forall_mem_cons, List.forall_mem_append, List.pairwise_append] at *
    refine ⟨⟨e1, e8, e3.1, e2, e3.2⟩, ⟨e9, e5.1, e4, e5.2⟩, ⟨e11.1, fun h => e10 h.symm, e11.2⟩, e7.1, ⟨e6.2, e7.2.1⟩, fun p hp => ⟨fun h => e6.1 p hp h.symm, e7.2.2 p hp⟩⟩
  · simp only [TSt.own, List.forall_mem_cons, List.forall_mem_append] at *
    exact ⟨f1, f2, f5, f4.1, f3, f4.2⟩
  · dsimp only
    rw [dats_snoc]
    exact datAll_snoc (DatAll.mono sub (O.dups u (.head _))) (.list (.head _) (DatAll.mono sub O.dcur))
  · exact fun v hv => DatAll.mono sub (O.dups v (.tail _ hv))
  · exact oks_snoc (O.oku u (.head _)) O.okc
  · exact fun v hv => O.oku v (.tail _ hv)
  · dsimp only
    rw [counts_snoc, Nd.count]; omega
  · dsimp only
    rw [depths_snoc, Nd.depth]; omega
  · have := O.fl
    dsimp only [flatUps] at this ⊢
    rw [flats_snoc, Nd.flat, this, List.append_assoc]
  · have := (O.dups u (.head _)).length
    rw [Nd.dats_length] at this
    have := Nd.counts_ge u.ks
    dsimp only
    rw [List.length_append, List.length_singleton]; omega
  · have := O.ll
    dsimp only at this ⊢
    omega
/-- a leaf is laid -/
theorem t_leaf {lf : Nd} {x : List (Str × Tok)} {o : Obj} (O : TSt.ok aS aL aR news i ⟨ups, cur, vs, n, ks, l, nl, nS, tl⟩) (hD : ∀ q ∈ TSt.led aS aL news ⟨ups, cur, vs, n, ks, l, nl, nS, tl⟩, @Ne Nat q.1 D)
    (hd : DatIn [(D, o)] (.ref D) lf.dat) (hok : lf.ok) (hc : lf.count = 1) (h0 : lf.depth = 0) (hf : lf.flat = x.map (·.1)) (hx : x.length ≤ 3) :
    TSt.ok aS aL aR news (i + 1) ⟨ups, cur, vs ++ [Value.ref D], n + 1, ks ++ [lf], l ++ x, nl + 1, nS, (D, o) :: tl⟩ := by
  rw [own_led] at hD
  have e := O.pw
  have f := O.fr
  simp only [TSt.own, List.pairwise_cons, List.forall_mem_cons] at e f hD
  simp only [List.forall_mem_append, List.forall_mem_cons, TSt.own] at hD
  obtain ⟨⟨d1, d2, d3, d4⟩, d5⟩ := hD
  obtain ⟨⟨e1, e2, e3⟩, ⟨e4, e5⟩, e6, e7⟩ := e
  obtain ⟨f1, f2, f3, f4⟩ := f
  have hcn := O.cnt
  have hdp := O.dep
  dsimp only at hcn hdp
  have sub : ∀ p ∈ tl, p ∈ (D, o) :: tl := fun p hp => .tail _ hp
  refine ⟨O.root, O.lup, ?_, ?_, ?_, ?_, oks_snoc O.okc hok, O.oku, ?_, ?_, O.depu, ?_, ?_, ?_⟩
  · simp only [TSt.own, List.pairwise_cons, List.forall_mem_cons, List.forall_mem_append, List.pairwise_append] at *
    refine ⟨⟨e1, e2, e3.1, d1, e3.2⟩, ⟨e4, e5.1, d2, e5.2⟩, ⟨e6.1, d3, e6.2⟩, e7.1, ⟨fun p hp h => d4.2 p hp h.symm, e7.2.1⟩, fun p hp => ⟨d4.1 p hp, e7.2.2 p hp⟩⟩
  · simp only [TSt.own, List.forall_mem_cons, List.forall_mem_append] at *
    exact ⟨f1, f2, f3, f4.1, d5, f4.2⟩
  · dsimp only
    rw [dats_snoc]
    exact datAll_snoc (DatAll.mono sub O.dcur) (hd.mono fun p hp => by rw [List.mem_singleton.mp hp]; exact .head _)
  · exact fun v hv => DatAll.mono sub (O.dups v hv)
  · dsimp only
    rw [counts_snoc, hc]; omega
  · dsimp only
    rw [depths_snoc, h0]; omega
  · have := O.fl
    dsimp only at this ⊢
    rw [List.map_append, flats_snoc, this, hf, List.append_assoc]
  · have := O.lv
    dsimp only at this ⊢
    rw [List.length_append, List.length_singleton]; omega
  · have := O.ll
    dsimp only at this ⊢
    rw [List.length_append]; omega
/-- nothing is done -/
theorem t_same (O : TSt.ok aS aL aR news i ⟨ups, cur, vs, n, ks, l, nl, nS, tl⟩) : TSt.ok aS aL aR news (i + 1) ⟨ups, cur, vs, n, ks, l, nl, nS, tl⟩ :=
  ⟨O.root, O.lup, O.pw, O.fr, O.dcur, O.dups, O.okc, O.oku, Nat.le_succ_of_le O.cnt, O.dep, O.depu, O.fl, Nat.le_succ_of_le O.lv, Nat.le_trans O.ll (by omega)⟩
end
theorem wrap_dat {led : List (Addr × Obj)} : ∀ (ups : List Up) (child : Addr) (t : Nd), DatIn led (.ref child) t.dat → (∀ u ∈ ups, DatAll led u.vs (Nd.dats u.ks)) → (∀ e ∈ upEnt child ups, e ∈ led) → DatIn led (.ref (rootA child ups)) (wrapUps ups t).dat
  | [], _, _, h, _, _ => h
  | u :: r, child, t, h, hd, he => by
    refine wrap_dat r u.a (.bra (u.ks ++ [t])) ?_ (fun v hv => hd v (.tail _ hv)) (fun e hx => he e (.tail _ hx))
    rw [Nd.dat, dats_snoc]
    exact .list (he _ (.head _)) (datAll_snoc (hd u (.head _)) h)
theorem wrap_ok : ∀ (ups : List Up) (t : Nd), t.ok → (∀ u ∈ ups, Nd.oks u.ks) → (wrapUps ups t).ok
  | [], _, h, _ => h
  | u :: r, t, h, hu => wrap_ok r _ (show Nd.oks (u.ks ++ [t]) from oks_snoc (hu u (.head _)) h) fun v hv => hu v (.tail _ hv)
theorem wrap_count : ∀ (ups : List Up) (t : Nd), (wrapUps ups t).count = cntUps ups + t.count
  | [], t => by simp [wrapUps, cntUps]
  | u :: r, t => by rw [wrapUps, wrap_count r, cntUps, Nd.count, counts_snoc]; omega
theorem wrap_flat : ∀ (ups : List Up) (t : Nd), (wrapUps ups t).flat = flatUps ups ++ t.flat
  | [], t => by simp [wrapUps, flatUps]
  | u :: r, t => by rw [wrapUps, wrap_flat r, flatUps, Nd.flat, flats_snoc, List.append_assoc]
theorem wrap_depth : ∀ (ups : List Up) (t : Nd), t.depth + ups.length ≤ 4 → depUps ups → (wrapUps ups t).depth ≤ 4
  | [], t, h, _ => h
  | u :: r, t, h, hd => by
    rw [wrapUps]
    refine wrap_depth r _ ?_ hd.2
    rw [Nd.depth, depths_snoc]
    have := hd.1
    simp only [List.length_cons] at h
    omega
theorem wrap_bra : ∀ (ups : List Up) (ks : List Nd), ∃ ks', wrapUps ups (.bra ks) = .bra ks'
  | [], ks => ⟨ks, rfl⟩
  | u :: r, ks => wrap_bra r _
end Mine
end

-- part Tr1
section
open PySem PySem.W PyProof.Rows
namespace Mine
set_option maxRecDepth 100000
set_option maxHeartbeats 8000000

def Bit (p : List Nat) : Prop := p.length ≤ 1 ∧ ∀ c ∈ p, sign c
def Bar (p : List Nat) : Prop := bare p
def bitsS : List Str := [Str.ofString "", Str.ofString "\"", Str.ofString "(", Str.ofString ")", Str.ofString "'", Str.ofString ".", Str.ofString " ", Str.ofString "a"]
theorem bits_eq : bitsS = [tx [], tx [34], tx [40], tx [41], tx [39], tx [46], tx [32], tx [97]] := by decide +kernel
theorem bits_of {x : Str} (h : x ∈ bitsS) : ∃ p, x = tx p ∧ Bit p ∧ (tx p).length ≤ 1 := by
  rw [bits_eq] at h
  simp only [List.mem_cons, List.not_mem_nil, or_false] at h
  rcases h with rfl | rfl | rfl | rfl | rfl | rfl | rfl | rfl
  all_goals (refine ⟨_, rfl, ⟨by decide, ?_⟩, by decide⟩; simp [sign])
theorem bares_eq : bares = [tx [97, 98], tx [99, 95, 49], tx [68]] := by decide +kernel
theorem bares_of {x : Str} (h : x ∈ bares) : ∃ p, x = tx p ∧ Bar p ∧ (tx p).length ≤ 3 := by
  rw [bares_eq] at h
  simp only [List.mem_cons, List.not_mem_nil, or_false] at h
  rcases h with rfl | rfl | rfl
  · exact ⟨_, rfl, .inl rfl, by decide⟩
  · exact ⟨_, rfl, .inr (.inl rfl), by decide⟩
  · exact ⟨_, rfl, .inr (.inr rfl), by decide⟩
theorem strs_get : ∀ {l : List Value} {ys : List Str}, StrsAre l ys → ∀ {i : Nat}, i < ys.length → ∃ y t, l[i]? = some (.str y t) ∧ y ∈ ys
  | _, _, .nil, i, h => by simp at h
  | _, _, .cons y t r, 0, _ => ⟨y, t, rfl, .head _⟩
  | _, _, .cons y t r, i + 1, h => by
    obtain ⟨z, u, a, b⟩ := strs_get r (i := i) (by simpa using h)
    exact ⟨z, u, by simpa using a, .tail _ b⟩
theorem strs_len : ∀ {l : List Value} {ys : List Str}, StrsAre l ys → l.length = ys.length
  | _, _, .nil => rfl
  | _, _, .cons y t r => by rw [List.length_cons, List.length_cons, strs_len r]
theorem tab_K {prog : Program} {w : World} {A : Around} {E : Value → Shared → Prop} {s : Shared} {h₀ : Heap} {L : Addr} {m : Str → Option Value} {K : Frag} {a : Addr} {n : Nat} {value slice : Expr} {l : List Value} {dd : Option Addr} {sl : Array (Option Value)} {k : Int} {u : Tok} {Q : Value → Shared → Prop} (ys : List Str) (F : Fr h₀ L s.heap m) (X₀ : K.In h₀) (hl : K.lookup a = some ⟨.type "tuple", dd, .seq l.toArray n, sl⟩) (hy : StrsAre l ys)
    (hlo : 0 ≤ k) (hhi : k < ys.length) (h64 : ys.length < 1000) (h : ∀ x t, x ∈ ys → Q (.str x t) s)
    (hs : subscripted slice false (.ref a) (.int k u) = operate [.ref a, .int k u] (getItem (.ref a) (.int k u)) := by with_unfolding_all rfl) :
    wpAny (model prog w) A (subscriptTail value slice (.ref a) (.int k u)) Q E s := by
  obtain ⟨y, t, e, hm⟩ := strs_get hy (i := k.toNat) (by omega)
  have hlen := strs_len hy
  refine topTup_K F X₀ hl (by omega) (by omega) (j := k.toNat) ?_ e (h y t hm) hs
  unfold seqIndex?
  rw [hlen]
  have h1 : ¬ k < 0 := by omega
  have h2 : ¬ (k < 0 ∨ (ys.length : Int) ≤ k) := by omega
  have h3 : k < (ys.length : Int) := hhi
  simp [h1, h3, hlo]
theorem tab_bits {prog : Program} {w : World} {A : Around} {E : Value → Shared → Prop} {s : Shared} {h₀ : Heap} {L : Addr} {m : Str → Option Value} {K : Frag} {a : Addr} {n : Nat} {value slice : Expr} {l : List Value} {dd : Option Addr} {sl : Array (Option Value)} {k : Int} {u : Tok} {Q : Value → Shared → Prop} (F : Fr h₀ L s.heap m) (X₀ : K.In h₀) (hl : K.lookup a = some ⟨.type "tuple", dd, .seq l.toArray n, sl⟩) (hy : StrsAre l bitsS)
    (hlo : 0 ≤ k) (hhi : k < (bitsS.length : Int)) (h : ∀ p t, Bit p → (tx p).length ≤ 1 → Q (.str (tx p) t) s)
    (hs : subscripted slice false (.ref a) (.int k u) = operate [.ref a, .int k u] (getItem (.ref a) (.int k u))) :
    wpAny (model prog w) A (subscriptTail value slice (.ref a) (.int k u)) Q E s :=
  tab_K bitsS F X₀ hl hy hlo hhi (by decide) (fun x t hx => by obtain ⟨p, rfl, hb, hl⟩ := bits_of hx; exact h p t hb hl) hs
theorem tab_bare {prog : Program} {w : World} {A : Around} {E : Value → Shared → Prop} {s : Shared} {h₀ : Heap} {L : Addr} {m : Str → Option Value} {K : Frag} {a : Addr} {n : Nat} {value slice : Expr} {l : List Value} {dd : Option Addr} {sl : Array (Option Value)} {k : Int} {u : Tok} {Q : Value → Shared → Prop} (F : Fr h₀ L s.heap m) (X₀ : K.In h₀) (hl : K.lookup a = some ⟨.type "tuple", dd, .seq l.toArray n, sl⟩) (hy : StrsAre l bares)
    (hlo : 0 ≤ k) (hhi : k < (bares.length : Int)) (h : ∀ p t, Bar p → (tx p).length ≤ 3 → Q (.str (tx p) t) s)
    (hs : subscripted slice false (.ref a) (.int k u) = operate [.ref a, .int k u] (getItem (.ref a) (.int k u))) :
    wpAny (model prog w) A (subscriptTail value slice (.ref a) (.int k u)) Q E s :=
  tab_K bares F X₀ hl hy hlo hhi (by decide) (fun x t hx => by obtain ⟨p, rfl, hb, hl⟩ := bares_of hx; exact h p t hb hl) hs
theorem ints_mod {w zs : List Value} {ns : List Int} (hi : IntsAre w ns) (hP : Paired (fun v y => ∀ (n : Int) (t : Tok), v = Value.int n t → ∃ t', y = Value.int (Int.fmod n 3072) t') w zs) : ∀ v ∈ zs, ∃ (k : Int) (t : Tok), v = .int k t ∧ 0 ≤ k ∧ k < 3072 := by
  intro v hv
  have aux : ∀ {w zs : List Value}, Paired (fun v y => ∀ (n : Int) (t : Tok), v = Value.int n t → ∃ t', y = Value.int (Int.fmod n 3072) t') w zs → (∀ x ∈ w, ∃ n t, x = Value.int n t) → ∀ v ∈ zs, ∃ (k : Int) (t : Tok), v = .int k t ∧ 0 ≤ k ∧ k < 3072 := by
    intro w zs hP
    induction hP with
    | nil => intro _ v hv; cases hv
    | cons h _ ih =>
      intro hw v hv
      rcases List.mem_cons.mp hv with rfl | hv
      · obtain ⟨n, t, e⟩ := hw _ (.head _)
        obtain ⟨t', e'⟩ := h n t e
        exact ⟨_, t', e', Int.fmod_nonneg_of_pos _ (by decide), Int.fmod_lt_of_pos _ (by decide)⟩
      · exact ih (fun x hx => hw x (.tail _ hx)) v hv
  refine aux hP (fun x hx => ?_) v hv
  obtain ⟨i, e⟩ := List.getElem?_of_mem hx
  have hlt : i < ns.length := by
    have := hi.length
    have := (List.getElem?_eq_some_iff.mp e).1
    omega
  obtain ⟨t, ht⟩ := hi.get i ns[i] (by simp [hlt])
  exact ⟨ns[i], t, Option.some.inj (e.symm.trans ht)⟩
theorem paired_len {G : Value → Value → Prop} {a b : List Value} (h : Paired G a b) : a.length = b.length := by
  induction h with
  | nil => rfl
  | cons _ _ ih => rw [List.length_cons, List.length_cons, ih]

abbrev tupP (vs : Array Value) (n : Nat) : Obj := { cls := .type "tuple", data := .seq vs n }
structure LeafF (D : Addr) (lf : Nd) (x : List (Str × Tok)) : Prop where
  hd : DatIn [(D, tupP (strValues x).toArray 0)] (.ref D) lf.dat
  hok : lf.ok
  hc : lf.count = 1
  h0 : lf.depth = 0
  hf : lf.flat = x.map (·.1)
  hx : x.length ≤ 3
  hp : 0 < x.length
theorem leaf_n1 {D : Addr} {p : List Nat} {t1 t2 : Tok} (h : part p) : LeafF D (.nam [p]) [(Str.ofString "n", t1), (tx p, t2)] :=
  ⟨.tuple (vs := [.str (Str.ofString "n") t1, .str (tx p) t2]) (.head _) (.cons (.str _ _) (.cons (.str _ _) .nil)), .inl ⟨p, rfl, h⟩, rfl, rfl, rfl, by simp, by simp⟩
theorem leaf_n2 {D : Addr} {p q : List Nat} {t1 t2 t3 : Tok} (h : part p) (h2 : part q) : LeafF D (.nam [p, q]) [(Str.ofString "n", t1), (tx p, t2), (tx q, t3)] :=
  ⟨.tuple (vs := [.str (Str.ofString "n") t1, .str (tx p) t2, .str (tx q) t3]) (.head _) (.cons (.str _ _) (.cons (.str _ _) (.cons (.str _ _) .nil))), .inr ⟨p, q, rfl, h, h2⟩, rfl, rfl, rfl, by simp, by simp⟩
theorem leaf_t {D : Addr} {p : List Nat} {t1 t2 : Tok} (h : (Nd.lit p).ok) : LeafF D (.lit p) [(Str.ofString "t", t1), (tx p, t2)] :=
  ⟨.tuple (vs := [.str (Str.ofString "t") t1, .str (tx p) t2]) (.head _) (.cons (.str _ _) (.cons (.str _ _) .nil)), h, rfl, rfl, rfl, by simp, by simp⟩
theorem part_bar {p : List Nat} (h : Bar p) : part p := .inl h
theorem part_b1 {p : List Nat} (h : Bit p) : part p := .inr ⟨Nat.le_succ_of_le h.1, h.2⟩
theorem part_b2 {p q : List Nat} (h : Bit p) (h2 : Bit q) : part (p ++ q) := .inr ⟨by have := h.1; have := h2.1; rw [List.length_append]; omega, fun c hc => (List.mem_append.mp hc).elim (h.2 c) (h2.2 c)⟩
theorem lit_b3 {p q r : List Nat} (h : Bit p) (h2 : Bit q) (h3 : Bit r) : (Nd.lit (p ++ q ++ r)).ok :=
  ⟨by have := h.1; have := h2.1; have := h3.1; rw [List.length_append, List.length_append]; omega, fun c hc => (List.mem_append.mp hc).elim (fun hc => (List.mem_append.mp hc).elim (h.2 c) (h2.2 c)) (h3.2 c)⟩

section
variable {aS aL aR D I : Addr} {news tl : List (Addr × Obj)} {lo oI : Obj} {i : Nat} {ups : List Up} {cur : Addr} {vs : List Value} {n nl nS : Nat} {ks : List Nd} {l : List (Str × Tok)}
theorem t_start (h1 : @Ne Nat aS aL) (h2 : @Ne Nat aS aR) (h3 : @Ne Nat aL aR) (n1 : ∀ p ∈ news, @Ne Nat p.1 aS) (n2 : ∀ p ∈ news, @Ne Nat p.1 aL) (n3 : ∀ p ∈ news, @Ne Nat p.1 aR) :
    TSt.ok aS aL aR news 0 ⟨[], aR, [], 0, [], [], 0, 0, []⟩ := by
  refine ⟨rfl, Nat.zero_le _, ?_, ?_, .nil, (by intro u hu; cases hu), trivial, (by intro u hu; cases hu), Nat.le_refl _, Nat.zero_le _, trivial, rfl, Nat.le_refl _, Nat.le_refl _⟩
  · simp only [TSt.own, upEnt, List.append_nil, List.pairwise_cons, List.forall_mem_cons]
    exact ⟨⟨h1, h2, List.forall_mem_nil _⟩, ⟨h3, List.forall_mem_nil _⟩, List.forall_mem_nil _, .nil⟩
  · simp only [TSt.own, upEnt, List.append_nil, List.forall_mem_cons]
    exact ⟨n1, n2, n3, List.forall_mem_nil _⟩
theorem t_ne (O : TSt.ok aS aL aR ((D, lo) :: news) i ⟨ups, cur, vs, n, ks, l, nl, nS, tl⟩) (hI : ∀ p ∈ TSt.led aS aL ((D, lo) :: news) ⟨ups, cur, vs, n, ks, l, nl, nS, tl⟩, @Ne Nat p.1 I) :
    (@Ne Nat I D ∧ @Ne Nat I aS ∧ @Ne Nat I aL ∧ @Ne Nat I cur) ∧ (@Ne Nat D aS ∧ @Ne Nat D aL ∧ @Ne Nat D cur) ∧ (@Ne Nat aS aL ∧ @Ne Nat aS cur ∧ @Ne Nat aL cur) ∧
    (∀ p ∈ upEnt cur ups ++ (tl ++ (D, lo) :: news), p.1 ≠ aS) ∧ (∀ p ∈ upEnt cur ups ++ (tl ++ (D, lo) :: news), p.1 ≠ aL) ∧ (∀ p ∈ upEnt cur ups ++ (tl ++ (D, lo) :: news), p.1 ≠ cur) := by
  have e := O.pw
  have f := O.fr
  simp only [TSt.led, TSt.own, List.pairwise_cons, List.forall_mem_cons, List.forall_mem_append] at *
  obtain ⟨⟨e1, e2, e3, e4⟩, ⟨e5, e6, e7⟩, ⟨e8, e9⟩, _⟩ := e
  obtain ⟨⟨f1, f1'⟩, ⟨f2, f2'⟩, ⟨f3, f3'⟩, f4, f5⟩ := f
  obtain ⟨i1, i2, i3, i4, i5, i6, i7⟩ := hI
  exact ⟨⟨fun h => i6 h.symm, fun h => i1 h.symm, fun h => i2 h.symm, fun h => i3 h.symm⟩, ⟨f1, f2, f3⟩, ⟨e1, e2, e5⟩,
    ⟨fun p hp h => e3 p hp h.symm, fun p hp h => e4 p hp h.symm, f1, f1'⟩, ⟨fun p hp h => e6 p hp h.symm, fun p hp h => e7 p hp h.symm, f2, f2'⟩, ⟨fun p hp h => e8 p hp h.symm, fun p hp h => e9 p hp h.symm, f3, f3'⟩⟩
structure LeafP (h₀ : Heap) (L : Addr) (h : Heap) (D2 : Addr) (lf : Nd) (x : List (Str × Tok)) (rest : List (Addr × Obj)) : Prop where
  lf : LeafF D2 lf x
  lt : ∀ p ∈ rest, @LT.lt Nat _ p.1 D2
theorem leaf_pack {h₀ h : Heap} {L D2 : Addr} {lf : Nd} {x : List (Str × Tok)} {rest : List (Addr × Obj)} (hLF : LeafF D2 lf x) (_N : News h₀ L h ((D2, tupP (strValues x).toArray 0) :: rest)) (hl : AllLt D2 rest) : LeafP h₀ L h D2 lf x rest :=
  ⟨hLF, ktn_ltOf hl⟩
theorem strValues_append (a b : List (Str × Tok)) : strValues (a ++ b) = strValues a ++ strValues b := by simp [strValues]
theorem ext_leaf {prog : Program} {w : World} {A : Around} {E : Value → Shared → Prop} {s : Shared} {h₀ : Heap} {L : Addr} {m : Str → Option Value} {news news' : List (Addr × Obj)} {b D : Addr} {l x : List (Str × Tok)} {n : Nat} {Q : Value → Shared → Prop}
    (F : Fr h₀ L s.heap m) (N : News h₀ L s.heap news) (hb : (b, tupP (strValues x).toArray 0) ∈ news) (hx : 0 < x.length) (hx3 : x.length ≤ 3) (hl : l.length ≤ 1000)
    (U : Upd D (listOf (strValues l).toArray n) (listOf (strValues (l ++ x)).toArray (n + 1)) news news')
    (h : ∀ h', Fr h₀ L h' m → News h₀ L h' news' → Q .none { s with heap := h' }) : wpAny (model prog w) A (call (.builtin "list.extend") [.ref D, .ref b]) Q E s := by
  have e1 : (strValues l).length = l.length := by simp [strValues]
  have e2 : (strValues x).length = x.length := by simp [strValues]
  refine kup_extend (l := strValues (l ++ x)) F N hb (by rw [strValues_append]) ?_ U ?_ ?_ ?_ h
  · show (strValues x).length ≠ 0
    omega
  · have e3 : Builtin.List.listTooLong ((strValues l).toArray.size + (strValues x).toArray.size) = false := by
      unfold Builtin.List.listTooLong
      rw [List.size_toArray, List.size_toArray, e1, e2]
      first
        | exact decide_eq_false (by omega)
        | (rw [sizeLine_eq]; exact decide_eq_false (by omega))
        | (simp only [sizeLine_eq, decide_eq_false_iff_not]; omega)
    rw [e3]; simp
  · show (strValues l).length ≤ sizeLine
    rw [sizeLine_eq]; omega
  · rw [List.size_toArray, List.size_toArray, sizeLine_eq]; omega
theorem leaf_fin {h₀ h h5 : Heap} {L D2 : Addr} {lf : Nd} {x : List (Str × Tok)} {rest newsF : List (Addr × Obj)} {s : Shared} {tk : Nat} {m' : Str → Option Value} {Q : Flow → Shared → Prop} (P : LeafP h₀ L h5 D2 lf x rest)
    (O : TSt.ok aS aL aR ((D, lo) :: news) i ⟨ups, cur, vs, n, ks, l, nl, nS, tl⟩) (hI : ∀ p ∈ TSt.led aS aL ((D, lo) :: news) ⟨ups, cur, vs, n, ks, l, nl, nS, tl⟩, @Ne Nat p.1 I)
    (hr : ∀ p ∈ (I, oI) :: (D, lo) :: TSt.led aS aL ((D, lo) :: news) ⟨ups, cur, vs, n, ks, l, nl, nS, tl⟩, p ∈ rest)
    (F : Fr h₀ L h m') (N : News h₀ L h newsF)
    (hN : ∀ p ∈ (D2, tupP (strValues x).toArray 0) :: (I, oI) :: (D, lo) :: (aS, listOf (refs ups ++ [Value.ref cur]).toArray nS) :: (aL, listOf (strValues (l ++ x)).toArray (nl + 1)) :: (cur, listOf (vs ++ [Value.ref D2]).toArray (n + 1)) :: (upEnt cur ups ++ (tl ++ (D, lo) :: news)), p ∈ newsF)
    (hk : ∀ p ∈ TSt.ps aS aL aR ⟨ups, cur, vs, n, ks, l, nl, nS, tl⟩, m' p.1 = some p.2) :
    FPost h₀ L I oI D lo s (TSt.ps aS aL aR) (TSt.led aS aL ((D, lo) :: news)) (TSt.ok aS aL aR ((D, lo) :: news)) i Q .next { s with heap := h, toks := tk } := by
  have hD : ∀ q ∈ TSt.led aS aL ((D, lo) :: news) ⟨ups, cur, vs, n, ks, l, nl, nS, tl⟩, @Ne Nat q.1 D2 := fun q hq => Nat.ne_of_lt (P.lt q (hr q (.tail _ (.tail _ hq))))
  have hI2 : @Ne Nat D2 I := Nat.ne_of_gt (P.lt _ (hr _ (.head _)))
  have sub : ∀ p ∈ TSt.led aS aL ((D, lo) :: news) ⟨ups, cur, vs ++ [Value.ref D2], n + 1, ks ++ [lf], l ++ x, nl + 1, nS, (D2, tupP (strValues x).toArray 0) :: tl⟩, p ∈ (D2, tupP (strValues x).toArray 0) :: (I, oI) :: (D, lo) :: (aS, listOf (refs ups ++ [Value.ref cur]).toArray nS) :: (aL, listOf (strValues (l ++ x)).toArray (nl + 1)) :: (cur, listOf (vs ++ [Value.ref D2]).toArray (n + 1)) :: (upEnt cur ups ++ (tl ++ (D, lo) :: news)) := by
    intro p hp
    dsimp only [TSt.led] at hp
    simp only [List.mem_cons, List.mem_append] at hp ⊢
    rcases hp with hp | hp | hp | hp | (hp | hp) | hp | hp <;> simp [hp]
  refine fpost_go ⟨ups, cur, vs ++ [Value.ref D2], n + 1, ks ++ [lf], l ++ x, nl + 1, nS, (D2, tupP (strValues x).toArray 0) :: tl⟩ F N (hN _ (.tail _ (.head _))) (hN _ (.tail _ (.tail _ (.head _)))) (fun p hp => hN p (sub p hp)) ?_ hk (t_leaf O hD P.lf.hd P.lf.hok P.lf.hc P.lf.h0 P.lf.hf P.lf.hx)
  simp only [TSt.led, List.forall_mem_cons, List.forall_mem_append, List.cons_append] at hI ⊢
  obtain ⟨i1, i2, i3, i4, i5, i6, i7⟩ := hI
  exact ⟨i1, i2, i3, i4, hI2, i5, i6, i7⟩
theorem sub2 {α : Type} {a b c : α} {T : List α} : ∀ p ∈ a :: T, p ∈ a :: b :: c :: T := fun p hp => by
  rcases List.mem_cons.mp hp with rfl | hp
  · exact .head _
  · exact .tail _ (.tail _ (.tail _ hp))
theorem sub4 {α : Type} {a b c d e : α} {T : List α} : ∀ p ∈ a :: T, p ∈ a :: b :: c :: d :: e :: T := fun p hp => by
  rcases List.mem_cons.mp hp with rfl | hp
  · exact .head _
  · exact .tail _ (.tail _ (.tail _ (.tail _ (.tail _ hp))))
theorem sub12 {α : Type} {a b c d : α} {T : List α} : ∀ p ∈ a :: T, p ∈ d :: a :: b :: c :: T := fun p hp => .tail _ (sub2 p hp)
theorem same_fin {h₀ h : Heap} {L : Addr} {newsF : List (Addr × Obj)} {s : Shared} {tk : Nat} {m' : Str → Option Value} {Q : Flow → Shared → Prop}
    (O : TSt.ok aS aL aR ((D, lo) :: news) i ⟨ups, cur, vs, n, ks, l, nl, nS, tl⟩) (hI : ∀ p ∈ TSt.led aS aL ((D, lo) :: news) ⟨ups, cur, vs, n, ks, l, nl, nS, tl⟩, @Ne Nat p.1 I)
    (F : Fr h₀ L h m') (N : News h₀ L h newsF)
    (hN : ∀ p ∈ (I, oI) :: (D, lo) :: TSt.led aS aL ((D, lo) :: news) ⟨ups, cur, vs, n, ks, l, nl, nS, tl⟩, p ∈ newsF)
    (hk : ∀ p ∈ TSt.ps aS aL aR ⟨ups, cur, vs, n, ks, l, nl, nS, tl⟩, m' p.1 = some p.2) :
    FPost h₀ L I oI D lo s (TSt.ps aS aL aR) (TSt.led aS aL ((D, lo) :: news)) (TSt.ok aS aL aR ((D, lo) :: news)) i Q .next { s with heap := h, toks := tk } :=
  fpost_go ⟨ups, cur, vs, n, ks, l, nl, nS, tl⟩ F N (hN _ (.head _)) (hN _ (.tail _ (.head _))) (fun p hp => hN p (.tail _ (.tail _ hp))) hI hk (t_same O)
theorem open_fin {h₀ h : Heap} {L D2 : Addr} {newsF : List (Addr × Obj)} {s : Shared} {tk : Nat} {m' : Str → Option Value} {Q : Flow → Shared → Prop}
    (O : TSt.ok aS aL aR ((D, lo) :: news) i ⟨ups, cur, vs, n, ks, l, nl, nS, tl⟩) (hI : ∀ p ∈ TSt.led aS aL ((D, lo) :: news) ⟨ups, cur, vs, n, ks, l, nl, nS, tl⟩, @Ne Nat p.1 I)
    (hlen : ((refs ups ++ [Value.ref cur]).toArray.size : Int) < 4)
    (hr : AllLt D2 ((I, oI) :: (D, lo) :: TSt.led aS aL ((D, lo) :: news) ⟨ups, cur, vs, n, ks, l, nl, nS, tl⟩))
    (F : Fr h₀ L h m') (N : News h₀ L h newsF)
    (hN : ∀ p ∈ (D2, listOf #[] 0) :: (I, oI) :: (D, lo) :: (aS, listOf (refs ups ++ [Value.ref cur] ++ [Value.ref D2]).toArray (nS + 1)) :: (aL, listOf (strValues l).toArray nl) :: (cur, listOf (vs ++ [Value.ref D2]).toArray (n + 1)) :: (upEnt cur ups ++ (tl ++ (D, lo) :: news)), p ∈ newsF)
    (hk : ∀ p ∈ TSt.ps aS aL aR ⟨ups, cur, vs, n, ks, l, nl, nS, tl⟩, m' p.1 = some p.2) :
    FPost h₀ L I oI D lo s (TSt.ps aS aL aR) (TSt.led aS aL ((D, lo) :: news)) (TSt.ok aS aL aR ((D, lo) :: news)) i Q .next { s with heap := h, toks := tk } := by
  have hlt := ktn_ltOf hr
  have hD : ∀ q ∈ TSt.led aS aL ((D, lo) :: news) ⟨ups, cur, vs, n, ks, l, nl, nS, tl⟩, @Ne Nat q.1 D2 := fun q hq => Nat.ne_of_lt (hlt q (.tail _ (.tail _ hq)))
  have hI2 : @Ne Nat D2 I := Nat.ne_of_gt (hlt _ (.head _))
  have h3 : ups.length < 3 := by
    rw [List.size_toArray, List.length_append, refs_length, List.length_singleton] at hlen; omega
  refine fpost_go ⟨⟨cur, vs, n + 1, ks⟩ :: ups, D2, [], 0, [], l, nl, nS + 1, tl⟩ F N (hN _ (.tail _ (.head _))) (hN _ (.tail _ (.tail _ (.head _)))) (fun p hp => hN p ?_) ?_ hk (t_open O h3 hD)
  · dsimp only [TSt.led, upEnt] at hp
    rw [refs_cons] at hp
    simp only [List.mem_cons, List.mem_append] at hp ⊢
    rcases hp with hp | hp | hp | (hp | hp) | hp | hp | hp <;> simp [hp]
  · simp only [TSt.led, upEnt, List.forall_mem_cons, List.forall_mem_append, List.cons_append] at hI ⊢
    obtain ⟨i1, i2, i3, i4, i5, i6, i7⟩ := hI
    exact ⟨i1, i2, hI2, i3, i4, i5, i6, i7⟩
theorem close_fin {h₀ h : Heap} {L : Addr} {newsF : List (Addr × Obj)} {s : Shared} {tk : Nat} {m' : Str → Option Value} {Q : Flow → Shared → Prop} {u : Up}
    (O : TSt.ok aS aL aR ((D, lo) :: news) i ⟨u :: ups, cur, vs, n, ks, l, nl, nS, tl⟩) (hI : ∀ p ∈ TSt.led aS aL ((D, lo) :: news) ⟨u :: ups, cur, vs, n, ks, l, nl, nS, tl⟩, @Ne Nat p.1 I)
    (F : Fr h₀ L h m') (N : News h₀ L h newsF)
    (hN : ∀ p ∈ (I, oI) :: (D, lo) :: (aS, listOf (refs (u :: ups)).toArray (nS + 1)) :: (aL, listOf (strValues l).toArray nl) :: (cur, listOf vs.toArray n) :: (upEnt cur (u :: ups) ++ (tl ++ (D, lo) :: news)), p ∈ newsF)
    (hk : ∀ p ∈ TSt.ps aS aL aR ⟨ups, cur, vs, n, ks, l, nl, nS, tl⟩, m' p.1 = some p.2) :
    FPost h₀ L I oI D lo s (TSt.ps aS aL aR) (TSt.led aS aL ((D, lo) :: news)) (TSt.ok aS aL aR ((D, lo) :: news)) i Q .next { s with heap := h, toks := tk } := by
  refine fpost_go ⟨ups, u.a, u.vs ++ [.ref cur], u.n, u.ks ++ [.bra ks], l, nl, nS + 1, (cur, listOf vs.toArray n) :: tl⟩ F N (hN _ (.head _)) (hN _ (.tail _ (.head _))) (fun p hp => hN p ?_) ?_ hk (t_close O)
  · dsimp only [TSt.led] at hp
    rw [refs_cons]
    simp only [upEnt, List.cons_append, List.mem_cons, List.mem_append] at hp ⊢
    rcases hp with hp | hp | hp | hp | hp | hp | hp | hp <;> simp [hp]
  · simp only [TSt.led, upEnt, List.forall_mem_cons, List.forall_mem_append, List.cons_append] at hI ⊢
    obtain ⟨i1, i2, i3, i3', i4, i5, i6, i7⟩ := hI
    exact ⟨i1, i2, i3', i4, i3, i5, i6, i7⟩
theorem sub1 {α : Type} {a b : α} {T : List α} : ∀ p ∈ a :: T, p ∈ a :: b :: T := fun p hp => by
  rcases List.mem_cons.mp hp with rfl | hp
  · exact .head _
  · exact .tail _ (.tail _ hp)
def TrRet (h₀ : Heap) (L : Addr) (m : Str → Option Value) (news : List (Addr × Obj)) (s : Shared) (R : Result → Shared → Prop) : Prop :=
  ∀ h' tk' r aR aL nl l ks tlx, Fr h₀ L h' m → News h₀ L h' ((r, tupP #[.ref aR, .ref aL] 0) :: (aL, listOf (strValues l).toArray nl) :: (tlx ++ news)) → DatIn tlx (.ref aR) (Nd.bra ks).dat → (Nd.bra ks).ok → (Nd.bra ks).count ≤ 13 → (Nd.bra ks).depth ≤ 4 → l.map (·.1) = (Nd.bra ks).flat → l.length ≤ 36 → R (.ok (.ret (.ref r))) { s with heap := h', toks := tk' }
theorem tr_fin {h₀ h' : Heap} {L r : Addr} {m : Str → Option Value} {s : Shared} {R : Result → Shared → Prop} {tk : Nat} (ret : TrRet h₀ L m news s R) (hi : i ≤ 12)
    (O : TSt.ok aS aL aR ((D, lo) :: news) i ⟨ups, cur, vs, n, ks, l, nl, nS, tl⟩) (F : Fr h₀ L h' m)
    (N : News h₀ L h' ((r, tupP #[.ref aR, .ref aL] 0) :: (D, lo) :: TSt.led aS aL ((D, lo) :: news) ⟨ups, cur, vs, n, ks, l, nl, nS, tl⟩)) :
    R (.ok (.ret (.ref r))) { s with heap := h', toks := tk } := by
  obtain ⟨ks', e⟩ := wrap_bra ups ks
  have hd : DatIn ((cur, listOf vs.toArray n) :: (upEnt cur ups ++ tl)) (.ref (rootA cur ups)) (wrapUps ups (.bra ks)).dat := by
    refine wrap_dat ups cur _ (.list (.head _) (DatAll.mono (fun p hp => .tail _ (List.mem_append_right _ hp)) O.dcur)) (fun u hu => DatAll.mono (fun p hp => .tail _ (List.mem_append_right _ hp)) (O.dups u hu)) (fun p hp => .tail _ (List.mem_append_left _ hp))
  have hok : (wrapUps ups (.bra ks)).ok := wrap_ok ups _ O.okc O.oku
  have hcn : (wrapUps ups (.bra ks)).count ≤ 13 := by
    rw [wrap_count, Nd.count]
    have := O.cnt
    dsimp only at this
    omega
  have hdp : (wrapUps ups (.bra ks)).depth ≤ 4 := by
    refine wrap_depth ups _ ?_ O.depu
    have := O.dep
    dsimp only at this
    rw [Nd.depth]; omega
  have hfl : l.map (·.1) = (wrapUps ups (.bra ks)).flat := by
    rw [wrap_flat, Nd.flat]; exact O.fl
  have hll := O.ll
  dsimp only at hll
  rw [e] at hd hok hcn hdp hfl
  rw [show rootA cur ups = aR from O.root] at hd
  refine ret h' tk r aR aL nl l ks' _ F (fun p hp => N p ?_) hd hok hcn hdp hfl (by omega)
  simp only [TSt.led, List.cons_append, List.append_assoc, List.mem_cons, List.mem_append] at hp ⊢
  rcases hp with hp | hp | hp | hp | hp | hp <;> simp [hp]
end
end Mine
end

-- part Tr
section
open PySem PySem.W PyProof.Rows
namespace Mine
set_option maxRecDepth 100000
set_option maxHeartbeats 8000000

theorem m8 (z : Int) : 0 ≤ z.fmod 8 ∧ z.fmod 8 < (bitsS.length : Int) := ⟨Int.fmod_nonneg_of_pos _ (by decide), Int.fmod_lt_of_pos _ (by decide)⟩
theorem m3 (z : Int) : 0 ≤ z.fmod 3 ∧ z.fmod 3 < (bares.length : Int) := ⟨Int.fmod_nonneg_of_pos _ (by decide), Int.fmod_lt_of_pos _ (by decide)⟩
section
local macro_rules | `(tactic| walk_at "unpackItems ref") => `(tactic| (refine' unpackItemsN_ ?k1 ?k2 ?k3 ?k4 ?k5 ?_; (case k1 => k_asm); (case k2 => k_asm); (case k3 => kun_tup); (case k4 => (first | exact rfl | assumption)); (case k5 => exact rfl); intro h' F' N'))
local macro_rules | `(tactic| walk_at "And") => `(tactic| ((with_reducible show _ ∧ (Keeps _ _)); refine stop_ ?_))
local macro_rules | `(tactic| kspl_size) => `(tactic| (rw [sizeLine_eq]; omega))
local macro_rules | `(tactic| k_all) => `(tactic| assumption)
local macro_rules | `(tactic| walk_at "call builtin:len") => `(tactic| ((with_reducible show wpAny _ _ (call (Value.builtin "len") [Value.ref _]) _ _ _); (refine' len_list ?hl ?hf ?_; (case hl => exact News.isList (by k_asm) (by k_mem)); (case hf => (rw [List.size_toArray, List.length_append, refs_length]; simp only [List.length_cons, List.length_nil]; omega)))))
local macro_rules | `(tactic| walk_at "subscriptTail Name UnaryOp ref int") => `(tactic| (refine' last_K ?N ?m ?z ?_; (case N => assumption); (case m => k_mem); (case z => (first | (rw [refs_length]; omega) | omega))))
local macro_rules | `(tactic| walk_at "subscriptTail Subscript UnaryOp ref int") => `(tactic| (refine' last_K ?N ?m ?z ?_; (case N => assumption); (case m => k_mem); (case z => omega)))
local macro_rules | `(tactic| walk_at "subscriptTail Name BinOp ref int") => `(tactic| (refine' tab_bits ?F ?X ?hl ?hy ?h0 ?hk ?_ ?hs; (case F => k_asm); (case X => assumption); (case hl => k_dflt k_is); (case hy => (exact .cons _ _ (.cons _ _ (.cons _ _ (.cons _ _ (.cons _ _ (.cons _ _ (.cons _ _ (.cons _ _ .nil))))))))); (case hs => with_unfolding_all rfl); (case h0 => (first | exact (m8 _).1 | assumption)); (case hk => (first | exact (m8 _).2 | assumption)); (intro p' t' hb' hl')))
local macro_rules | `(tactic| walk_at "subscriptTail Name BinOp ref int") => `(tactic| (refine' tab_bare ?F ?X ?hl ?hy ?h0 ?hk ?_ ?hs; (case F => k_asm); (case X => assumption); (case hl => k_dflt k_is); (case hy => (exact .cons _ _ (.cons _ _ (.cons _ _ .nil)))); (case hs => with_unfolding_all rfl); (case h0 => (exact (m3 _).1)); (case hk => (exact (m3 _).2)); (intro p' t' hb' hl')))
local macro_rules | `(tactic| walk_at "call builtin:list.append") => `(tactic| refine stop_ ?_)
local macro_rules | `(tactic| walk_at "call builtin:list.pop") => `(tactic| refine stop_ ?_)
local macro_rules | `(tactic| walk_at "call builtin:list.extend") => `(tactic| refine stop_ ?_)
local macro_rules | `(tactic| walk_at "pyIter") => `(tactic| refine stop_ ?_)
local macro_rules | `(tactic| walk_at "eval ListComp") => `(tactic| refine stop_ ?_)
local macro_rules | `(tactic| walk_at "exec For") => `(tactic| refine stop_ ?_)

theorem tr_ok (w : World) (mean : ExcName → Option Value) (mg mb : Str → Option Value) (A A₀ : Around) (env : Env) (outer : List Env) (base h₀ : Heap) (L : Addr) (m : Str → Option Value) (news : List (Addr × Obj)) (s : Shared) (R : Result → Shared → Prop)
   (ax : Addr) (vs : List Value) (ns : List Int) (hls : h₀.IsList ax vs.toArray) (hI : IntsAre vs ns) (hln : ns.length ≤ 63)
   (B : Below A₀ base outer h₀) (F : Fr h₀ L s.heap m) (X : (Mine.hd.heap_39 w.params).In h₀) (N : News h₀ L s.heap news)
   (T : Top Mine.hd.view_39 (looseW Mine.hd.view_39 [Str.ofString "find_matching_paren"]) mean mg mb h₀)
   (hf : A.frames = some (env :: outer)) (hL : env.frame = some L) (hk : env.scope.kind = .function) (hd : A.depth + 2 < recursionLimit) (hh : A.handled = none)
   (ret : TrRet h₀ L m news s R) :
   codeAny (model PySem.Challenge.rw_bn5032_01.row.prog w) A (.call (.ref 56) ⟨[.ref ax], []⟩) R s := by
  w_top off; revert X; k_fill; intro X
  refine code_def B F X N T hf hL hk (by k_dflt k_is) (by k_dflt k_is) (by k_dflt ktr_room) (by k_dflt (exact BindsTo.of_eq rfl)) (by k_dflt (exact locs rfl)) ?_ (by k_dflt (exact rfl)) (by k_dflt (exact rfl)) (by k_dflt (exact rfl)) (by k_dflt decide)
  intro g' L' h' FG' F' N' B' X' T'
  have hls' : g'.IsList ax vs.toArray := by
    obtain ⟨o, ho, r⟩ := hls
    exact ⟨o, FG'.keep _ _ ho, r⟩
  clear hls
  refine wpAny_noRaise ?_
  (try dsimp only); (try k_fold)
  k_steps
  unfold Stop
  rename (Fr g' L' _ _) => F1
  refine For_invVF F1 rfl rfl ?_
  k_steps
  unfold Stop
  refine hide_ ?_
  refine wpAny_ListComp_free (fun _ => true) (fun v y => ∀ n t, v = .int n t → ∃ t', y = .int (Int.fmod n 3072) t') (by with_unfolding_all rfl) (by decide) rfl (by decide) rfl ?_ (by intro _; rfl)
  k_steps
  unfold Stop
  rename_i aS hb hc hd D1 w1 h9 F9 N9 I9 hc9 hl9 l9
  refine lc_go (A := A.deeper _) (s := { s with heap := h9, toks := _ }) hh F9 N9 (N9.isList (.head _)) ?_ _ ?_ ?_
  · have := I9.length
    rw [sizeLine_eq, List.size_toArray]; omega
  · intro C v s₃ m₃ hv hn hm F3 N3 htk
    obtain ⟨i, hi⟩ := List.getElem?_of_mem (show v ∈ w1 by simpa using hv)
    have hlt : i < (ns.take 12).length := by
      have := I9.length
      have := (List.getElem?_eq_some_iff.mp hi).1
      omega
    obtain ⟨t, ht⟩ := I9.get i (ns.take 12)[i] (List.getElem?_eq_getElem hlt)
    obtain rfl : v = .int (ns.take 12)[i] t := Option.some.inj (hi.symm.trans ht)
    generalize (ns.take 12)[i] = nn at hm ⊢
    k_steps
    exact Stop.out ⟨fun n t e => by cases e; exact ⟨_, rfl⟩, _, _, rfl, fun _ _ e => e⟩
  · intro D h' tk ys nn FF NN neD hP
    refine Hide.out ?_
    dsimp only
    obtain ⟨zs, rfl⟩ : ∃ zs : List Value, ys = zs.toArray := ⟨ys.toList, by simp⟩
    have hP' : Paired (fun v y => ∀ (n : Int) (t : Tok), v = Value.int n t → ∃ t', y = Value.int (Int.fmod n 3072) t') w1 zs := by simpa using hP
    have hz := ints_mod I9 hP'
    have hzl : zs.length ≤ 12 := by
      have := paired_len hP'
      have := I9.length
      omega
    obtain ⟨aL, aR, eL, eR, NZ⟩ : ∃ aL aR, aL = _ ∧ aR = _ ∧ News g' L' _ ((D, _) :: (D1, _) :: (aS, _) :: (_, _) :: (aL, listOf #[] 0) :: (aR, listOf #[] 0) :: news) := ⟨_, _, rfl, rfl, NN⟩
    subst eL eR
    have lRL : aR < aL := by rename (aR < aL ∧ _) => q; exact q.1
    have lR : ∀ p ∈ news, p.1 < aR := by assumption
    have lL : AllLt aL news := by rename (aR < aL ∧ _) => q; exact q.2
    refine my_for (TSt.ps aS aL aR) (TSt.led aS aL ((D, listOf zs.toArray nn) :: news)) (TSt.ok aS aL aR ((D, listOf zs.toArray nn) :: news)) ⟨[], aR, [], 0, [], [], 0, 0, []⟩ (s := { s with heap := h', toks := tk }) hh FF NN (.head _) ?_ ?_ ?_ ?_ ?_
    · simp only [TSt.led, upEnt, List.nil_append]
      exact List.forall_mem_cons.mpr ⟨.tail _ (.tail _ (.head _)), List.forall_mem_cons.mpr ⟨.tail _ (.tail _ (.tail _ (.tail _ (.head _)))), List.forall_mem_cons.mpr ⟨.tail _ (.tail _ (.tail _ (.tail _ (.tail _ (.head _))))), List.forall_mem_cons.mpr ⟨.head _, fun p hp => .tail _ (.tail _ (.tail _ (.tail _ (.tail _ (.tail _ hp)))))⟩⟩⟩⟩
    · dsimp only [TSt.ps]
      repeat' (first | exact List.forall_mem_nil _ | refine List.forall_mem_cons.mpr ⟨?_, ?_⟩)
      all_goals exact rfl
    · refine t_start (Nat.ne_of_gt hc.2.1) (Nat.ne_of_gt hc.2.2.1) (Nat.ne_of_gt lRL) ?_ ?_ ?_
      · exact List.forall_mem_cons.mpr ⟨fun e => neD _ (.tail _ (.head _)) e.symm, fun p hp => Nat.ne_of_lt (ktn_ltOf hc.2.2.2 p hp)⟩
      · exact List.forall_mem_cons.mpr ⟨fun e => neD _ (.tail _ (.tail _ (.tail _ (.head _)))) e.symm, fun p hp => Nat.ne_of_lt (ktn_ltOf lL p hp)⟩
      · exact List.forall_mem_cons.mpr ⟨fun e => neD _ (.tail _ (.tail _ (.tail _ (.tail _ (.head _))))) e.symm, fun p hp => Nat.ne_of_lt (lR p hp)⟩
    · rintro i v ⟨ups, cur, vv, n, ks, l, nl, nS, tl⟩ u h tk I oI hvi O F1 N1 hneI
      obtain ⟨k, tk0, rfl, hk0, hk1⟩ := hz v (List.mem_of_getElem? hvi)
      have hi12 : i < 12 := by
        have := (List.getElem?_eq_some_iff.mp hvi).1
        omega
      have hups : ups.length ≤ 3 := O.lup
      have hvl : vv.length ≤ i := O.lv
      have hll : l.length ≤ 3 * i := O.ll
      obtain ⟨⟨n1, n2, n3, n4⟩, ⟨n5, n6, n7⟩, ⟨n8, n9, n10⟩, n11, n12, n13⟩ := t_ne O hneI
      have h64 : 0 ≤ (k.fdiv 6).fdiv 64 ∧ (k.fdiv 6).fdiv 64 < (bitsS.length : Int) := by
        rw [Int.fdiv_eq_ediv_of_nonneg _ (by decide), Int.fdiv_eq_ediv_of_nonneg _ (by decide)]
        show _ ∧ _ < ((8 : Nat) : Int)
        omega
      obtain ⟨h64a, h64b⟩ := h64
      dsimp only [TSt.ps, TSt.led] at F1 N1
      have F2 : Fr g' L' h _ := F1
      have N2 : News g' L' h _ := N1
      clear F1 N1 F9 N9 FF NN NZ hP hP' neD hc9 hl9
      (try k_fold)
      dsimp only
      k_steps
      · unfold Stop
        rename (News g' L' _ _) => N9
        rename (Fr g' L' _ _) => F9
        have hr := N9
        refine' app_K (vs := vv) F9 N9 ?Uo1 ?Zo1 ?_
        case Uo1 => k_upd
        case Zo1 => omega
        clear F9 N9 hr
        intro h5 F5 N5
        k_steps
        unfold Stop
        rename (News g' L' _ _) => N6
        rename (Fr g' L' _ _) => F6
        refine' app_K (vs := refs ups ++ [.ref cur]) F6 N6 ?Uo2 ?Zo2 ?_
        case Uo2 => k_upd
        case Zo2 => (rw [List.length_append, refs_length, List.length_singleton]; omega)
        clear F6 N6
        intro h7 F7 N7
        k_steps
        refine' open_fin O hneI (by assumption) ?Lo (by assumption) (by assumption) sub1 ?Kk0
        case Lo => exact And.right (a := @LT.lt Nat _ _ _) (by assumption)
        case Kk0 =>
          dsimp only [TSt.ps]
          repeat' (first | exact List.forall_mem_nil _ | refine List.forall_mem_cons.mpr ⟨?_, ?_⟩)
          all_goals exact rfl
      · refine' same_fin O hneI (by assumption) (by assumption) (fun _ h => .tail _ h) ?Kk6
        case Kk6 =>
          dsimp only [TSt.ps]
          repeat' (first | exact List.forall_mem_nil _ | refine List.forall_mem_cons.mpr ⟨?_, ?_⟩)
          all_goals exact rfl
      · unfold Stop
        rename (News g' L' _ _) => N9
        rename (Fr g' L' _ _) => F9
        cases ups with
        | nil => (rename (1 < _) => q; simp [refs] at q)
        | cons uu ups =>
          refine' kl_pop (p := refs (uu :: ups)) (y := .ref cur) F9 N9 ?Ep ?Up ?Zp ?_
          case Ep => exact kl_last_snoc _ _
          case Up => k_upd
          case Zp => (rw [sizeLine_eq]; show (refs (uu :: ups) ++ [Value.ref cur]).length ≤ _; rw [List.length_append, refs_length]; simp only [List.length_singleton] at *; omega)
          clear F9 N9
          intro h7 F7 N7
          k_steps
          refine' close_fin O hneI (by assumption) (by assumption) (fun _ h => .tail _ h) ?Kk7
          case Kk7 =>
            dsimp only [TSt.ps]
            repeat' (first | exact List.forall_mem_nil _ | refine List.forall_mem_cons.mpr ⟨?_, ?_⟩)
            all_goals exact rfl
      · refine' same_fin O hneI (by assumption) (by assumption) (fun _ h => .tail _ h) ?Kk8
        case Kk8 =>
          dsimp only [TSt.ps]
          repeat' (first | exact List.forall_mem_nil _ | refine List.forall_mem_cons.mpr ⟨?_, ?_⟩)
          all_goals exact rfl
      all_goals (try simp only [tx_append] at *)
      · unfold Stop
        rename (News g' L' _ _) => N9
        rename (Fr g' L' _ _) => F9
        have P := leaf_pack (leaf_n2 (part_bar (by assumption)) (part_bar (by assumption))) N9 (by assumption)
        refine' app_K (vs := vv) F9 N9 ?Ua1 ?Za1 ?_
        case Ua1 => k_upd
        case Za1 => omega
        clear F9 N9
        intro h5 F5 N5
        k_steps
        unfold Stop
        rename (News g' L' _ _) => N6
        rename (Fr g' L' _ _) => F6
        refine' ext_leaf (l := l) F6 N6 ?Hb1 P.lf.hp P.lf.hx ?Zb1 ?Ub1 ?_
        case Zb1 => omega
        case Hb1 => k_mem
        case Ub1 => k_upd
        intro h7 F7 N7
        k_steps
        refine' leaf_fin P O hneI (fun _ h => .tail _ (.tail _ (.tail _ (.tail _ h)))) (by assumption) (by assumption) (sub4) ?Kk1
        case Kk1 =>
          dsimp only [TSt.ps]
          repeat' (first | exact List.forall_mem_nil _ | refine List.forall_mem_cons.mpr ⟨?_, ?_⟩)
          all_goals exact rfl
      · unfold Stop
        rename (News g' L' _ _) => N9
        rename (Fr g' L' _ _) => F9
        have P := leaf_pack (leaf_n1 (part_bar (by assumption))) (fun p hp => N9 p (.tail _ hp)) (by assumption)
        refine' app_K (vs := vv) F9 N9 ?Ua2 ?Za2 ?_
        case Ua2 => k_upd
        case Za2 => omega
        clear F9 N9
        intro h5 F5 N5
        k_steps
        unfold Stop
        rename (News g' L' _ _) => N6
        rename (Fr g' L' _ _) => F6
        refine' ext_leaf (l := l) F6 N6 ?Hb2 P.lf.hp P.lf.hx ?Zb2 ?Ub2 ?_
        case Zb2 => omega
        case Hb2 => k_mem
        case Ub2 => k_upd
        intro h7 F7 N7
        k_steps
        refine' leaf_fin P O hneI (fun _ h => .tail _ (.tail _ h)) (by assumption) (by assumption) (sub12) ?Kk2
        case Kk2 =>
          dsimp only [TSt.ps]
          repeat' (first | exact List.forall_mem_nil _ | refine List.forall_mem_cons.mpr ⟨?_, ?_⟩)
          all_goals exact rfl
      · unfold Stop
        rename (News g' L' _ _) => N9
        rename (Fr g' L' _ _) => F9
        have P := leaf_pack (leaf_n1 (part_b2 (by assumption) (by assumption))) N9 (by assumption)
        refine' app_K (vs := vv) F9 N9 ?Ua3 ?Za3 ?_
        case Ua3 => k_upd
        case Za3 => omega
        clear F9 N9
        intro h5 F5 N5
        k_steps
        unfold Stop
        rename (News g' L' _ _) => N6
        rename (Fr g' L' _ _) => F6
        refine' ext_leaf (l := l) F6 N6 ?Hb3 P.lf.hp P.lf.hx ?Zb3 ?Ub3 ?_
        case Zb3 => omega
        case Hb3 => k_mem
        case Ub3 => k_upd
        intro h7 F7 N7
        k_steps
        refine' leaf_fin P O hneI (fun _ h => .tail _ (.tail _ h)) (by assumption) (by assumption) (sub2) ?Kk3
        case Kk3 =>
          dsimp only [TSt.ps]
          repeat' (first | exact List.forall_mem_nil _ | refine List.forall_mem_cons.mpr ⟨?_, ?_⟩)
          all_goals exact rfl
      · unfold Stop
        rename (News g' L' _ _) => N9
        rename (Fr g' L' _ _) => F9
        have P := leaf_pack (leaf_n2 (part_b2 (by assumption) (by assumption)) (part_b1 (by assumption))) N9 (by assumption)
        refine' app_K (vs := vv) F9 N9 ?Ua4 ?Za4 ?_
        case Ua4 => k_upd
        case Za4 => omega
        clear F9 N9
        intro h5 F5 N5
        k_steps
        unfold Stop
        rename (News g' L' _ _) => N6
        rename (Fr g' L' _ _) => F6
        refine' ext_leaf (l := l) F6 N6 ?Hb4 P.lf.hp P.lf.hx ?Zb4 ?Ub4 ?_
        case Zb4 => omega
        case Hb4 => k_mem
        case Ub4 => k_upd
        intro h7 F7 N7
        k_steps
        refine' leaf_fin P O hneI (fun _ h => .tail _ (.tail _ h)) (by assumption) (by assumption) (sub2) ?Kk4
        case Kk4 =>
          dsimp only [TSt.ps]
          repeat' (first | exact List.forall_mem_nil _ | refine List.forall_mem_cons.mpr ⟨?_, ?_⟩)
          all_goals exact rfl
      · unfold Stop
        rename (News g' L' _ _) => N9
        rename (Fr g' L' _ _) => F9
        have P := leaf_pack (leaf_t (lit_b3 (by assumption) (by assumption) (by assumption))) N9 (by assumption)
        refine' app_K (vs := vv) F9 N9 ?Ua5 ?Za5 ?_
        case Ua5 => k_upd
        case Za5 => omega
        clear F9 N9
        intro h5 F5 N5
        k_steps
        unfold Stop
        rename (News g' L' _ _) => N6
        rename (Fr g' L' _ _) => F6
        refine' ext_leaf (l := l) F6 N6 ?Hb5 P.lf.hp P.lf.hx ?Zb5 ?Ub5 ?_
        case Zb5 => omega
        case Hb5 => k_mem
        case Ub5 => k_upd
        intro h7 F7 N7
        k_steps
        refine' leaf_fin P O hneI (fun _ h => .tail _ (.tail _ h)) (by assumption) (by assumption) (sub2) ?Kk5
        case Kk5 =>
          dsimp only [TSt.ps]
          repeat' (first | exact List.forall_mem_nil _ | refine List.forall_mem_cons.mpr ⟨?_, ?_⟩)
          all_goals exact rfl
    · intro c u h tk O F1 N1
      obtain ⟨ups, cur, vv, n, ks, l, nl, nS, tl⟩ := c
      dsimp only [TSt.ps, TSt.led] at F1 N1
      have F2 : Fr g' L' h _ := F1
      have N2 : News g' L' h _ := N1
      clear F1 N1 F9 N9 FF NN NZ hP hP' neD hc9 hl9
      (try k_fold)
      dsimp only
      k_steps
      refine' tr_fin ret hzl O ?F9 ?N9
      case F9 => assumption
      case N9 => assumption
end
end Mine
end

-- part Un0
section
open PySem PySem.W PySem.Calls PyProof.Rows
namespace Mine
set_option maxRecDepth 100000
set_option maxHeartbeats 8000000

/-- the bound class method -/
abbrev fkO : Obj := { cls := .type "builtin_function_or_method", data := .fields #[.builtin "dict.fromkeys", .type "dict"] }
theorem fk_type : typeOf (.builtin "dict.fromkeys") = pure (.type "classmethod_descriptor") := by show builtinType _ = _; rw [builtinType_eq_fast]; kernel_rfl
theorem fk_entry : entryFor table "dict.fromkeys" = some Builtin.«dict.fromkeys» := entryFor_of_tree (by kernel_rfl)
theorem fk_entryL : entryFor table "dict.fromkeys.loop" = some Builtin.«dict.fromkeys.loop» := entryFor_of_tree (by kernel_rfl)
theorem fk_quiet {as : Args} : (Code.builtin "dict.fromkeys" as).quiet = true := Code.quiet_builtin _ (by decide +kernel)
theorem fk_plain : plainId "dict.fromkeys" = true := by decide +kernel
theorem fk_plainL : plainId "dict.fromkeys.loop" = true := by decide +kernel
theorem fk_isType : isType (.type "dict") = pure true := by first | rfl | kernel_rfl | (unfold isType; rw [isSubtype_type]; kernel_rfl)
theorem fk_owner : (kfb_private% "ownerAndName") "dict.fromkeys" = ("dict", "fromkeys") := by first | decide +kernel | kernel_rfl
theorem fk_check (v : Value) : checkBoundCall "dict.fromkeys" ⟨[.type "dict", v], []⟩ = pure () := by first | kernel_rfl | rfl
theorem fk_typeCall : checkTypeCall "dict" ⟨[], []⟩ = pure () := by kernel_rfl
theorem fk_newCall : checkBuiltinCall "dict.__new__" ⟨[.type "dict"], []⟩ = pure () := by kernel_rfl
theorem fk_args_init (a : Value) : argsOk "dict.__init__" ⟨[a], []⟩ := by
  unfold argsOk; rw [signature?_of (id := "dict.__init__") (n := ['_', '_', 't', 'i', 'n', 'i', '_', '_']) (o := ['t', 'c', 'i', 'd']) (by kernel_rfl) PySem.F.owner_dict]; kernel_rfl

section
variable {prog : Program} {w : World} {A : Around} {E : Value → Shared → Prop} {s : Shared} {h₀ : Heap} {L : Addr} {m : Str → Option Value} {news : List (Addr × Obj)} {K : Frag}

theorem fk_get {P : Fin → Shared → Prop} (h : P (.done (.ret (.ref s.heap.objs.size))) { s with heap := s.heap.push fkO }) :
    wpAny (model prog w) A (Builtin.«classmethod_descriptor.__get__» ⟨[.builtin "dict.fromkeys", .none, .type "dict"], []⟩) P E s := by
  unfold Builtin.«classmethod_descriptor.__get__»
  refine wpAny_bind (wpAny_of_eq (a := (.builtin "dict.fromkeys", none, some (.type "dict"))) (by first | rfl | kernel_rfl) ?_)
  simp only [fk_owner]
  refine wpAny_bind (wpAny_of_eq (a := .type "dict") rfl ?_)
  refine wpAny_bind (wpAny_of_eq (a := true) fk_isType ?_)
  refine KFB.if_not rfl ?_
  refine wpAny_bind (wpAny_of_eq (a := true) PySem.F.kt_sub_dict ?_)
  refine KFB.if_not rfl ?_
  exact wpAny_bind (wpAny_newObj_type (wpAny_pure h))

theorem fk_method {pl : Sem Bool} {Q : Value × List Value → Shared → Prop} (F : Fr h₀ L s.heap m) (N : News h₀ L s.heap news) (X₀ : K.In h₀)
    (e : findCls K (.type "dict") (.type "type") (Str.ofString "fromkeys") = some (.get (.builtin "classmethod_descriptor.__get__") (.builtin "dict.fromkeys") .none (.type "dict")))
    (h : ∀ x h', Fr h₀ L h' m → News h₀ L h' ((x, fkO) :: news) → (∀ p ∈ news, p.1 < x) → Q (.ref x, []) { s with heap := h', toks := s.toks + 1 }) :
    wpAny (model prog w) A (getMethod (.type "dict") (Str.ofString "fromkeys") pl) Q E s := by
  have X := X₀.keeps F.keep
  have ht : typeOf (.type "dict") = pure (.type "type") := by first | rfl | kernel_rfl
  have hs : opaqueClassAbove (.type "dict") = pure none := by
    unfold opaqueClassAbove
    dsimp only
    rw [show Manifest.isStub "dict" = false by decide +kernel]; rfl
  have LT : Looks (model prog w) s.heap (typeOf (.type "dict")) (.type "type") := Looks.of_pure ht
  have LO : Looks (model prog w) s.heap (opaqueClassAbove (.type "dict")) none := Looks.of_pure hs
  have hg : findIn K (.type "type") "__getattribute__" = some (some (.builtin "type.__getattribute__")) := type_tga
  unfold getMethod specialOf
  refine wpAny_bind (wpAny_bind (LT.here ((looks_findIn X hg).here ?_)))
  dsimp only
  rw [if_pos canon_tga]
  refine wpAny_bind (wpAny_mono (Q := fun v => Q (v, [])) (E := E) ?_ (fun _ _ z => wpAny_pure z) fun _ _ z => z)
  refine cls_open X LO LT hg (looks_hook X (r := none) (by rfl)) (by show subIn K _ _ = _; rfl) e ?_
  show wpAny _ _ (holding [.builtin "dict.fromkeys"] (call (.builtin "classmethod_descriptor.__get__") [.builtin "dict.fromkeys", .none, .type "dict"]) >>= fun v => ret v) _ _ _
  refine wpAny_bind (wpAny_holding (wpAny_call_entry KFB.slot_get fk_type KFB.entry_get (fk_get ⟨_, rfl, wpAny_pure (wpAny_pure (h _ _ (F.push _) (News.push F N _) fun p hp => Heap.lt_size (N p hp).1))⟩) (KFB.args_get _ _ _)))

/-- an empty dict -/
theorem fk_newDict {Q : Value → Shared → Prop} (h : Q (.ref s.heap.objs.size) { s with heap := s.heap.push { cls := .type "dict", data := .dict #[] } }) :
    wpAny (model prog w) A (call (.type "dict") []) Q E s := by
  refine callType_codes (Q₁ := fun obj s₁ => obj = .ref s.heap.objs.size ∧ s₁ = { s with heap := s.heap.push { cls := .type "dict", data := .dict #[] } }) PySem.F.kt_called_dict fk_typeCall PySem.F.entry_dict_init ?_ ?_
  · refine codeAny_call_builtin PySem.F.kt_plain_dict_new PySem.F.kt_entry_dict_new (wpAny_of_eq fk_newCall ?_)
    have hsub := PySem.F.kt_sub_dict
    have hmro := PySem.F.kt_mro_dict
    obtain ⟨hp, g, d, tk, os⟩ := s
    unfold Builtin.«dict.__new__»
    wp_walk
    exact ⟨rfl, rfl⟩
  · rintro obj s₁ ⟨rfl, rfl⟩
    have hnew : (s.heap.push { cls := .type "dict", data := .dict #[] }).DictOf (strKind prog w) s.heap.objs.size [] := Heap.DictOf.new s.heap
    refine ⟨hnew.typeIs, fk_args_init _, ?_⟩
    unfold Builtin.«dict.__init__»
    refine wpAny_bind ?_
    unfold Builtin.Dict.selfAndRest
    refine wpAny_bind (wpAny_notOrdered_dict hnew.typeIs ?_)
    show wpAny _ _ (pure (s.heap.objs.size, ([] : List Value))) _ _ _
    refine wpAny_pure ?_
    show wpAny _ _ (Builtin.Dict.updateCommon "dict.__init__" "dict" s.heap.objs.size [] [] ) _ _ _
    unfold Builtin.Dict.updateCommon
    dsimp only
    unfold Builtin.Dict.addKeywords
    exact wpAny_bind (wpAny_pure (wpAny_pure ⟨rfl, h⟩))

def fkAll (l : List (Str × Tok)) : List (Str × Value) := l.foldl (fun acc p => stored acc p.1 .none) []
theorem stored_len (kvs : List (Str × Value)) (k : Str) (v : Value) : (stored kvs k v).length ≤ kvs.length + 1 := by
  unfold stored
  split
  · rw [List.length_map]; omega
  · rw [List.length_append]; exact Nat.le_refl _
theorem fk_loop (hh : A.handled = none) {R : Result → Shared → Prop} {D I a : Addr} {l : List (Str × Tok)} (hDI : D ≠ I) (hDa : D ≠ a) (hIa : I ≠ a) (hl : l.length ≤ 100) :
    ∀ (rest done : List (Str × Tok)) (s : Shared), l = done ++ rest → s.heap.DictOf (strKind prog w) D (fkAll done) → (fkAll done).length ≤ done.length → s.heap.IsListIter I a done.length → s.heap.IsList a (strValues l).toArray →
      (∀ h' tk, h'.DictOf (strKind prog w) D (fkAll l) → (∀ b o, b ≠ D → b ≠ I → s.heap.get? b = some o → h'.get? b = some o) → R (.ok (.ret (.ref D))) { s with heap := h', toks := tk }) →
      codeAny (model prog w) A (.builtin "dict.fromkeys.loop" ⟨[.ref D, .ref I, .none], []⟩) R s := by
  intro rest
  induction rest with
  | nil =>
    intro done s hs hd hdl hit hla hR
    rw [List.append_nil] at hs
    subst hs
    refine codeAny_builtin fk_entryL ?_
    rw [Around.under_plainId fk_plainL _]
    show wpAny _ A.in1 (pyNext (.ref I) >>= _) _ _ s
    refine wpAny_bind (wpAny_pyNext_list_end hh hit hla (by simp [strValues]) fun h' he => ?_)
    exact wpAny_pure (hR h' s.toks (hd.extBut he hDI) fun b o _ hb e => he b o hb e)
  | cons x rest ih =>
    intro done s hs hd hdl hit hla hR
    have hx : (strValues l).toArray[done.length]? = some (.str x.1 x.2) := by
      rw [hs]; simp [strValues]
    refine codeAny_builtin fk_entryL ?_
    rw [Around.under_plainId fk_plainL _]
    show wpAny _ A.in1 (pyNext (.ref I) >>= _) _ _ s
    refine wpAny_bind (wpAny_pyNext_list_item hit hla hx fun h1 hit1 hs1 => ?_)
    have hd1 := hd.sameBut hs1 hDI
    show wpAny _ A.in1 (typeOf (.ref D) >>= _) _ _ _
    refine wpAny_bind (wpAny_typeOf (s := { s with heap := h1 }) hd1.typeIs ?_)
    rw [if_pos (by decide)]
    refine wpAny_bind (wpAny_pure ?_)
    refine wpAny_bind (wpAny_holding ?_)
    have hle : done.length + (x :: rest).length ≤ 100 := by rw [← List.length_append, ← hs]; exact hl
    refine wpAny_dictSet_pairs (s := { s with heap := h1 }) (k := x.1) (strKind_is prog w x.1 x.2) hd1 (fun h2 hd2 hs2 => ?_) (by rw [sizeLine_eq]; omega)
    refine wpAny_pure ⟨plainId_quiet fk_plainL _, ?_⟩
    have e1 : fkAll (done ++ [x]) = stored (fkAll done) x.1 .none := by
      unfold fkAll; rw [List.foldl_append]; rfl
    have hla2 : h2.IsList a (strValues l).toArray := by
      obtain ⟨o, ho, r⟩ := hla
      exact ⟨o, (hs2.2 _ hDa.symm).trans ((hs1.2 _ hIa.symm).trans ho), r⟩
    refine ih (done ++ [x]) _ (by rw [hs]; simp) (by rw [e1]; exact hd2) (by rw [e1, List.length_append]; have := stored_len (fkAll done) x.1 .none; simp only [List.length_singleton]; omega) ?_ hla2 ?_
    · rw [List.length_append]
      obtain ⟨o, ho, r⟩ := hit1
      exact ⟨o, (hs2.2 _ hDI.symm).trans ho, r⟩
    · intro h' tk hd' hk'
      refine hR h' tk hd' fun b o hb1 hb2 e => hk' b o hb1 hb2 ?_
      rw [hs2.2 b hb1, hs1.2 b hb2]; exact e
theorem fk_tree {R : Result → Shared → Prop} (hh : A.handled = none) {a : Addr} {l : List (Str × Tok)} (hl : l.length ≤ 100) (hla : s.heap.IsList a (strValues l).toArray)
    (hR : ∀ h' tk, h'.DictOf (strKind prog w) s.heap.objs.size (fkAll l) → (∀ b o, s.heap.get? b = some o → h'.get? b = some o) → R (.ok (.ret (.ref s.heap.objs.size))) { s with heap := h', toks := tk }) :
    codeAny (model prog w) A (.builtin "dict.fromkeys" ⟨[.type "dict", .ref a], []⟩) R s := by
  obtain ⟨ol, hol, rl⟩ := id hla
  have hal : a < s.heap.objs.size := Heap.lt_size hol
  refine codeAny_builtin fk_entry ?_
  rw [Around.under_plainId fk_plain _]
  unfold Builtin.«dict.fromkeys»
  refine wpAny_bind (wpAny_of_eq (a := true) fk_isType ?_)
  refine KFB.if_not rfl ?_
  refine wpAny_bind (wpAny_of_eq (a := true) PySem.F.kt_sub_dict ?_)
  refine KFB.if_not rfl ?_
  refine KFB.if_not rfl ?_
  dsimp only
  have hd0 : (s.heap.push { cls := .type "dict", data := .dict #[] }).DictOf (strKind prog w) s.heap.objs.size [] := Heap.DictOf.new s.heap
  have hl0 : (s.heap.push { cls := .type "dict", data := .dict #[] }).IsList a (strValues l).toArray := ⟨ol, Heap.get?_push_of_some _ hol, rl⟩
  refine wpAny_bind (wpAny_rule (wpAny_bind (wpAny_pure ?_)))
  dsimp only
  refine wpAny_bind (fk_newDict (wpAny_holding ?_))
  refine wpAny_bind (wpAny_typeOf (s := { s with heap := _ }) hl0.typeIs ?_)
  refine wpAny_bind (wpAny_typeOf (s := { s with heap := _ }) hd0.typeIs ?_)
  rw [if_neg (by decide)]
  refine wpAny_bind (wpAny_typeOf (s := { s with heap := _ }) hd0.typeIs ?_)
  rw [if_neg (by decide)]
  refine wpAny_bind (wpAny_pyIter_list (s := { s with heap := _ }) hl0 ?_)
  refine wpAny_pure ⟨plainId_quiet fk_plainL _, ?_⟩
  have hsz : (s.heap.push { cls := .type "dict", data := .dict #[] }).objs.size = s.heap.objs.size + 1 := Heap.size_push _ _
  refine fk_loop hh (l := l) (a := a) ?_ ?_ ?_ hl l [] _ rfl (hd0.push _) (Nat.le_refl _) ⟨_, Heap.get?_push_size _ rfl, rfl, rfl⟩ ?_ ?_
  · rw [hsz]; exact Nat.ne_of_lt (Nat.lt_succ_self _)
  · exact Nat.ne_of_gt hal
  · rw [hsz]; exact Nat.ne_of_gt (Nat.lt_succ_of_lt hal)
  · obtain ⟨o, ho, r⟩ := hl0
    exact ⟨o, Heap.get?_push_of_some _ ho, r⟩
  · intro h' tk hd' hk'
    refine hR h' tk hd' fun b o e => hk' b o (Nat.ne_of_lt (Heap.lt_size e)) ?_ (Heap.get?_push_of_some _ (Heap.get?_push_of_some _ e))
    rw [hsz]
    exact Nat.ne_of_lt (Nat.lt_succ_of_lt (Heap.lt_size e))
/-- the bound method is called -/
theorem fk_call {x a : Addr} {l : List (Str × Tok)} {n : Nat} {Q : Value → Shared → Prop} (hh : A.handled = none) (F : Fr h₀ L s.heap m) (N : News h₀ L s.heap news) (hx : (x, fkO) ∈ news) (ha : (a, listOf (strValues l).toArray n) ∈ news) (hl : l.length ≤ 100)
    (h : ∀ D o h' tk, Fr h₀ L h' m → News h₀ L h' ((D, o) :: news) → o.IsDictOf (strKind prog w) (fkAll l) → (∀ p ∈ news, p.1 < D) → @LT.lt Nat _ h₀.objs.size D → Q (.ref D) { s with heap := h', toks := tk }) :
    wpAny (model prog w) A (call (.ref x) [.ref a]) Q E s := by
  refine wpAny_call (codeAny_of_tree ?_)
  show wpAny _ A.in1 (callAny (.ref x) ⟨[.ref a], []⟩) _ _ s
  simp only [callAny]
  refine wpAny_bind (wpAny_load (N _ hx).1 ?_)
  simp only [show (Value.type "builtin_function_or_method" == Value.type "method" || Value.type "builtin_function_or_method" == Value.type "builtin_function_or_method" || Value.type "builtin_function_or_method" == Value.type "method-wrapper") = true by decide, if_true]
  refine KFB.if_so (by decide) ?_
  refine wpAny_bind (wpAny_of_eq (a := ()) (fk_check _) ?_)
  refine wpAny_bind (wpAny_pure (wpAny_pure ?_))
  refine ⟨fk_quiet, fk_tree hh hl (N.isList ha) fun h' tk hd hk => ?_⟩
  obtain ⟨o, ho, hdo⟩ := Heap.dictOf_iff.mp hd
  have F' := F.keeps hk
  have hD0 : s.heap.get? s.heap.objs.size = none := by
    cases e : s.heap.get? s.heap.objs.size with
    | none => rfl
    | some o => exact absurd (Heap.lt_size e) (Nat.lt_irrefl _)
  refine h s.heap.objs.size o h' tk F' (fun p hp => ?_) hdo (fun p hp => Heap.lt_size (N p hp).1) (Nat.lt_of_le_of_lt F.above F.ns.lt)
  rcases List.mem_cons.mp hp with rfl | hp
  · refine ⟨ho, fun e => ?_, ?_⟩
    · obtain ⟨oL, _, _, hL, _⟩ := F.ns
      have e' : s.heap.objs.size = L := e
      rw [e', hL] at hD0; cases hD0
    · cases e : h₀.get? s.heap.objs.size with
      | none => rfl
      | some o' => have := F.keep _ o' e; rw [hD0] at this; cases this
  · exact ⟨hk _ _ (N p hp).1, (N p hp).2⟩
theorem fk_callWith {pos : Pos} {u : Addr} {env : Env} {e : Expr} {rest : List Expr} {Q : Value → Shared → Prop} (N : News h₀ L s.heap news) (hm : (u, fkO) ∈ news)
    (h : wpAny (model prog w) A (spliced (backTo pos (starEach (e :: rest) env))) (fun vs s₁ => s₁.heap.get? u = some fkO ∧ wpAny (model prog w) A (call (.ref u) vs) Q E s₁) E s)
    (he : starEach (e :: rest) env = (false, eval e env) :: starEach rest env := by rfl) (hplain : (backTo pos (starEach rest env)).any (·.1) = false := by rfl) :
    wpAny (model prog w) A (callWith pos (.ref u) [] (backTo pos (starEach (e :: rest) env)) []) Q E s := by
  rw [he] at h ⊢
  have hp : (backTo pos ((false, eval e env) :: starEach rest env)).any (·.1) = false := by show (false || (backTo pos (starEach rest env)).any (·.1)) = false; rw [hplain]; rfl
  unfold callWith
  have h2 : wpAny (model prog w) A (evalArgs (.ref u) true (backTo pos ((false, eval e env) :: starEach rest env)) []) (fun x s₁ => s₁.heap.get? u = some fkO ∧ wpAny (model prog w) A (call (.ref u) ([] ++ x.pos) x.kw) Q E s₁) E s := evalArgs_plain h
  refine wpAny_bind (wpAny_holding (wpAny_mono h2 (fun x s₁ h₁ => wpAny_bind (wpAny_standAt ?_)) fun _ _ x => x))
  obtain ⟨ho, hcall⟩ := h₁
  simp only [hp, List.any_nil, Bool.or_false]
  refine wpAny_bind (m := keeperOf (.ref u)) ?_
  unfold keeperOf
  refine wpAny_bind (wpAny_load ho ?_)
  simp only [show (Value.type "builtin_function_or_method" != Value.type "method") = true by decide, show (Value.type "builtin_function_or_method" == Value.type "builtin_function_or_method" || Value.type "builtin_function_or_method" == Value.type "method-wrapper") = true by decide, if_true]
  refine wpAny_pure ?_
  exact wpAny_bind (wpAny_mono hcall (fun r s₂ hr => wpAny_bind (wpAny_holding (wpAny_point (wpAny_pure hr)))) fun _ _ x => x)
end
end Mine
end

-- part Un
section
open PySem PySem.W PyProof.Rows
namespace Mine
set_option maxRecDepth 100000
set_option maxHeartbeats 8000000

theorem keysS_of : ∀ {kvs : List (Str × Value)} {C : List Value → Prop}, (∀ l : List (Str × Tok), l.map (·.1) = kvs.map (·.1) → C (strValues l)) → KdlKeysS kvs C
  | [], _, h => h [] rfl
  | (k, v) :: r, C, h => fun t => keysS_of (C := fun vs => C (.str k t :: vs)) fun l hl => h ((k, t) :: l) (by rw [List.map_cons, List.map_cons, hl])
/-- each text once, at its first place -/
def once (l : List Str) : List Str := l.foldl (fun acc x => if acc.any (· == x) then acc else acc ++ [x]) []
theorem once_step (kvs : List (Str × Value)) (x : Str) : (stored kvs x .none).map (·.1) = (if (kvs.map (·.1)).any (· == x) then kvs.map (·.1) else kvs.map (·.1) ++ [x]) := by
  have e : (kvs.any fun kv => decide (kv.1 = x)) = ((kvs.map (·.1)).any (· == x)) := by
    rw [List.any_map]
    congr 1
  unfold stored
  rw [e]
  split
  · rw [List.map_map]
    refine List.map_congr_left fun kv _ => ?_
    simp only [Function.comp]
    split <;> rfl
  · rw [List.map_append]; rfl
theorem fkAll_once (l : List (Str × Tok)) : (fkAll l).map (·.1) = once (l.map (·.1)) := by
  have aux : ∀ (l : List (Str × Tok)) (kvs : List (Str × Value)), (l.foldl (fun acc p => stored acc p.1 .none) kvs).map (·.1) = (l.map (·.1)).foldl (fun acc x => if acc.any (· == x) then acc else acc ++ [x]) (kvs.map (·.1)) := by
    intro l
    induction l with
    | nil => intro kvs; rfl
    | cons p r ih =>
      intro kvs
      rw [List.foldl_cons, ih, List.map_cons, List.foldl_cons, once_step]
  exact aux l []
theorem fkAll_len (l : List (Str × Tok)) : (fkAll l).length ≤ l.length := by
  have aux : ∀ (l : List (Str × Tok)) (kvs : List (Str × Value)), (l.foldl (fun acc p => stored acc p.1 .none) kvs).length ≤ kvs.length + l.length := by
    intro l
    induction l with
    | nil => intro kvs; exact Nat.le_refl _
    | cons p r ih =>
      intro kvs
      have h1 := ih (stored kvs p.1 .none)
      have h2 := stored_len kvs p.1 .none
      rw [List.foldl_cons, List.length_cons]
      omega
  have := aux l []
  simpa [fkAll] using this
section
local macro_rules | `(tactic| walk_at "getMethod type:dict") => `(tactic| (refine' fk_method ?F ?N ?X ?e ?_; (case F => k_asm); (case N => k_asm); (case X => assumption); (case e => k_is); (intro x' h' F' N' l1)))
local macro_rules | `(tactic| walk_at "callWith ref") => `(tactic| (refine' fk_callWith ?N ?m ?_ ?he ?hp; (case N => k_asm); (case m => k_mem); (case he => rfl); (case hp => rfl)))
local macro_rules | `(tactic| walk_at "And") => `(tactic| ((with_reducible show (Heap.get? _ _ = some fkO) ∧ _); refine ⟨News.get (by k_asm) (by k_mem), ?_⟩))
local macro_rules | `(tactic| walk_at "call ref") => `(tactic| refine stop_ ?_)
local macro_rules | `(tactic| walk_at "call type:list") => `(tactic| refine stop_ ?_)
theorem un_ok (w : World) (mean : ExcName → Option Value) (mg mb : Str → Option Value) (A A₀ : Around) (env : Env) (outer : List Env) (base h₀ : Heap) (L : Addr) (m : Str → Option Value) (news : List (Addr × Obj)) (s : Shared) (R : Result → Shared → Prop)
   (a : Addr) (l : List (Str × Tok)) (n : Nat) (hm : (a, listOf (strValues l).toArray n) ∈ news) (hl : l.length ≤ 100)
   (B : Below A₀ base outer h₀) (F : Fr h₀ L s.heap m) (X : (Mine.hd.heap_39 w.params).In h₀) (N : News h₀ L s.heap news)
   (T : Top Mine.hd.view_39 (looseW Mine.hd.view_39 [Str.ofString "find_matching_paren"]) mean mg mb h₀)
   (hf : A.frames = some (env :: outer)) (hL : env.frame = some L) (hk : env.scope.kind = .function) (hd : A.depth + 2 < recursionLimit) (hh : A.handled = none)
   (ret : ∀ h' tk' B l' c, Fr h₀ L h' m → News h₀ L h' ((B, listOf (strValues l').toArray c) :: news) → (∀ p ∈ news, p.1 < B) → l'.map (·.1) = once (l.map (·.1)) → R (.ok (.ret (.ref B))) { s with heap := h', toks := tk' }) :
   codeAny (model PySem.Challenge.rw_bn5032_01.row.prog w) A (.call (.ref 41) ⟨[.ref a], []⟩) R s := by
  w_top off; revert X; k_fill; intro X
  refine code_def B F X N T hf hL hk (by k_dflt k_is) (by k_dflt k_is) (by k_dflt ktr_room) (by k_dflt (exact BindsTo.of_eq rfl)) (by k_dflt (exact locs rfl)) ?_ (by k_dflt (exact rfl)) (by k_dflt (exact rfl)) (by k_dflt (exact rfl)) (by k_dflt decide)
  intro g' L' h' FG' F' N' B' X' T'
  refine wpAny_noRaise ?_
  (try dsimp only); (try k_fold)
  k_steps
  · rename (News g' L' _ _) => N9
    exact (N9 _ (.head _)).1
  unfold Stop
  rename (News g' L' _ _) => N9
  rename (Fr g' L' _ _) => F9
  refine fk_call hh F9 N9 (.head _) (.tail _ hm) hl ?_
  intro D o h5 tk5 F5 N5 hd5 l5 lD
  k_steps
  unfold Stop
  have h22 : @LT.lt Nat _ 41 g'.objs.size := Heap.lt_size (X' 41 _ (by k_dflt k_is))
  have hlo : (D == sysModules) = false := by
    rw [beq_eq_false_iff_ne]
    exact Nat.ne_of_gt (Nat.lt_trans (by decide : 1 < 41) (Nat.lt_trans h22 lD))
  refine kdl_list_keysS (kvs := fkAll l) hh F5 N5 (.head _) hd5 hlo (Nat.le_trans (fkAll_len l) (by omega)) ?_
  intro B c h7 tk7
  refine keysS_of fun l' hl' F7 N7 l7 => ?_
  k_steps
  refine ret _ _ B l' c (by assumption) (fun p hp => (by assumption : News h₀ L _ _) p (by
    rcases List.mem_cons.mp hp with rfl | hp
    · exact .head _
    · exact .tail _ (.tail _ (.tail _ hp)))) (fun p hp => l7 p (.tail _ (.tail _ hp))) ?_
  rw [hl', fkAll_once]
end
end Mine
end

-- part Grun
section
open PySem
namespace Mine
set_option maxRecDepth 100000

section
variable {M : Model} {R : Result → Shared → Prop} {A : Around} {Post : Bool → Shared → Shared → Prop} {Env : Shared → Shared → Prop}

/-- a generator's segment: the texts still to come; the state at which it was woken; where it stands -/
def GRun (M : Model) (R : Result → Shared → Prop) (A : Around) (Post : Bool → Shared → Shared → Prop) (Env : Shared → Shared → Prop) : List Str → Shared → Shared → Code → Sem Fin → List Frame → Prop
  | [], s₀, s, c, t, fs => ∀ g kk l c₁ p₁ base p, (Ctx.of c (.gen g kk l c₁ p₁ :: base)).Woken A →
      (∀ s' c' p', Post true s₀ s' → Good M R s' ⟨leafOf (.ok (.ret .none)), c', p', .gen g kk l c₁ p₁ :: base⟩) → Good M R s ⟨t, c, p, fs ++ .gen g kk l c₁ p₁ :: base⟩
  | x :: r, s₀, s, c, t, fs => ∀ g kk l c₁ p₁ base p, (Ctx.of c (.gen g kk l c₁ p₁ :: base)).Woken A →
      (∀ s' tk cl l' k' c' p' fs', Post false s₀ s' → splitAtGen fs' = none → (s'.heap.life.registered = [] → closingShows s' fs' c' cl = false) → (∀ s'', Env s' s'' → GRun M R A Post Env r s'' s'' c' (k' (.send .none)) fs') →
        Good M R s' ⟨.yield (.str x tk) cl l' k', c', p', fs' ++ .gen g kk l c₁ p₁ :: base⟩) → Good M R s ⟨t, c, p, fs ++ .gen g kk l c₁ p₁ :: base⟩

variable {xs : List Str} {s₀ s : Shared} {c : Code} {fs : List Frame}
theorem woken_goto {c c' : Code} {st : List Frame} (h : (Ctx.of c st).Woken A) : (Ctx.of c' st).Woken A := h
theorem g_wrap {α : Type} {m : Sem α} {K : α → Sem Fin} {H : Value → Sem Fin} {gd : Bool → Bool} {lv : List Value → List Value}
    (h : Tri M R (A.over c fs) m (fun a s' => GRun M R A Post Env xs s₀ s' c (K a) fs) (fun x s' => GRun M R A Post Env xs s₀ s' c (H x) fs) s) : GRun M R A Post Env xs s₀ s c (m.wrap K H gd lv) fs := by
  have hin : ∀ {stk : List Frame}, (Ctx.of c stk).Woken A → (Ctx.of c (fs ++ stk)).In (A.over c fs) := fun hw => by
    rw [Ctx.of_append]; exact hw.over fs
  cases xs with
  | nil =>
    intro g kk l c₁ p₁ base p hw k
    exact h c _ p K H gd lv (hin hw) (fun a p' s' x => x g kk l c₁ p₁ base p' hw k) (fun a p' s' x => x g kk l c₁ p₁ base p' hw k)
  | cons x r =>
    intro g kk l c₁ p₁ base p hw k
    exact h c _ p K H gd lv (hin hw) (fun a p' s' y => y g kk l c₁ p₁ base p' hw k) (fun a p' s' y => y g kk l c₁ p₁ base p' hw k)
theorem g_step {s' : Shared} {c' : Code} {t t' : Sem Fin} {fs' : List Frame}
    (hs : ∀ (stk : List Frame) (p : Pos), ∃ p', M.step s ⟨t, c, p, fs ++ stk⟩ = .go s' ⟨t', c', p', fs' ++ stk⟩) (h : GRun M R A Post Env xs s₀ s' c' t' fs') : GRun M R A Post Env xs s₀ s c t fs := by
  cases xs with
  | nil =>
    intro g kk l c₁ p₁ base p hw k
    obtain ⟨p', e⟩ := hs (.gen g kk l c₁ p₁ :: base) p
    exact good_step e (h g kk l c₁ p₁ base p' hw k)
  | cons x r =>
    intro g kk l c₁ p₁ base p hw k
    obtain ⟨p', e⟩ := hs (.gen g kk l c₁ p₁ :: base) p
    exact good_step e (h g kk l c₁ p₁ base p' hw k)
theorem g_call {c' : Code} {hd : Option Value} {g : Bool} {l : List Value} {k : Result → Sem Fin} (h : ∀ p, GRun M R A Post Env xs s₀ s c' (M.den c') (.ret k hd g l c p [] :: fs)) : GRun M R A Post Env xs s₀ s c (.call c' hd g l k) fs := by
  cases xs with
  | nil =>
    intro g' kk l' c₁ p₁ base p hw kc
    exact good_step (step_call M s c p _ c' hd g l k) (h p g' kk l' c₁ p₁ base p hw kc)
  | cons x r =>
    intro g' kk l' c₁ p₁ base p hw kc
    exact good_step (step_call M s c p _ c' hd g l k) (h p g' kk l' c₁ p₁ base p hw kc)
theorem g_leaf {k : Result → Sem Fin} {hd : Option Value} {g : Bool} {l : List Value} {c₁ : Code} {p₁ : Pos} {kp : List Value} (r : Result) (h : GRun M R A Post Env xs s₀ s c₁ (k r) fs) : GRun M R A Post Env xs s₀ s c (leafOf r) (.ret k hd g l c₁ p₁ kp :: fs) :=
  g_step (fun stk p => ⟨p₁, step_leaf_ret M s c p (fs ++ stk) r k hd g l c₁ p₁ kp⟩) h
theorem g_again {c' : Code} (hq : c'.quiet = true) (h : GRun M R A Post Env xs s₀ s c' (M.den c') fs) : GRun M R A Post Env xs s₀ s c (.pure (.again c')) fs :=
  g_step (fun stk p => ⟨p, step_again M s c p (fs ++ stk) c' hq⟩) h
theorem g_end (h : Post true s₀ s) : GRun M R A Post Env [] s₀ s c (leafOf (.ok (.ret .none))) [] :=
  fun _ _ _ _ _ _ p _ k => k s c p h
theorem g_yield {x : Str} {tk : Tok} {cl : Bool} {l : List Value} {k : Resume → Sem Fin} (hfs : splitAtGen fs = none) (hcl : s.heap.life.registered = [] → closingShows s fs c cl = false) (hp : Post false s₀ s)
    (h : ∀ s'', Env s s'' → GRun M R A Post Env xs s'' s'' c (k (.send .none)) fs) : GRun M R A Post Env (x :: xs) s₀ s c (.yield (.str x tk) cl l k) fs :=
  fun _ _ _ _ _ _ p _ kc => kc s tk cl l k c p fs hp hfs hcl h

/-- how a generator goes on when it is woken by next -/
def GoesG (M : Model) (R : Result → Shared → Prop) (A : Around) (Post : Bool → Shared → Shared → Prop) (Env : Shared → Shared → Prop) (xs : List Str) (gs : GenState) (s : Shared) : Prop :=
  match gs with
  | .fresh c => GRun M R A Post Env xs s s c (M.den c) []
  | .suspended k _ c _ fs _ => GRun M R A Post Env xs s s c (k (.send .none)) fs
  | _ => False

theorem yield_good {v : Value} {cl : Bool} {l l₀ : List Value} {k : Resume → Sem Fin} {g : Nat} {kk : GenResult → Sem Fin} {c₁ : Code} {p p₁ : Pos} {base : List Frame}
    (hfs : splitAtGen fs = none) (hcl : s.heap.life.registered = [] → closingShows s fs c cl = false)
    (h : Good M R (s.setGen g (.suspended k l c p fs (cl || fs.any Frame.guarded))) ⟨kk (.yielded v), c₁, p₁, base⟩) : Good M R s ⟨.yield v cl l k, c, p, fs ++ .gen g kk l₀ c₁ p₁ :: base⟩ := by
  have hsp : splitAtGen (fs ++ .gen g kk l₀ c₁ p₁ :: base) = some (fs, (g, kk, c₁, p₁), base) := by
    rw [splitAtGen_append_none _ hfs, splitAtGen_gen]; simp
  refine .go (.inr ⟨v, cl, l, k, rfl, fun fs' x rest e hr => ?_⟩) ?_ h
  · dsimp only at e
    rw [hsp] at e
    cases e
    exact hcl hr
  · simp only [PySem.stepK, PySem.step, hsp]; rfl

theorem tri_resume {α : Type} {g : Nat} {gs : GenState} {l : List Value} {k : GenResult → Sem α} {Q : α → Shared → Prop} {E : Value → Shared → Prop} (hg : s.gens[g]? = some gs)
    (hgo : GoesG M R A Post Env xs gs (s.setGen g .running))
    (hend : xs = [] → ∀ s', Post true (s.setGen g .running) s' → Tri M R A (k (.returned .none)) Q E (s'.setGen g .finished))
    (hyld : ∀ x r, xs = x :: r → ∀ s' tk gs', Post false (s.setGen g .running) s' → (∀ s'', Env s' s'' → GoesG M R A Post Env r gs' s'') → Tri M R A (k (.yielded (.str x tk))) Q E (s'.setGen g gs')) :
    Tri M R A (.resume g (.send .none) l k) Q E s := by
  intro c base p K H gd lv hIn hQ hE
  have hw : ∀ (c' : Code), (Ctx.of c' (.gen g (fun x => (k x).wrap K H gd lv) (lv l) c p :: base)).Woken A := fun c' => by
    have hfit : ((Ctx.of c base).wake c' p).Fits (.gen g (fun x => (k x).wrap K H gd lv) (lv l) c p :: base) := (Ctx.fits_of c base).wake c' _ _ _ _
    have := hIn.wake c' p
    rw [fits_eq hfit] at this
    exact this
  have run : ∀ (c' : Code) (t : Sem Fin) (fs : List Frame) (p' : Pos), GRun M R A Post Env xs (s.setGen g .running) (s.setGen g .running) c' t fs →
      Good M R (s.setGen g .running) ⟨t, c', p', fs ++ .gen g (fun x => (k x).wrap K H gd lv) (lv l) c p :: base⟩ := by
    intro c' t fs p' h
    cases xs with
    | nil =>
      refine h g _ _ c p base p' (hw c') fun s' c₂ p₂ hp => ?_
      exact good_step (step_leaf_gen M s' c₂ p₂ base _ g _ _ c p) (hend rfl s' hp c base p K H gd lv hIn hQ hE)
    | cons x r =>
      refine h g _ _ c p base p' (hw c') fun s' tk cl l' k' c₂ p₂ fs₂ hp hfs hcl hnext => ?_
      exact yield_good hfs hcl (hyld x r rfl s' tk (.suspended k' l' c₂ p₂ fs₂ (cl || fs₂.any Frame.guarded)) hp (fun s'' he => hnext s'' he) c base p K H gd lv hIn hQ hE)
  cases gs with
  | fresh c' => exact good_step (step_resume_fresh M s c p base _ _ hg) (run c' _ [] p hgo)
  | suspended k₀ l₀ c₀ p₀ fs₀ cl => exact good_step (step_resume_suspended M s c p base _ _ _ hg) (run c₀ _ fs₀ p₀ hgo)
  | running => exact hgo.elim
  | finished => exact hgo.elim
end
end Mine
end

-- part Tri2
section
open PySem
namespace Mine
set_option maxRecDepth 100000

section
variable {M : Model} {R : Result → Shared → Prop} {A : Around} {s : Shared} {α : Type}

theorem tri_attempt {m : Sem α} {Q : Except Value α → Shared → Prop} {E : Value → Shared → Prop} (h : Tri M R A m (fun a => Q (.ok a)) (fun e => Q (.error e)) s) : Tri M R A m.attempt Q E s := by
  have e : m.attempt = tryCatch (m >>= fun a => (pure (Except.ok a) : Sem (Except Value α))) (fun e => (pure (Except.error e) : Sem (Except Value α))) := rfl
  rw [e]
  exact tri_tryCatch (tri_bind (tri_mono h (fun a s' x => tri_pure x) fun e s' x => tri_pure x))
theorem tri_runValue {c : Code} {Q : Value → Shared → Prop} {E : Value → Shared → Prop}
    (h : CodeTri M R A c (fun r s' => match r with | .ok (.ret v) => Q v s' | .ok _ => False | .error e => E e s') s) : Tri M R A (runValue c) Q E s := by
  unfold runValue run
  refine tri_bind (tri_call' (by simp) ?_)
  refine codeTri_mono h fun r s' x => ?_
  cases r with
  | ok f =>
    refine tri_pure ?_
    cases f with
    | ret v => exact tri_pure x
    | next => exact x.elim
    | brk => exact x.elim
    | cont => exact x.elim
  | error e => exact tri_throw x
theorem tri_callv {f : Value} {pos : List Value} {kw : List (Str × Value)} {Q : Value → Shared → Prop} {E : Value → Shared → Prop}
    (h : CodeTri M R A (.call f ⟨pos, kw⟩) (fun r s' => match r with | .ok (.ret v) => Q v s' | .ok _ => False | .error e => E e s') s) : Tri M R A (call f pos kw) Q E s := tri_runValue h
end
section
variable {prog : Program} {w : World} {R : Result → Shared → Prop} {A : Around} {s : Shared} {P : Result → Shared → Prop}

theorem codeTri_builtin {id : String} {args : Args} {b : Builtin} (hb : entryFor table id = some b)
    (h : Tri (model prog w) R (A.under (.builtin id args)) (b args) (fun fin s' => match fin with | .done f => P (.ok f) s' | .again c' => c'.quiet = true ∧ CodeTri (model prog w) R A c' P s') (fun e s' => P (.error e) s') s) :
    CodeTri (model prog w) R A (.builtin id args) P s := by
  refine tri_code ?_
  show Tri _ _ _ (match entryFor table id with | some b => b args | none => unsupported ((withoutEnding? id "#data").getD id)) _ _ s
  rw [hb]; exact h
theorem codeTri_call_builtin {id : String} {args : Args} {b : Builtin} (hq : plainId id = true) (hb : entryFor table id = some b)
    (h : wpAny (model prog w) A.in1 (checkBuiltinCall id args) (fun _ s₁ => Tri (model prog w) R A.in1 (b args)
      (fun fin s' => match fin with | .done f => P (.ok f) s' | .again c' => c'.quiet = true ∧ CodeTri (model prog w) R A c' P s') (fun e s' => P (.error e) s') s₁) (fun e s' => P (.error e) s') s) :
    CodeTri (model prog w) R A (.call (.builtin id) args) P s := by
  refine tri_code ?_
  show Tri _ _ A.in1 (do checkBuiltinCall id args; again (.builtin id args)) _ _ s
  refine tri_after (wpAny_mono h (fun _ s₁ h₁ => tri_pure (And.intro (plainId_quiet hq args) (codeTri_builtin hb ?_))) fun _ _ h' => h')
  rw [Around.under_plainId hq args]; exact h₁
theorem tri_call_entry {T : String} {name : Str} {id : String} {b : Builtin} {self : Value} {rest : List Value} {Q : Value → Shared → Prop} {E : Value → Shared → Prop} (h : Slot T name id) (hT : s.TypeIs self T)
    (hb : entryFor table id = some b) (hc : Tri (model prog w) R A.in1 (b ⟨self :: rest, []⟩) (fun fin s' => ∃ v, fin = .done (.ret v) ∧ Q v s') E s)
    (ha : argsOk id ⟨self :: rest, []⟩) : Tri (model prog w) R A (call (.builtin id) (self :: rest)) Q E s := by
  refine tri_callv (codeTri_call_builtin h.plain hb (h.check _ _ _ _ _ _ _ _ hT ha (tri_mono hc (fun fin s' h' => ?_) fun _ _ h' => h')))
  obtain ⟨v, rfl, hv⟩ := h'; exact hv
theorem tri_callSpecial_slot {self : Value} {T : String} {name : Str} {id : String} {args : List Value} {kw : List (Str × Value)} {Q : Option Value → Shared → Prop} {E : Value → Shared → Prop} (hT : s.TypeIs self T) (h : Slot T name id)
    (hc : Tri (model prog w) R A (call (.builtin id) (self :: args) kw) (fun v => Q (some v)) E s) : Tri (model prog w) R A (callSpecial? self name args kw) Q E s := by
  simp only [callSpecial?]
  refine tri_after (wpAny_specialOf hT h.lookup ?_)
  simp only [h.bind]
  exact tri_holding (tri_bind (tri_pure (tri_bind (tri_mono hc (fun v s' h' => tri_pure h') fun _ _ h' => h'))))
end
end Mine
end

-- part Tri3
section
open PySem
namespace Mine
set_option maxRecDepth 100000

/-- a generator's object; a delegator may have slept over it -/
def IsGen2 (h : Heap) (a : Addr) (g : Nat) : Prop :=
  ∃ o nm qn, h.get? a = some o ∧ o.cls = .type "generator" ∧ o.data = .fields #[.int g 0, nm, qn] ∧ (o.slots = #[] ∨ o.slots = #[some (.int 0 0)])
theorem IsGen2.typeIs {s : Shared} {a : Addr} {g : Nat} (x : IsGen2 s.heap a g) : s.TypeIs (.ref a) "generator" := let ⟨o, _, _, ho, hc, _⟩ := x; ⟨o, ho, hc⟩
/-- the exception that ends a generator without a value -/
def StopAt (h : Heap) (e : Value) : Prop := ∃ ex o fs, e = .ref ex ∧ h.get? ex = some o ∧ o.cls = .type "StopIteration" ∧ o.data = .fields fs ∧ fs[5]? = some .none

section
variable {prog : Program} {w : World} {R : Result → Shared → Prop} {A : Around} {s : Shared} {Post : Bool → Shared → Shared → Prop} {Env : Shared → Shared → Prop} {xs : List Str} {E : Value → Shared → Prop}

theorem wpAny_genNumber2 {M : Model} {a : Addr} {g : Nat} {Q : Nat → Shared → Prop} (hg : IsGen2 s.heap a g) (h : Q g s) : wpAny M A (Builtin.Generator.genNumber (.ref a)) Q E s := by
  obtain ⟨o, nm, qn, ho, _, hd, hsl⟩ := hg
  unfold Builtin.Generator.genNumber
  refine wpAny_bind (wpAny_load ho ?_)
  rcases hsl with hsl | hsl
  · rw [hsl, hd]
    show wpAny M A (pure ((g : Int).toNat)) Q E s
    rw [Int.toNat_natCast]; exact wpAny_pure h
  · rw [hsl, hd]
    show wpAny M A (pure ((g : Int).toNat)) Q E s
    rw [Int.toNat_natCast]; exact wpAny_pure h
theorem tri_genWake {a : Addr} {g : Nat} {gs : GenState} {Q : Value → Shared → Prop} (hh : A.handled = none) (hl : s.heap.NoLimit) (hroom : A.depth < recursionLimit) (hg : IsGen2 s.heap a g) (hgs : s.gens[g]? = some gs)
    (hgo : GoesG (model prog w) R A Post Env xs gs (s.setGen g .running))
    (hend : xs = [] → ∀ s', Post true (s.setGen g .running) s' → ∀ h' e, (∀ b o, s'.heap.get? b = some o → h'.get? b = some o) → StopAt h' e → E e { s'.setGen g .finished with heap := h' })
    (hyld : ∀ x r, xs = x :: r → ∀ s' tk gs', Post false (s.setGen g .running) s' → (∀ s'', Env s' s'' → GoesG (model prog w) R A Post Env r gs' s'') → Q (.str x tk) (s'.setGen g gs')) :
    Tri (model prog w) R A (Builtin.Generator.genWake (.ref a) (.send .none)) (fun fin s' => ∃ v, fin = .done (.ret v) ∧ Q v s') E s := by
  unfold Builtin.Generator.genWake
  refine tri_after (wpAny_holding (wpAny_genNumber2 hg ?_))
  refine tri_after (wpAny_genState hgs ?_)
  cases gs with
  | running => exact hgo.elim
  | finished => exact hgo.elim
  | _ =>
    refine tri_after (wpAny_roomToWake hl hroom ?_)
    show Tri _ _ A (.resume g (.send .none) [] _) _ _ s
    refine tri_resume hgs hgo (fun hx s₁ hp => ?_) (fun x r hx s₁ tk gs' hp hn => ?_)
    · refine tri_of_wp ?_
      show wpAny _ A (newExc (.type "StopIteration") [] >>= _) _ _ _
      refine wpAny_bind ?_
      simp only [newExc, newTuple]
      refine wpAny_bind (wpAny_newObj_type ?_ (by size_fits))
      refine wpAny_bind (m := firstArgMember _ _) (wpAny_of_eq (a := Value.none) (by first | rfl | (simp only [firstArgMember]; rfl)) ?_)
      refine wpAny_newObj_type ?_ (by size_fits)
      simp only [raiseNew]
      refine wpAny_bind (wpAny_bind (wpAny_handled ?_))
      rw [hh]
      refine wpAny_throw ?_
      exact hend hx s₁ hp _ _ (fun b o hb => Heap.get?_push_of_some _ (Heap.get?_push_of_some _ hb)) ⟨_, _, _, rfl, Heap.get?_push_size _ rfl, rfl, rfl, rfl⟩
    · exact tri_pure ⟨_, rfl, hyld x r hx s₁ tk gs' hp hn⟩
/-- next of a generator, as a special method -/
theorem tri_next {a : Addr} {g : Nat} {gs : GenState} {Q : Option Value → Shared → Prop} (hh : A.handled = none) (hl : s.heap.NoLimit) (hroom : A.in1.depth < recursionLimit) (hg : IsGen2 s.heap a g) (hgs : s.gens[g]? = some gs)
    (hgo : GoesG (model prog w) R A.in1 Post Env xs gs (s.setGen g .running))
    (hend : xs = [] → ∀ s', Post true (s.setGen g .running) s' → ∀ h' e, (∀ b o, s'.heap.get? b = some o → h'.get? b = some o) → StopAt h' e → E e { s'.setGen g .finished with heap := h' })
    (hyld : ∀ x r, xs = x :: r → ∀ s' tk gs', Post false (s.setGen g .running) s' → (∀ s'', Env s' s'' → GoesG (model prog w) R A.in1 Post Env r gs' s'') → Q (some (.str x tk)) (s'.setGen g gs')) :
    Tri (model prog w) R A (callSpecial? (.ref a) (Str.ofString "__next__")) Q E s := by
  refine tri_callSpecial_slot hg.typeIs slot_gen_next (tri_call_entry slot_gen_next hg.typeIs entry_gen_next ?_ (args_gen_next _))
  show Tri _ _ A.in1 (Builtin.Generator.genWake (.ref a) (.send .none)) _ _ s
  exact tri_genWake (Q := fun v => Q (some v)) hh hl hroom hg hgs hgo hend hyld
end
end Mine
end

-- part Gyf
section
open PySem
namespace Mine
set_option maxRecDepth 100000

theorem yf_entry : entryFor table "proto.yield_from" = some Builtin.«proto.yield_from» := entryFor_of_tree (by kernel_rfl)
theorem yf_quiet {as : Args} : (Code.builtin "proto.yield_from" as).quiet = true := Code.quiet_builtin _ (by decide +kernel)
theorem gen_close : ∃ v, typeLookup (.type "generator") "close" = pure (some v) := ⟨.builtin "generator.close", by rw [typeLookup_type, builtinLookup_eq_fast]; kernel_rfl⟩
theorem stop_type : typeOf (.type "StopIteration") = pure (.type "type") := by first | rfl | kernel_rfl

section
variable {M : Model} {R : Result → Shared → Prop} {A : Around} {s s₀ : Shared} {Post : Bool → Shared → Shared → Prop} {Env : Shared → Shared → Prop} {xs : List Str} {E : Value → Shared → Prop} {c : Code} {fs : List Frame}

theorem g_bind0 {α : Type} {m : Sem α} {f : α → Sem Fin} (h : Tri M R (A.over c fs) m (fun a s' => GRun M R A Post Env xs s₀ s' c (f a) fs) (fun x s' => GRun M R A Post Env xs s₀ s' c (.raise x) fs) s) :
    GRun M R A Post Env xs s₀ s c (m >>= f) fs := by
  rw [Sem.bind_eq_wrap']; exact g_wrap h
theorem wpAny_slept {a : Addr} {o : Obj} {n : Int} {vs : Array Value} {more : Bool} {Q : Unit → Shared → Prop} (ho : s.heap.get? a = some o) (hc : o.cls = .type "generator") (hda : o.data = .fields vs) (hs : (o.slots = #[] ∧ n = 0) ∨ o.slots = #[some (.int n 0)])
    (h : ∀ h', Heap.SameBut a s.heap h' → h'.get? a = some { o with slots := #[some (.int (if more = true then n + 1 else n - 1) 0)] } → Q () { s with heap := h' }) :
    wpAny M A (Builtin.Generator.sleptOver (.ref a) more) Q E s := by
  unfold Builtin.Generator.sleptOver
  refine wpAny_bind (wpAny_load ho ?_)
  have hb : (o.cls != .type "generator") = false := by rw [hc]; decide
  simp only [hb, Bool.false_eq_true, if_false]
  unfold setSlotAt
  have hz : ¬ (0 ≥ sizeLine) := by rw [sizeLine_eq]; omega
  rw [if_neg hz]
  have key : ∀ v : Option Value, (o.slots ++ Array.replicate (0 + 1 - o.slots.size) none).setIfInBounds 0 v = #[v] := by
    intro v
    rcases hs with ⟨hs, _⟩ | hs <;> rw [hs] <;> rfl
  refine wpAny_updatePart ho ?_
  refine h _ (Heap.SameBut.update ..) ?_
  rw [Heap.get?_update_self _ ho (by obtain ⟨cl, di, da, sl⟩ := o; dsimp only at hc hda; subst hc hda; rfl)]
  rw [key]
  rcases hs with ⟨hs, rfl⟩ | hs <;> (rw [hs]; cases more <;> rfl)
end
section
variable {prog : Program} {w : World} {R : Result → Shared → Prop} {A : Around} {s s₀ : Shared} {Post Post' : Bool → Shared → Shared → Prop} {Env Env' : Shared → Shared → Prop} {zs : List Str} {fs : List Frame} {a g : Nat}

abbrev yfCode (a : Addr) : Code := .builtin "proto.yield_from" ⟨[.ref a, .bool false, .none], []⟩
/-- what is known of the inner generator while it can be woken -/
structure Inner (prog : Program) (w : World) (R : Result → Shared → Prop) (A' : Around) (Post' : Bool → Shared → Shared → Prop) (Env' : Shared → Shared → Prop) (a : Addr) (g : Nat) (ys : List Str) (s : Shared) : Prop where
  lim : s.heap.NoLimit
  gen : IsGen2 s.heap a g
  goes : ∃ gs, s.gens[g]? = some gs ∧ GoesG (model prog w) R A' Post' Env' ys gs (s.setGen g .running)

theorem g_builtin {xs : List Str} {id : String} {args : Args} {b : Builtin} (hb : entryFor table id = some b) (h : GRun (model prog w) R A Post Env xs s₀ s (.builtin id args) (b args) fs) :
    GRun (model prog w) R A Post Env xs s₀ s (.builtin id args) ((model prog w).den (.builtin id args)) fs := by
  have e : (model prog w).den (.builtin id args) = b args := by
    show (match entryFor table id with | some b => b args | none => unsupported ((withoutEnding? id "#data").getD id)) = _
    rw [hb]
  rw [e]; exact h
theorem g_yieldFrom (hh : (A.over (yfCode a) fs).handled = none) (hroom : (A.over (yfCode a) fs).in1.depth < recursionLimit) (hfs : splitAtGen fs = none) (hgd : fs.any Frame.guarded = false)
    (Slp : List Str → Shared → Shared → Prop)
    (inner : ∀ ys s₀ s, Slp ys s₀ s → Inner prog w R (A.over (yfCode a) fs).in1 Post' Env' a g ys s)
    (fin : ∀ s₀ s, Slp [] s₀ s → ∀ s', Post' true (s.setGen g .running) s' → ∀ h' e, (∀ b o, s'.heap.get? b = some o → h'.get? b = some o) → StopAt h' e →
      ∀ c', GRun (model prog w) R A Post Env zs s₀ { s'.setGen g .finished with heap := h' } c' (leafOf (.ok (.ret .none))) fs)
    (yld : ∀ x r s₀ s, Slp (x :: r) s₀ s → ∀ s' gs', Post' false (s.setGen g .running) s' → (∀ s'', Env' s' s'' → GoesG (model prog w) R (A.over (yfCode a) fs).in1 Post' Env' r gs' s'') → IsGen2 s'.heap a g ∧
      ∀ o h', s'.heap.get? a = some o → Heap.SameBut a s'.heap h' → h'.get? a = some { o with slots := #[some (.int 1 0)] } → Post false s₀ { s'.setGen g gs' with heap := h' } ∧
        ∀ s3, Env { s'.setGen g gs' with heap := h' } s3 → s3.heap.get? a = some { o with slots := #[some (.int 1 0)] } ∧ ∀ h4, Heap.SameBut a s3.heap h4 → h4.get? a = some { o with slots := #[some (.int 0 0)] } → Slp r s3 { s3 with heap := h4 }) :
    ∀ ys s₀ s, Slp ys s₀ s → GRun (model prog w) R A Post Env (ys ++ zs) s₀ s (yfCode a) ((model prog w).den (yfCode a)) fs := by
  intro ys
  induction ys with
  | nil =>
    intro s₀ s hS
    obtain ⟨hlim, hgen, gs, hgs, hgo⟩ := inner _ _ _ hS
    refine g_builtin yf_entry ?_
    unfold Builtin.«proto.yield_from»
    dsimp only
    refine g_bind0 (tri_pure ?_)
    refine g_bind0 (tri_attempt (tri_holding ?_))
    rw [if_neg Bool.false_ne_true, if_pos (by decide)]
    refine tri_after (wpAny_rule ?_)
    refine tri_bind (tri_next hh hlim hroom hgen hgs hgo (fun _ s' hp h' e hk hst => ?_) (fun x r hx => by cases hx))
    have hF := fin s₀ s hS s' hp h' e hk hst
    obtain ⟨ex, o, fsx, rfl, ho, hc, hd, h5⟩ := hst
    refine g_bind0 (tri_of_wp ?_)
    unfold Builtin.Generator.endsTheTurnAsAValue Builtin.Generator.isStopAndMetaclass
    refine wpAny_bind (wpAny_bind (wpAny_typeOf (T := "StopIteration") ⟨o, ho, hc⟩ ?_))
    refine wpAny_bind (wpAny_of_eq (a := true) isSubtype_stop ?_)
    refine wpAny_bind (wpAny_of_eq (a := .type "type") stop_type ?_)
    refine wpAny_pure ?_
    dsimp only
    rw [if_neg Bool.false_ne_true]
    refine wpAny_pure ?_
    rw [if_pos rfl, if_neg Bool.false_ne_true]
    refine g_bind0 (tri_of_wp (wpAny_rule ?_))
    refine g_bind0 (tri_of_wp (wpAny_field ho hd h5 ?_))
    exact hF _
  | cons x r ih =>
    intro s₀ s hS
    obtain ⟨hlim, hgen, gs, hgs, hgo⟩ := inner _ _ _ hS
    refine g_builtin yf_entry ?_
    unfold Builtin.«proto.yield_from»
    dsimp only
    refine g_bind0 (tri_pure ?_)
    refine g_bind0 (tri_attempt (tri_holding ?_))
    rw [if_neg Bool.false_ne_true, if_pos (by decide)]
    refine tri_after (wpAny_rule ?_)
    refine tri_bind (tri_next hh hlim hroom hgen hgs hgo (fun hx => by cases hx) (fun x' r' hx s' tk gs' hp hn => ?_))
    obtain ⟨rfl, rfl⟩ := List.cons.inj hx
    refine tri_pure ?_
    obtain ⟨hgen', hy⟩ := yld x r s₀ s hS s' gs' hp hn
    obtain ⟨o, nm, qn, ho, hc, hd, hsl⟩ := id hgen'
    refine g_bind0 (tri_of_wp (wpAny_typeOf (s := s'.setGen g gs') hgen'.typeIs ?_))
    obtain ⟨vc, hvc⟩ := gen_close
    refine g_bind0 (tri_of_wp (wpAny_of_eq hvc ?_))
    refine g_bind0 (tri_pure ?_)
    refine g_bind0 (tri_of_wp (wpAny_slept (s := s'.setGen g gs') (n := 0) (more := true) ho hc hd (hsl.elim (fun h => .inl ⟨h, rfl⟩) .inr) fun h1 hs1 hg1 => ?_))
    obtain ⟨hpost, hnext⟩ := hy o h1 ho hs1 hg1
    show GRun _ _ _ _ _ (x :: (r ++ zs)) _ _ _ (.yield (.str x tk) true [] _) _
    refine g_yield hfs (fun hreg1 => ?_) hpost fun s3 hE => ?_
    · dsimp only at hreg1
      unfold closingShows
      rw [hgd]
      unfold delegateShows
      have e1 : ({ o with slots := #[some (.int 1 0)] } : Obj).genNumber? = some g := by
        obtain ⟨cl, di, da, sl⟩ := o
        dsimp only at hc hd
        subst hc hd
        simp [Obj.genNumber?]
      have hg1' : h1.get? a = some { o with slots := #[some (.int 1 0)] } := hg1
      simp only [hg1', e1, hreg1]
      rfl
    · obtain ⟨ho3, hS3⟩ := hnext s3 hE
      refine g_bind0 (tri_pure ?_)
      refine g_bind0 (tri_of_wp (wpAny_slept (s := s3) (n := 1) (more := false) ho3 hc hd (.inr rfl) fun h4 hs4 hg4 => ?_))
      dsimp only
      refine g_bind0 (tri_pure ?_)
      exact g_again yf_quiet (ih _ _ (hS3 h4 hs4 hg4))
end
end Mine
end

-- part Gst
section
open PySem
namespace Mine
set_option maxRecDepth 100000

section
variable {M : Model} {R : Result → Shared → Prop} {A : Around} {s s₀ : Shared} {Post : Bool → Shared → Shared → Prop} {Slo : Shared → Shared → Prop} {xs : List Str} {c : Code} {fs : List Frame} {env : Env}
  {K : Flow → Sem Fin} {H : Value → Sem Fin} {gd : Bool → Bool} {lv : List Value → List Value}

theorem g_bind {α β : Type} {m : Sem α} {f : α → Sem β} {K : β → Sem Fin} {H : Value → Sem Fin} {gd : Bool → Bool} {lv : List Value → List Value}
    (h : Tri M R (A.over c fs) m (fun a s' => GRun M R A Post Slo xs s₀ s' c ((f a).wrap K H gd lv) fs) (fun x s' => GRun M R A Post Slo xs s₀ s' c (H x) fs) s) :
    GRun M R A Post Slo xs s₀ s c ((m >>= f).wrap K H gd lv) fs := by
  rw [Sem.bind_eq_wrap', Sem.wrap_wrap]
  exact g_wrap h
/-- by the library's logic, without an exception -/
theorem g_bindW {α β : Type} {m : Sem α} {f : α → Sem β} {K : β → Sem Fin} {H : Value → Sem Fin} {gd : Bool → Bool} {lv : List Value → List Value}
    (h : wpAny M (A.over c fs) m (fun a s' => GRun M R A Post Slo xs s₀ s' c ((f a).wrap K H gd lv) fs) (fun _ _ => False) s) :
    GRun M R A Post Slo xs s₀ s c ((m >>= f).wrap K H gd lv) fs :=
  g_bind (tri_of_wp (wpAny_mono h (fun _ _ x => x) fun _ _ x => x.elim))
theorem g_wrapW {α : Type} {m : Sem α} {K : α → Sem Fin} {H : Value → Sem Fin} {gd : Bool → Bool} {lv : List Value → List Value}
    (h : wpAny M (A.over c fs) m (fun a s' => GRun M R A Post Slo xs s₀ s' c (K a) fs) (fun _ _ => False) s) : GRun M R A Post Slo xs s₀ s c (m.wrap K H gd lv) fs :=
  g_wrap (tri_of_wp (wpAny_mono h (fun _ _ x => x) fun _ _ x => x.elim))
theorem g_execs_cons {st : Stmt} {rest : List Stmt}
    (h : GRun M R A Post Slo xs s₀ s c ((exec st env).wrap (fun f => match f with | .next => (execs rest env).wrap K H gd lv | f => K f) H gd lv) fs) :
    GRun M R A Post Slo xs s₀ s c ((execs (st :: rest) env).wrap K H gd lv) fs := by rw [execs_cons_wrap]; exact h
theorem g_execs_nil (h : GRun M R A Post Slo xs s₀ s c (K .next) fs) : GRun M R A Post Slo xs s₀ s c ((execs [] env).wrap K H gd lv) fs := h
theorem g_If {test : Expr} {body orelse : List Stmt} {pos : Pos}
    (h : wpAny M (A.over c fs) (isTrue test env (eval test env)) (fun b s' => if b = true then GRun M R A Post Slo xs s₀ s' c ((execs body env).wrap K H gd lv) fs else GRun M R A Post Slo xs s₀ s' c ((execs orelse env).wrap K H gd lv) fs) (fun _ _ => False) s) :
    GRun M R A Post Slo xs s₀ s c ((exec (.If test body orelse pos) env).wrap K H gd lv) fs := by
  rw [exec_If]
  refine g_bindW (wpAny_standAt ?_)
  refine g_bindW (wpAny_mono h (fun b s' x => ?_) fun _ _ x => x)
  cases b with
  | true => exact x
  | false => exact x
theorem g_Yield {e : Expr} {ypos pos : Pos} {x : Str} (hfs : splitAtGen fs = none) (hgd : gd false = false) (hfg : fs.any Frame.guarded = false) (hpure : dropValue (.Yield (some e) ypos) pos .none = pure .next)
    (h : wpAny M (A.over c fs) (eval e env) (fun v s' => ∃ tk, v = .str x tk ∧ Post false s₀ s' ∧ ∀ s'', Slo s' s'' → GRun M R A Post Slo xs s'' s'' c (K .next) fs) (fun _ _ => False) s)
    (hco : env.scope.isCoroutine = false := by rfl) (hi : interactive env = false := by rfl) :
    GRun M R A Post Slo (x :: xs) s₀ s c ((exec (.Expr (.Yield (some e) ypos) pos) env).wrap K H gd lv) fs := by
  rw [exec_Expr env _ pos hi rfl]
  show GRun M R A Post Slo (x :: xs) s₀ s c ((standAt pos >>= fun _ => ((eval e env >>= fun v => (standAt ypos >>= fun _ => yieldOut env v)) >>= fun x => dropValue (.Yield (some e) ypos) pos x)).wrap K H gd lv) fs
  have hy : ∀ v, yieldOut env v = yieldValue v := fun v => by simp only [yieldOut, hco, Bool.false_eq_true, if_false]
  simp only [hy]
  refine g_bindW (wpAny_standAt ?_)
  rw [Sem.bind_eq_wrap', Sem.bind_eq_wrap', Sem.wrap_wrap, Sem.wrap_wrap]
  refine g_wrapW (wpAny_mono h (fun v s' h' => ?_) fun _ _ x => x)
  obtain ⟨tk, rfl, hp, hn⟩ := h'
  refine g_step (fun stk p => ⟨ypos, rfl⟩) ?_
  show GRun _ _ _ _ _ _ _ _ _ (.yield (.str x tk) _ _ _) _
  refine g_yield hfs (fun _ => ?_) hp fun s'' hE => ?_
  · show closingShows s' fs c (gd false) = false
    unfold closingShows
    rw [hgd, hfg]; rfl
  · exact hn s'' hE
end
section
variable {prog : Program} {w : World} {R : Result → Shared → Prop} {A : Around} {s s₀ : Shared} {Post : Bool → Shared → Shared → Prop} {Slo : Shared → Shared → Prop} {xs : List Str} {c : Code} {fs : List Frame} {env : Env}
  {K : Flow → Sem Fin} {H : Value → Sem Fin} {gd : Bool → Bool} {lv : List Value → List Value}

/-- the frame that a loop's code leaves behind -/
abbrev ownK (K : Flow → Sem Fin) (H : Value → Sem Fin) (gd : Bool → Bool) (lv : List Value → List Value) (env : Env) : Result → Sem Fin := fun r => ((match r with | .ok f => (.pure f : Sem Flow) | .error e => .raise e).onRaise fun (x : Value) => do
        if (← field x 1) == Value.none then unsupported "frame.own-activation:exception-without-traceback"
        setFlight x env.frame).wrap K H gd lv
theorem g_func {body : List Stmt}
    (h : GRun (model prog w) R A Post Slo xs s₀ s (.func body env) ((execs body env).wrap (fun f => .pure (.done (.ret (match f with | .ret v => v | _ => .none)))) (fun e => (leaving env e).wrap (fun _ => .raise e) .raise id id) id id) fs) :
    GRun (model prog w) R A Post Slo xs s₀ s (.func body env) ((model prog w).den (.func body env)) fs := by
  show GRun _ R A Post Slo xs s₀ s _ (.point [] fun _ => ((execs body env).onRaise (leaving env)) >>= _) fs
  refine g_step (fun stk p => ⟨p, step_point _ _ _ _ _ _ _⟩) ?_
  rw [Sem.onRaise_eq_wrap, Sem.bind_eq_wrap', Sem.wrap_wrap]
  rw [Sem.wrap_congr (execs body env) _ _ (K' := fun f => .pure (.done (.ret (match f with | .ret v => v | _ => .none))))
    (H' := fun e => (leaving env e).wrap (fun _ => .raise e) .raise id id) (fun f => by cases f <;> rfl)
    (fun e => by rw [Sem.bind_eq_wrap, Sem.wrap_wrap]; rfl)]
  exact h
theorem g_For {target iter : Expr} {body orelse : List Stmt} {pos : Pos} (hs : ∀ x, foldedSetIterable iter env x = pure x)
    (h : wpAny (model prog w) (A.over c fs) (eval iter env) (fun x s₁ => wpAny (model prog w) (A.over c fs) (pyIter x) (fun it s₂ => ∀ p, GRun (model prog w) R A Post Slo xs s₀ s₂ (.forLoop target it body orelse env) ((model prog w).den (.forLoop target it body orelse env))
      (.ret (ownK K H gd lv env) none (gd false) (lv []) c p [] :: fs)) (fun _ _ => False) s₁) (fun _ _ => False) s) :
    GRun (model prog w) R A Post Slo xs s₀ s c ((exec (.For target iter body orelse pos) env).wrap K H gd lv) fs := by
  rw [exec_For]
  refine g_bindW (wpAny_standAt ?_)
  refine g_bindW (wpAny_mono h (fun x s₁ h₁ => ?_) fun _ _ x => x)
  refine g_bindW (wpAny_of_eq (hs x) ?_)
  refine g_bindW (wpAny_standAt ?_)
  refine g_bindW (wpAny_holding (wpAny_mono h₁ (fun it s₂ h₂ => ?_) fun _ _ x => x))
  exact g_call h₂
abbrev forK (x : Str) (px : Pos) (it : Value) (body : List Stmt) (env : Env) : Flow → Sem Fin := fun f => match f with
  | .next | .cont => .pure (.again (.forLoop (.Name x px) it body [] env))
  | .brk => .pure (.done .next)
  | .ret v => .pure (.done (.ret v))
abbrev forH (env : Env) : Value → Sem Fin := fun e => (do noteFrame e env; theTreesLotGoes e : Sem Unit).wrap (fun _ => .raise e) .raise id id
theorem g_forTurn {x : Str} {px : Pos} {it : Value} {body : List Stmt}
    (h : wpAny (model prog w) (A.over (.forLoop (.Name x px) it body [] env) fs) (pyNext it) (fun o s₁ => match o with
      | none => GRun (model prog w) R A Post Slo xs s₀ s₁ (.block [] env) ((model prog w).den (.block [] env)) fs
      | some v => wpAny (model prog w) (A.over (.forLoop (.Name x px) it body [] env) fs) (assign (.Name x px) env v) (fun _ s₂ =>
          GRun (model prog w) R A Post Slo xs s₀ s₂ (.forLoop (.Name x px) it body [] env) ((execs body env).wrap (forK x px it body env) (forH env) id id) fs) (fun _ _ => False) s₁) (fun _ _ => False) s) :
    GRun (model prog w) R A Post Slo xs s₀ s (.forLoop (.Name x px) it body [] env) ((model prog w).den (.forLoop (.Name x px) it body [] env)) fs := by
  show GRun _ R A Post Slo xs s₀ s _ ((forTurn (.Name x px) it body [] env).onRaise (fun x => do noteFrame x env; theTreesLotGoes x)) fs
  rw [Sem.onRaise_eq_wrap]
  unfold forTurn
  refine g_bindW (wpAny_standAt ?_)
  refine g_bindW (wpAny_onRaise (wpAny_mono h (fun o s₁ h₁ => ?_) fun _ _ x => x.elim))
  cases o with
  | none =>
    exact g_again (by rfl) h₁
  | some v =>
    dsimp only
    refine g_bindW (m := letOwnedTupleGo (.Name x px) it v) (wpAny_of_eq (a := ()) rfl ?_)
    refine g_bindW (wpAny_mono h₁ (fun _ s₂ h₂ => ?_) fun _ _ x => x)
    rw [Sem.bind_eq_wrap', Sem.wrap_wrap]
    rw [Sem.wrap_congr (execs body env) _ _ (K' := forK x px it body env) (H' := forH env) (fun f => by cases f <;> rfl)
      (fun e => by first | exact Sem.bind_eq_wrap _ _ | (show (do noteFrame e env; theTreesLotGoes e : Sem Unit).bind (fun _ => .raise e) = _; rw [Sem.bind_eq_wrap]))]
    exact h₂
theorem g_forEnd (h : ∀ c', GRun (model prog w) R A Post Slo xs s₀ s c' (leafOf (.ok .next)) fs) : GRun (model prog w) R A Post Slo xs s₀ s (.block [] env) ((model prog w).den (.block [] env)) fs := by
  exact h _
/-- what a finished delegate goes on with -/
abbrev yfK (K : Flow → Sem Fin) (H : Value → Sem Fin) (gd : Bool → Bool) (lv : List Value → List Value) (e : Expr) (ypos pos : Pos) : Result → Sem Fin := fun r =>
  Sem.wrap (fun a => Sem.wrap K H gd lv (dropValue (.YieldFrom e ypos) pos a)) (fun e => Sem.wrap K H gd lv (Sem.raise e)) (fun g => gd g) (fun l => lv l)
    (Sem.bind (match r with | .ok f => (Sem.pure f : Sem Flow) | .error e => Sem.raise e) fun f => match f with
      | .ret v => (pure v : Sem Value)
      | _ => unsupported "internal:call-without-return-value")
theorem yfK_done {e : Expr} {ypos pos : Pos} : yfK K H gd lv e ypos pos (.ok (.ret .none)) = K .next := rfl
theorem g_YieldFrom {e : Expr} {ypos pos : Pos}
    (h : wpAny (model prog w) (A.over c fs) (eval e env) (fun v s₁ => ∃ a, v = .ref a ∧ s₁.TypeIs (.ref a) "generator" ∧ wpAny (model prog w) (A.over c fs) (pyIter (.ref a)) (fun it s₂ => it = .ref a ∧
      ∀ p, GRun (model prog w) R A Post Slo xs s₀ s₂ (yfCode a) ((model prog w).den (yfCode a)) (.ret (yfK K H gd lv e ypos pos) none (gd false) (lv []) c p [] :: fs)) (fun _ _ => False) s₁) (fun _ _ => False) s)
    (hi : interactive env = false := by rfl) :
    GRun (model prog w) R A Post Slo xs s₀ s c ((exec (.Expr (.YieldFrom e ypos) pos) env).wrap K H gd lv) fs := by
  rw [exec_Expr env _ pos hi rfl]
  refine g_bindW (wpAny_standAt ?_)
  have e1 : eval (.YieldFrom e ypos) env = (eval e env >>= fun v => standAt ypos >>= fun _ => yieldFrom env v) := rfl
  rw [e1]
  rw [Sem.bind_eq_wrap', Sem.wrap_wrap]
  refine g_bindW (wpAny_mono h (fun v s₁ h₁ => ?_) fun _ _ x => x)
  obtain ⟨a, rfl, hT, h2⟩ := h₁
  refine g_bindW (wpAny_standAt ?_)
  unfold yieldFrom
  refine g_bindW (wpAny_typeOf hT ?_)
  rw [if_neg (by decide)]
  refine g_bindW (wpAny_holding (wpAny_mono h2 (fun it s₂ h₃ => ?_) fun _ _ x => x))
  obtain ⟨rfl, hg⟩ := h₃
  unfold runValue run
  refine g_call fun p => ?_
  exact hg p
end
end Mine
end

-- part Tls
section
open PySem
namespace Mine
set_option maxRecDepth 100000

section
variable {prog : Program} {w : World} {R : Result → Shared → Prop} {A : Around} {s : Shared} {E : Value → Shared → Prop}

theorem tri_callList {I : Addr} {Q : Value → Shared → Prop}
    (h : CodeTri (model prog w) R A.in1 (.call (.builtin "list.__init__") ⟨[.ref s.heap.objs.size, .ref I], []⟩) (fun r s' => match r with | .ok (.ret .none) => Q (.ref s.heap.objs.size) s' | .ok _ => False | .error e => E e s') { s with heap := s.heap.push { cls := .type "list", data := .seq #[] } }) :
    Tri (model prog w) R A (call (.type "list") [.ref I]) Q E s := by
  have ft := PySem.F.called_list
  obtain ⟨c, tl, hmro⟩ := ft.mro
  refine tri_callv (tri_code ?_)
  show Tri _ _ _ (callAny (.type "list") _) _ _ _
  refine tri_pure ⟨Code.quiet_builtin _ (by decide +kernel), codeTri_builtin PySem.F.entry_type_call ?_⟩
  rw [Around.under_plain (weight_type_call_type "list" [.ref I] []) rfl]
  unfold Builtin.«type.__call__»
  dsimp only
  rw [if_neg (by decide), if_neg (by decide +kernel)]
  refine tri_after (wpAny_of_eq (a := ()) (PySem.F.typeCall_list_1 _) ?_)
  refine tri_after (wpAny_of_eq hmro ?_)
  rw [if_neg (by simp)]
  refine tri_after (wpAny_of_eq ft.made ?_)
  dsimp only
  refine tri_after (wpAny_pure ?_)
  refine tri_after (wpAny_holding (wpAny_call (codeAny_mono (code_list_new (E := fun _ _ => False) (.ref I) (Q₁ := fun obj s₁ => obj = .ref s.heap.objs.size ∧ s₁ = { s with heap := s.heap.push { cls := .type "list", data := .seq #[] } }) ⟨rfl, rfl⟩) fun r s₁ hr => ?_)))
  cases r with
  | error e => exact hr.elim
  | ok fl =>
    cases fl with
    | ret obj =>
      obtain ⟨rfl, rfl⟩ := hr
      have hT : ({ s with heap := s.heap.push { cls := .type "list", data := .seq #[] } } : Shared).TypeIs (.ref s.heap.objs.size) "list" := ⟨_, Heap.get?_push_size _ rfl, rfl⟩
      refine tri_after (wpAny_isInstance hT sub_list_self ?_)
      rw [if_neg (by decide)]
      refine tri_bind (tri_holding (tri_callSpecial_slot hT ft.init (tri_callv (codeTri_mono h fun r₂ s₂ hr₂ => ?_))))
      cases r₂ with
      | error e => exact hr₂
      | ok fl₂ =>
        cases fl₂ with
        | ret r =>
          cases r <;> first | exact hr₂.elim | skip
          dsimp only
          rw [if_neg (by decide)]
          exact tri_pure hr₂
        | next => exact hr₂.elim
        | brk => exact hr₂.elim
        | cont => exact hr₂.elim
    | next => exact hr.elim
    | brk => exact hr.elim
    | cont => exact hr.elim
/-- list.extend.loop over a generator: J says what is held while texts are still to come -/
theorem codeTri_extendLoop {S I g : Addr} {Post : Bool → Shared → Shared → Prop} {Slo : Shared → Shared → Prop} {P : Result → Shared → Prop} {A' : Around} (hA' : A' = A.in1.in1) (hh : A.in1.handled = none) (hroom : A.in1.in1.depth < recursionLimit)
    (J : List Str → Array Value → Nat → Shared → Prop)
    (inner : ∀ xs acc c s, J xs acc c s → s.heap.NoLimit ∧ IsGen2 s.heap I g ∧ acc.size ≤ 1000 ∧ s.heap.get? S = some { cls := .type "list", dict := none, data := .seq acc c, slots := #[] } ∧ ∃ gs, s.gens[g]? = some gs ∧ GoesG (model prog w) R A.in1.in1 Post Slo xs gs (s.setGen g .running))
    (fin : ∀ acc c s, J [] acc c s → ∀ s', Post true (s.setGen g .running) s' → ∀ h' e, (∀ b o, s'.heap.get? b = some o → h'.get? b = some o) → StopAt h' e → P (.ok (.ret .none)) { s'.setGen g .finished with heap := h' })
    (item : ∀ x r acc c s, J (x :: r) acc c s → ∀ s' tk gs', Post false (s.setGen g .running) s' → (∀ s'', Slo s' s'' → GoesG (model prog w) R A.in1.in1 Post Slo r gs' s'') →
      s'.heap.get? S = some { cls := .type "list", dict := none, data := .seq acc c, slots := #[] } ∧ ∀ h' c', Heap.SameBut S s'.heap h' → h'.get? S = some { cls := .type "list", dict := none, data := .seq (acc.push (.str x tk)) c', slots := #[] } → J r (acc.push (.str x tk)) c' { s'.setGen g gs' with heap := h' }) :
    ∀ xs acc c s, J xs acc c s → CodeTri (model prog w) R A (.builtin "list.extend.loop" ⟨[.ref S, .ref I, .none], []⟩) P s := by
  intro xs
  induction xs with
  | nil =>
    intro acc c s hJ
    obtain ⟨hlim, hgen, hsz, hS, gs, hgs, hgo⟩ := inner _ _ _ _ hJ
    refine codeTri_builtin PySem.F.entry_extend_loop ?_
    rw [Around.under_plainId PySem.F.plain_extend_loop _]
    show Tri _ _ A.in1 (pyNext (.ref I) >>= _) _ _ s
    unfold pyNext
    refine tri_bind (tri_bind (tri_attempt (tri_next hh hlim hroom hgen hgs hgo (fun _ s' hp h' e hk hst => ?_) (fun x r hx => by cases hx))))
    have hF := fin _ _ _ hJ s' hp h' e hk hst
    obtain ⟨ex, o, fsx, rfl, ho, hc, hd, h5⟩ := hst
    dsimp only
    refine tri_after (wpAny_isInstance (T := "StopIteration") (b := true) ⟨o, ho, hc⟩ isSubtype_stop ?_)
    rw [if_pos rfl]
    exact tri_pure (tri_pure hF)
  | cons x r ih =>
    intro acc c s hJ
    obtain ⟨hlim, hgen, hsz, hS, gs, hgs, hgo⟩ := inner _ _ _ _ hJ
    refine codeTri_builtin PySem.F.entry_extend_loop ?_
    rw [Around.under_plainId PySem.F.plain_extend_loop _]
    show Tri _ _ A.in1 (pyNext (.ref I) >>= _) _ _ s
    unfold pyNext
    refine tri_bind (tri_bind (tri_attempt (tri_next hh hlim hroom hgen hgs hgo (fun hx => by cases hx) (fun x' r' hx s' tk gs' hp hn => ?_))))
    obtain ⟨rfl, rfl⟩ := List.cons.inj hx
    obtain ⟨hS', hnext⟩ := item _ _ _ _ _ hJ s' tk gs' hp hn
    dsimp only
    refine tri_pure ?_
    show Tri _ _ A.in1 (updateSeq S (·.push (.str x tk)) >>= _) _ _ _
    refine tri_after (wpAny_updateSeq (hz := by seq_fits) (s := s'.setGen g gs') hS' rfl (tri_pure ⟨plainId_quiet PySem.F.plain_extend_loop _, ?_⟩))
    exact ih _ _ _ (hnext _ _ (Heap.SameBut.update ..) (Heap.get?_update_self (Obj.mapSeq (·.push (.str x tk))) hS' rfl))
theorem life_upd (h : Heap) (a : Addr) (f : Obj → Obj) : (h.update a f).life = h.life := by cases h; rfl
/-- list.__init__ of a new list with a generator -/
theorem codeTri_listInit {S I : Addr} {P : Result → Shared → Prop} (hSI : S ≠ I) (hT : s.TypeIs (.ref I) "generator") (hS : s.heap.get? S = some { cls := .type "list", data := .seq #[] })
    (hiter : ∀ (A' : Around) (s' : Shared) (Q : Value → Shared → Prop) (E : Value → Shared → Prop), (∀ b o, b ≠ S → s.heap.get? b = some o → s'.heap.get? b = some o) → Q (.ref I) s' → wpAny (model prog w) A' (pyIter (.ref I)) Q E s')
    (h : ∀ h' c, (∀ b o, b ≠ S → s.heap.get? b = some o → h'.get? b = some o) → h'.life = s.heap.life → h'.objs.size = s.heap.objs.size → h'.get? S = some { cls := .type "list", dict := none, data := .seq #[] c, slots := #[] } →
      CodeTri (model prog w) R A (.builtin "list.extend.loop" ⟨[.ref S, .ref I, .none], []⟩) P { s with heap := h' }) :
    CodeTri (model prog w) R A (.call (.builtin "list.__init__") ⟨[.ref S, .ref I], []⟩) P s := by
  have ft := PySem.F.called_list
  have hTS : s.TypeIs (.ref S) "list" := ⟨_, hS, rfl⟩
  refine codeTri_call_builtin ft.init.plain PySem.F.entry_list_init (ft.init.check _ _ _ _ _ _ _ _ hTS (PySem.F.args_list_init_2 _ _) ?_)
  show Tri _ _ A.in1 (do let old ← Builtin.List.listItems (.ref S); Builtin.List.listUpdate (.ref S) (fun _ => #[]); letGo old.toList.reverse; Builtin.List.listExtendWith (.ref S) (.ref I) .none) _ _ s
  unfold Builtin.List.listItems
  refine tri_after (wpAny_bind (wpAny_seqItems hS rfl (wpAny_pure ?_)))
  show Tri _ _ A.in1 (updateSeq S (fun _ => #[]) >>= fun _ => letGo (#[] : Array Value).toList.reverse >>= fun _ => Builtin.List.listExtendWith (.ref S) (.ref I) .none) _ _ s
  refine tri_after (wpAny_updateSeq hS rfl ?_)
  have hS₂ := Heap.get?_update_self (Obj.mapSeq (fun _ => (#[] : Array Value))) hS rfl
  have oth : ∀ b o, b ≠ S → s.heap.get? b = some o → (s.heap.update S (Obj.mapSeq (fun _ => (#[] : Array Value)))).get? b = some o :=
    fun b o hb e => (Heap.get?_update_other _ _ (Ne.symm hb)).trans e
  refine tri_after (wpAny_letGo ?_)
  have hT2 : ({ s with heap := s.heap.update S (Obj.mapSeq (fun _ => (#[] : Array Value))) } : Shared).TypeIs (.ref I) "generator" := by
    obtain ⟨o, ho, hc⟩ := hT
    exact ⟨o, oth _ _ hSI.symm ho, hc⟩
  unfold Builtin.List.listExtendWith
  refine tri_after (wpAny_typeOf hT2 ?_)
  have h1 : Builtin.List.listSameRef (.ref S) (.ref I) = false := by simp [Builtin.List.listSameRef, hSI]
  have h2 : (Value.type "generator" == Value.type "list") = false := by decide
  have h3 : (Value.type "generator" == Value.type "tuple") = false := by decide
  simp only [h1, h2, h3, Bool.or_false, Bool.false_eq_true, if_false]
  refine tri_after (hiter _ _ _ _ oth ?_)
  refine tri_after (wpAny_holding ?_)
  unfold Builtin.List.listLengthHint
  refine wpAny_bind (wpAny_specialOf hT2 PySem.F.gen_no_len ?_)
  show wpAny _ A.in1 (specialOf (Value.ref I) (Str.ofString "__length_hint__") >>= _) _ _ _
  refine wpAny_bind (wpAny_specialOf hT2 PySem.F.gen_no_hint ?_)
  refine wpAny_pure ?_
  show Tri _ _ A.in1 (rule "list.extend.makes-room" >>= fun _ => Builtin.List.listTouch (.ref S) >>= fun _ =>
    again (.builtin "list.extend.loop" ⟨[.ref S, .ref I, .none], []⟩)) _ _ _
  refine tri_after (wpAny_rule ?_)
  refine tri_after ?_
  show wpAny _ A.in1 (updateSeq S (·.push .none) >>= fun _ => updateSeq S (·.pop)) _ _ _
  refine wpAny_bind (wpAny_updateSeq hS₂ rfl ?_)
  have hS₃ := Heap.get?_update_self (Obj.mapSeq (·.push Value.none)) hS₂ rfl
  refine wpAny_updateSeq (hz := by seq_fits) hS₃ rfl ?_
  have hS₄ := Heap.get?_update_self (Obj.mapSeq (·.pop)) hS₃ rfl
  refine tri_pure ⟨plainId_quiet PySem.F.plain_extend_loop _, ?_⟩
  refine h _ _ (fun b o hb e => ?_) ?_ ?_ hS₄
  · exact (Heap.get?_update_other _ _ (Ne.symm hb)).trans ((Heap.get?_update_other _ _ (Ne.symm hb)).trans (oth b o hb e))
  · rw [life_upd, life_upd, life_upd]
  · rw [Heap.size_update, Heap.size_update, Heap.size_update]
end
end Mine
end

-- part Flat0
section
open PySem PySem.W PyProof.Rows
namespace Mine
set_option maxRecDepth 100000
set_option maxHeartbeats 8000000

section
variable {prog : Program} {w : World} {A : Around} {s : Shared} {K : Frag} {hB : Heap}
/-- the call of a generator function lays a frame and an object, and runs nothing -/
theorem code_gen {R : Result → Shared → Prop} {name qual : Str} {params : Arguments} {body : List Stmt} {scope : Scope} {dV kV doc pm cdv ct oc : Value} {an od : Option Addr} {osl : Array (Option Value)} {f : Addr} {args : Args} {binds : List (Str × Value)}
    (X : K.In s.heap) (lim : s.heap.NoLimit)
    (ho : K.lookup f = some ⟨oc, od, .func (fnOf name qual params body scope dV kV doc pm an cdv ct), osl⟩) (hcd : codeIn K cdv qual = true) (hroom : A.depth < recursionLimit)
    (hbind : BindsTo s (fnOf name qual params body scope dV kV doc pm an cdv ct) args binds) (hloc : ∀ y ∈ binds, scope.names.lookup y.1 = some .local)
    (h : ∀ h' tk, h'.Ns s.heap.objs.size (fun y => binds.reverse.lookup y) → (∀ b o, s.heap.get? b = some o → h'.get? b = some o) → Heap.IsGen h' (s.heap.objs.size + 1) s.gens.size → h'.objs.size = s.heap.objs.size + 2 →
      R (.ok (.ret (.ref (s.heap.objs.size + 1)))) { s with heap := h', toks := tk, gens := s.gens.push (.fresh (.func body (envOf qual scope s.heap.objs.size f cdv))) })
    (hco : scope.isCoroutine = false) (hgen : scope.isGenerator = true) (hk : scope.kind = .function)
    (hcell : ∀ x ∈ scope.names, x.2 ≠ .cell) : codeAny (model prog w) A (.call (.ref f) args) R s := by
  refine codeAny_call_generator hroom (X _ _ ho) rfl hco hgen rfl (codeRec_of X hcd) (hbind _ _ _ _ ?_)
  refine wpAny_newFunctionEnv hcell hloc (fun h₀ hns₀ hsb₀ => ⟨lim.fresh _ hsb₀, ?_⟩) hk
  have hsz : h₀.objs.size = s.heap.objs.size + 1 := by
    rw [hsb₀.1, Heap.size_push]
  have key := fun o : Obj => h (h₀.push o) (s.toks + binds.length + 1 + 1) (hns₀.keeps fun _ _ e => Heap.get?_push_of_some o e)
    (fun b o' e => Heap.get?_push_of_some o (hsb₀.extBut b o' (Nat.ne_of_lt (Heap.lt_size e)) (Heap.get?_push_of_some _ e)))
  have hg : (h₀.push { cls := .type "generator", data := .fields #[.int s.gens.size 0, .str name (s.toks + binds.length), .str qual (s.toks + binds.length + 1)] }).IsGen (s.heap.objs.size + 1) s.gens.size :=
    ⟨_, _, _, by rw [← hsz]; exact Heap.get?_push_size _ rfl, rfl, rfl, rfl⟩
  have := key _ hg (by rw [Heap.size_push, hsz])
  rw [← hsz] at this
  exact this
end
end Mine
end

-- part Ha
section
open PySem PySem.W PyProof.Rows
namespace Mine
set_option maxRecDepth 100000
set_option maxHeartbeats 4000000

theorem entry_hasattr : entryFor table "hasattr" = some Builtin.«hasattr» := entryFor_of_tree (by kernel_rfl)
theorem args_hasattr (a b : Value) : argsOk "hasattr" ⟨[a, b], []⟩ := by unfold argsOk; kernel_rfl
theorem slot_wd_get : Slot "wrapper_descriptor" "__get__" "wrapper_descriptor.__get__" :=
  .of (owner := "wrapper_descriptor") (n := "__get__") (by rw [typeLookup_type, builtinLookup_eq_fast]; kernel_rfl) (by decide +kernel) (by decide +kernel) (by decide +kernel)
    (by first | exact .inl (by decide +kernel) | exact .inr (by decide +kernel)) (by rw [isSubtype_type]; kernel_rfl)
theorem no_wd_set : typeLookup (.type "wrapper_descriptor") "__set__" = pure none := by rw [typeLookup_type, builtinLookup_eq_fast]; kernel_rfl
theorem no_wd_delete : typeLookup (.type "wrapper_descriptor") "__delete__" = pure none := by rw [typeLookup_type, builtinLookup_eq_fast]; kernel_rfl
theorem entry_wd_get : entryFor table "wrapper_descriptor.__get__" = some Builtin.«wrapper_descriptor.__get__» := entryFor_of_tree (by kernel_rfl)
theorem args_wd_get (a b c : Value) : argsOk "wrapper_descriptor.__get__" ⟨[a, b, c], []⟩ := by unfold argsOk; kernel_rfl
theorem typeOf_list_iter : typeOf (.builtin "list.__iter__") = pure (.type "wrapper_descriptor") := by kernel_rfl
theorem owner_list_iter : (".".intercalate ("list.__iter__".cutAt '.').dropLast) = "list" := by
  have e0 : "list.__iter__".cutAt '.' = ["list", "__iter__"] := by first | rfl | decide +kernel
  rw [e0]; decide +kernel
theorem sub_list_iter_owner : isSubtype (.type "list") (.type (".".intercalate ("list.__iter__".cutAt '.').dropLast)) = pure true := by
  rw [owner_list_iter, isSubtype_type]; kernel_rfl
theorem list_no_module : isSubtype (.type "list") (.type "module") = pure false := by rw [isSubtype_type]; kernel_rfl
theorem list_no_strtype : isSubtype (.type "list") (.type "str") = pure false := by rw [isSubtype_type]; kernel_rfl

section
variable {prog : Program} {w : World} {A : Around} {E : Value → Shared → Prop} {h : Heap} {g : Array GenState} {d : Drawn} {t : Nat} {os : OsState} {a : Addr} {o : Obj}
theorem iter_get_list {R : Result → Shared → Prop} (hx : h.get? a = some o) (hc : o.cls = .type "list") (hq : ∀ v h' t', (∀ b o', h.get? b = some o' → h'.get? b = some o') → R (.ok (.ret (.ref v))) ⟨h', g, d, t', os⟩) :
    codeAny (model prog w) A (.call (.builtin "wrapper_descriptor.__get__") ⟨[.builtin "list.__iter__", .ref a, .type "list"], []⟩) R ⟨h, g, d, t, os⟩ := by
  have hT : (⟨h, g, d, t, os⟩ : Shared).TypeIs (.ref a) "list" := ⟨_, hx, hc⟩
  have hT5 : (⟨h, g, d, t, os⟩ : Shared).TypeIs (.builtin "list.__iter__") "wrapper_descriptor" := typeOf_list_iter
  have f8 := sub_list_iter_owner
  refine codeAny_call_builtin slot_wd_get.plain entry_wd_get (slot_wd_get.check _ _ _ _ _ _ _ _ hT5 (args_wd_get _ _ _) ?_)
  repeat (any_goals (first | assumption | wp_step))
  all_goals exact hq _ _ _ fun _ _ e => Heap.get?_push_of_some _ e

theorem iter_entry_list {tk : Tok} {Q : Fin → Shared → Prop} (hx : h.get? a = some o) (hc : o.cls = .type "list") (hd : o.dict = none) (hs : ∃ vs n, o.data = .seq vs n) (hq : ∀ v h' t', (∀ b o', h.get? b = some o' → h'.get? b = some o') → Q (.done (.ret (.ref v))) ⟨h', g, d, t', os⟩) :
    wpAny (model prog w) A (Builtin.«object.__getattribute__» ⟨[.ref a, .str "__iter__" tk], []⟩) Q E ⟨h, g, d, t, os⟩ := by
  have hT : (⟨h, g, d, t, os⟩ : Shared).TypeIs (.ref a) "list" := ⟨_, hx, hc⟩
  have hT5 : (⟨h, g, d, t, os⟩ : Shared).TypeIs (.builtin "list.__iter__") "wrapper_descriptor" := typeOf_list_iter
  have f4 := PySem.F.slot_list_iter.lookup
  have f5 := typeOf_list_iter
  have f6 := slot_wd_get.lookup
  have f7 := no_wd_set
  have f8 := no_wd_delete
  obtain ⟨vs, n, hs⟩ := hs
  obtain ⟨cl, di, da, sl⟩ := o
  dsimp only at hc hd hs
  subst hc hd hs
  repeat (any_goals (first | assumption | wp_step))
  refine iter_get_list hx rfl fun v h' t' hk => ?_
  repeat (any_goals (first | assumption | wp_step))
  all_goals exact hq _ _ _ hk

theorem iter_call_list {tk : Tok} {R : Result → Shared → Prop} (hx : h.get? a = some o) (hc : o.cls = .type "list") (hd : o.dict = none) (hs : ∃ vs n, o.data = .seq vs n) (hq : ∀ v h' t', (∀ b o', h.get? b = some o' → h'.get? b = some o') → R (.ok (.ret (.ref v))) ⟨h', g, d, t', os⟩) :
    codeAny (model prog w) A (.call (.builtin "list.__getattribute__") ⟨[.ref a, .str "__iter__" tk], []⟩) R ⟨h, g, d, t, os⟩ :=
  codeAny_call_builtin PySem.F.slot_list_getattribute.plain PySem.F.entry_list_ga (PySem.F.slot_list_getattribute.check _ _ _ _ _ _ _ _ (show (⟨h, g, d, t, os⟩ : Shared).TypeIs (.ref a) "list" from ⟨_, hx, hc⟩) (PySem.F.args_list_getattribute_2 _ _) (iter_entry_list hx hc hd hs fun v h' t' hk => hq v h' t' hk))

theorem iter_by_list {tk : Tok} {Q : Value → Shared → Prop} (hx : h.get? a = some o) (hc : o.cls = .type "list") (hd : o.dict = none) (hs : ∃ vs n, o.data = .seq vs n) (hq : ∀ v h' t', (∀ b o', h.get? b = some o' → h'.get? b = some o') → Q (.ref v) ⟨h', g, d, t', os⟩) : wpAny (model prog w) A (getAttrBy (.ref a) (.str "__iter__" tk) false) Q E ⟨h, g, d, t, os⟩ := by
  have hT : (⟨h, g, d, t, os⟩ : Shared).TypeIs (.ref a) "list" := ⟨_, hx, hc⟩
  have f2 := PySem.F.slot_list_getattribute.lookup
  have f3 := PySem.F.slot_list_getattribute.bind (.ref a)
  repeat (any_goals (first | assumption | wp_step))
  refine iter_call_list hx hc hd hs fun v h' t' hk => ?_
  repeat (any_goals (first | assumption | wp_step))
  all_goals exact hq _ _ _ hk

theorem ha_entry_list {tk : Tok} {Q : Fin → Shared → Prop} (hx : h.get? a = some o) (hc : o.cls = .type "list") (hd : o.dict = none) (hs : ∃ vs n, o.data = .seq vs n) (hq : ∀ h' t', (∀ b o', h.get? b = some o' → h'.get? b = some o') → Q (.done (.ret (.bool true))) ⟨h', g, d, t', os⟩) :
    wpAny (model prog w) A (Builtin.«hasattr» ⟨[.ref a, .str "__iter__" tk], []⟩) Q E ⟨h, g, d, t, os⟩ := by
  have hT : (⟨h, g, d, t, os⟩ : Shared).TypeIs (.ref a) "list" := ⟨_, hx, hc⟩
  have f1 := list_no_module
  have f2 := PySem.F.slot_list_getattribute.lookup
  have f3 := PySem.F.slot_list_iter.lookup
  have f4 : withoutEnding? "list.__iter__" "#data" = none := by decide +kernel
  have f5 := PySem.F.slot_list_getattribute.bind (.ref a)
  repeat (any_goals (first | assumption | wp_step))
  refine iter_call_list hx hc hd hs fun v h' t' hk => ?_
  repeat (any_goals (first | assumption | wp_step))
  all_goals exact hq _ _ hk

theorem hasattr_list {tk : Tok} {Q : Value → Shared → Prop} (hx : h.get? a = some o) (hc : o.cls = .type "list") (hd : o.dict = none) (hs : ∃ vs n, o.data = .seq vs n) (hq : ∀ h' t', (∀ b o', h.get? b = some o' → h'.get? b = some o') → Q (.bool true) ⟨h', g, d, t', os⟩) :
    wpAny (model prog w) A (call (.builtin "hasattr") [.ref a, .str "__iter__" tk]) Q E ⟨h, g, d, t, os⟩ := by
  refine call_function_any (by decide +kernel) (by decide +kernel) entry_hasattr (args_hasattr _ _) ?_
  exact ha_entry_list hx hc hd hs fun h' t' hk => hq h' t' hk
end
theorem typeOf_tuple_iter : typeOf (.builtin "tuple.__iter__") = pure (.type "wrapper_descriptor") := by kernel_rfl
theorem owner_tuple_iter : (".".intercalate ("tuple.__iter__".cutAt '.').dropLast) = "tuple" := by
  have e0 : "tuple.__iter__".cutAt '.' = ["tuple", "__iter__"] := by first | rfl | decide +kernel
  rw [e0]; decide +kernel
theorem sub_tuple_iter_owner : isSubtype (.type "tuple") (.type (".".intercalate ("tuple.__iter__".cutAt '.').dropLast)) = pure true := by
  rw [owner_tuple_iter, isSubtype_type]; kernel_rfl
theorem tuple_no_module : isSubtype (.type "tuple") (.type "module") = pure false := by rw [isSubtype_type]; kernel_rfl
theorem tuple_no_strtype : isSubtype (.type "tuple") (.type "str") = pure false := by rw [isSubtype_type]; kernel_rfl

section
variable {prog : Program} {w : World} {A : Around} {E : Value → Shared → Prop} {h : Heap} {g : Array GenState} {d : Drawn} {t : Nat} {os : OsState} {a : Addr} {o : Obj}
theorem iter_get_tuple {R : Result → Shared → Prop} (hx : h.get? a = some o) (hc : o.cls = .type "tuple") (hq : ∀ v h' t', (∀ b o', h.get? b = some o' → h'.get? b = some o') → R (.ok (.ret (.ref v))) ⟨h', g, d, t', os⟩) :
    codeAny (model prog w) A (.call (.builtin "wrapper_descriptor.__get__") ⟨[.builtin "tuple.__iter__", .ref a, .type "tuple"], []⟩) R ⟨h, g, d, t, os⟩ := by
  have hT : (⟨h, g, d, t, os⟩ : Shared).TypeIs (.ref a) "tuple" := ⟨_, hx, hc⟩
  have hT5 : (⟨h, g, d, t, os⟩ : Shared).TypeIs (.builtin "tuple.__iter__") "wrapper_descriptor" := typeOf_tuple_iter
  have f8 := sub_tuple_iter_owner
  refine codeAny_call_builtin slot_wd_get.plain entry_wd_get (slot_wd_get.check _ _ _ _ _ _ _ _ hT5 (args_wd_get _ _ _) ?_)
  repeat (any_goals (first | assumption | wp_step))
  all_goals exact hq _ _ _ fun _ _ e => Heap.get?_push_of_some _ e

theorem iter_entry_tuple {tk : Tok} {Q : Fin → Shared → Prop} (hx : h.get? a = some o) (hc : o.cls = .type "tuple") (hd : o.dict = none) (hs : ∃ vs n, o.data = .seq vs n) (hq : ∀ v h' t', (∀ b o', h.get? b = some o' → h'.get? b = some o') → Q (.done (.ret (.ref v))) ⟨h', g, d, t', os⟩) :
    wpAny (model prog w) A (Builtin.«object.__getattribute__» ⟨[.ref a, .str "__iter__" tk], []⟩) Q E ⟨h, g, d, t, os⟩ := by
  have hT : (⟨h, g, d, t, os⟩ : Shared).TypeIs (.ref a) "tuple" := ⟨_, hx, hc⟩
  have hT5 : (⟨h, g, d, t, os⟩ : Shared).TypeIs (.builtin "tuple.__iter__") "wrapper_descriptor" := typeOf_tuple_iter
  have f4 := PySem.F.slot_tuple_iter.lookup
  have f5 := typeOf_tuple_iter
  have f6 := slot_wd_get.lookup
  have f7 := no_wd_set
  have f8 := no_wd_delete
  obtain ⟨vs, n, hs⟩ := hs
  obtain ⟨cl, di, da, sl⟩ := o
  dsimp only at hc hd hs
  subst hc hd hs
  repeat (any_goals (first | assumption | wp_step))
  refine iter_get_tuple hx rfl fun v h' t' hk => ?_
  repeat (any_goals (first | assumption | wp_step))
  all_goals exact hq _ _ _ hk

theorem iter_call_tuple {tk : Tok} {R : Result → Shared → Prop} (hx : h.get? a = some o) (hc : o.cls = .type "tuple") (hd : o.dict = none) (hs : ∃ vs n, o.data = .seq vs n) (hq : ∀ v h' t', (∀ b o', h.get? b = some o' → h'.get? b = some o') → R (.ok (.ret (.ref v))) ⟨h', g, d, t', os⟩) :
    codeAny (model prog w) A (.call (.builtin "tuple.__getattribute__") ⟨[.ref a, .str "__iter__" tk], []⟩) R ⟨h, g, d, t, os⟩ :=
  codeAny_call_builtin PySem.F.slot_tuple_getattribute.plain PySem.F.entry_tuple_ga (PySem.F.slot_tuple_getattribute.check _ _ _ _ _ _ _ _ (show (⟨h, g, d, t, os⟩ : Shared).TypeIs (.ref a) "tuple" from ⟨_, hx, hc⟩) (PySem.F.args_tuple_getattribute_2 _ _) (iter_entry_tuple hx hc hd hs fun v h' t' hk => hq v h' t' hk))

theorem iter_by_tuple {tk : Tok} {Q : Value → Shared → Prop} (hx : h.get? a = some o) (hc : o.cls = .type "tuple") (hd : o.dict = none) (hs : ∃ vs n, o.data = .seq vs n) (hq : ∀ v h' t', (∀ b o', h.get? b = some o' → h'.get? b = some o') → Q (.ref v) ⟨h', g, d, t', os⟩) : wpAny (model prog w) A (getAttrBy (.ref a) (.str "__iter__" tk) false) Q E ⟨h, g, d, t, os⟩ := by
  have hT : (⟨h, g, d, t, os⟩ : Shared).TypeIs (.ref a) "tuple" := ⟨_, hx, hc⟩
  have f2 := PySem.F.slot_tuple_getattribute.lookup
  have f3 := PySem.F.slot_tuple_getattribute.bind (.ref a)
  repeat (any_goals (first | assumption | wp_step))
  refine iter_call_tuple hx hc hd hs fun v h' t' hk => ?_
  repeat (any_goals (first | assumption | wp_step))
  all_goals exact hq _ _ _ hk

theorem ha_entry_tuple {tk : Tok} {Q : Fin → Shared → Prop} (hx : h.get? a = some o) (hc : o.cls = .type "tuple") (hd : o.dict = none) (hs : ∃ vs n, o.data = .seq vs n) (hq : ∀ h' t', (∀ b o', h.get? b = some o' → h'.get? b = some o') → Q (.done (.ret (.bool true))) ⟨h', g, d, t', os⟩) :
    wpAny (model prog w) A (Builtin.«hasattr» ⟨[.ref a, .str "__iter__" tk], []⟩) Q E ⟨h, g, d, t, os⟩ := by
  have hT : (⟨h, g, d, t, os⟩ : Shared).TypeIs (.ref a) "tuple" := ⟨_, hx, hc⟩
  have f1 := tuple_no_module
  have f2 := PySem.F.slot_tuple_getattribute.lookup
  have f3 := PySem.F.slot_tuple_iter.lookup
  have f4 : withoutEnding? "tuple.__iter__" "#data" = none := by decide +kernel
  have f5 := PySem.F.slot_tuple_getattribute.bind (.ref a)
  repeat (any_goals (first | assumption | wp_step))
  refine iter_call_tuple hx hc hd hs fun v h' t' hk => ?_
  repeat (any_goals (first | assumption | wp_step))
  all_goals exact hq _ _ hk

theorem hasattr_tuple {tk : Tok} {Q : Value → Shared → Prop} (hx : h.get? a = some o) (hc : o.cls = .type "tuple") (hd : o.dict = none) (hs : ∃ vs n, o.data = .seq vs n) (hq : ∀ h' t', (∀ b o', h.get? b = some o' → h'.get? b = some o') → Q (.bool true) ⟨h', g, d, t', os⟩) :
    wpAny (model prog w) A (call (.builtin "hasattr") [.ref a, .str "__iter__" tk]) Q E ⟨h, g, d, t, os⟩ := by
  refine call_function_any (by decide +kernel) (by decide +kernel) entry_hasattr (args_hasattr _ _) ?_
  exact ha_entry_tuple hx hc hd hs fun h' t' hk => hq h' t' hk
end
end Mine
end

-- part Flat1
section
open PySem PySem.W PyProof.Rows
namespace Mine
set_option maxRecDepth 100000
set_option maxHeartbeats 8000000

/-- a list (true) or a tuple -/
def Sq (h : Heap) (a : Addr) (vs : Array Value) : Bool → Prop
  | true => ∃ n, h.get? a = some (listOf vs n)
  | false => ∃ n, h.get? a = some ({ cls := .type "tuple", data := .seq vs n } : Obj)
theorem Sq.list {h : Heap} {a : Addr} {vs : Array Value} (x : Sq h a vs true) : h.IsList a vs := let ⟨n, e⟩ := x; ⟨_, e, rfl, n, rfl⟩
theorem Sq.tup {h : Heap} {a : Addr} {vs : Array Value} (x : Sq h a vs false) : h.IsTuple a vs := let ⟨n, e⟩ := x; ⟨_, e, rfl, n, rfl⟩
def SqIt (h : Heap) (I a : Addr) (i : Nat) : Bool → Prop
  | true => h.IsListIter I a i
  | false => h.IsTupleIter I a i
theorem Sq.keeps {h h' : Heap} {a : Addr} {vs : Array Value} {b : Bool} (x : Sq h a vs b) (k : ∀ o, h.get? a = some o → h'.get? a = some o) : Sq h' a vs b := by
  cases b <;> exact let ⟨n, ho⟩ := x; ⟨n, k _ ho⟩
theorem SqIt.keeps {h h' : Heap} {I a : Addr} {i : Nat} {b : Bool} (x : SqIt h I a i b) (k : ∀ o, h.get? I = some o → h'.get? I = some o) : SqIt h' I a i b := by
  cases b <;> exact let ⟨o, ho, r⟩ := x; ⟨o, k _ ho, r⟩
theorem SqIt.lt {h : Heap} {I a : Addr} {i : Nat} {b : Bool} (x : SqIt h I a i b) : I < h.objs.size := by
  cases b <;> exact let ⟨o, ho, r⟩ := x; Heap.lt_size ho
section
variable {prog : Program} {w : World} {A : Around} {E : Value → Shared → Prop} {s : Shared}
theorem sq_iter {a : Addr} {vs : Array Value} {b : Bool} {Q : Value → Shared → Prop} (hq : Sq s.heap a vs b)
    (h : ∀ h', (∀ c o, s.heap.get? c = some o → h'.get? c = some o) → SqIt h' s.heap.objs.size a 0 b → Q (.ref s.heap.objs.size) { s with heap := h' }) : wpAny (model prog w) A (pyIter (.ref a)) Q E s := by
  cases b with
  | true => exact wpAny_pyIter_list hq.list (h _ (fun _ _ e => Heap.get?_push_of_some _ e) ⟨_, Heap.get?_push_size _ rfl, rfl, rfl⟩)
  | false => exact wpAny_pyIter_tuple hq.tup (h _ (fun _ _ e => Heap.get?_push_of_some _ e) ⟨_, Heap.get?_push_size _ rfl, rfl, rfl⟩)
theorem sq_item {I a : Addr} {vs : Array Value} {i : Nat} {b : Bool} {x : Value} {Q : Option Value → Shared → Prop} (hit : SqIt s.heap I a i b) (hq : Sq s.heap a vs b) (hx : vs[i]? = some x)
    (h : ∀ h', SqIt h' I a (i + 1) b → (∀ c o, c ≠ I → s.heap.get? c = some o → h'.get? c = some o) → Q (some x) { s with heap := h' }) : wpAny (model prog w) A (pyNext (.ref I)) Q E s := by
  cases b with
  | true => exact wpAny_pyNext_list_item hit hq.list hx fun h' hi hs => h h' hi fun c o hc e => hs.extBut c o hc e
  | false => exact wpAny_pyNext_tuple_item hit hq.tup hx fun h' hi hs => h h' hi fun c o hc e => hs.extBut c o hc e
theorem sq_end {I a : Addr} {vs : Array Value} {i : Nat} {b : Bool} {Q : Option Value → Shared → Prop} (hh : A.handled = none) (hit : SqIt s.heap I a i b) (hq : Sq s.heap a vs b) (hx : vs[i]? = none)
    (h : ∀ h', (∀ c o, c ≠ I → s.heap.get? c = some o → h'.get? c = some o) → Q none { s with heap := h' }) : wpAny (model prog w) A (pyNext (.ref I)) Q E s := by
  cases b with
  | true => exact wpAny_pyNext_list_end hh hit hq.list hx fun h' hs => h h' fun c o hc e => hs c o hc e
  | false => exact wpAny_pyNext_tuple_end hh hit hq.tup hx fun h' hs => h h' fun c o hc e => hs c o hc e
end

mutual
/-- a tree in the heap, with its texts in order; n bounds the depth -/
inductive FlatV (h : Heap) : Value → List Str → Nat → Prop
  | str (x : Str) (t : Tok) (n : Nat) : FlatV h (.str x t) [x] n
  | seq {a : Addr} {vs : List Value} {xs : List Str} {n : Nat} (b : Bool) : Sq h a vs.toArray b → FlatVs h vs xs n → FlatV h (.ref a) xs (n + 1)
inductive FlatVs (h : Heap) : List Value → List Str → Nat → Prop
  | nil (n : Nat) : FlatVs h [] [] n
  | cons {v : Value} {vs : List Value} {xs ys : List Str} {n : Nat} : FlatV h v xs n → FlatVs h vs ys n → FlatVs h (v :: vs) (xs ++ ys) n
end
theorem flatVs_strs (h : Heap) {led : List (Addr × Obj)} : ∀ (ps : List (List Nat)) (vs : List Value) (n : Nat), DatAll led vs (ps.map dstr) → FlatVs h vs (ps.map tx) n
  | [], _, n, hd => by cases hd; exact .nil n
  | p :: r, _, n, hd => by
    cases hd with
    | cons h1 h2 =>
      cases h1
      exact .cons (xs := [tx p]) (.str _ _ n) (flatVs_strs h r _ n h2)
mutual
theorem flatV_of {h : Heap} {led : List (Addr × Obj)} (hl : ∀ p ∈ led, h.get? p.1 = some p.2) : ∀ (t : Nd) (v : Value) (n : Nat), t.depth + 1 ≤ n → DatIn led v t.dat → FlatV h v t.flat n
  | .bra ks, v, n, hn, hd => by
    cases hd with
    | list hm ha =>
      have hn' : Nd.depths ks + 1 + 1 ≤ n := hn
      obtain ⟨n', rfl⟩ : ∃ n', n = n' + 1 := ⟨n - 1, by omega⟩
      exact .seq true ⟨_, hl _ hm⟩ (flatVs_of hl ks _ n' (by omega) ha)
  | .nam ps, v, n, hn, hd => by
    have hn' : 1 ≤ n := hn
    obtain ⟨n', rfl⟩ : ∃ n', n = n' + 1 := ⟨n - 1, by omega⟩
    cases hd with
    | tuple hm ha =>
      refine .seq false ⟨_, hl _ hm⟩ ?_
      cases ha with
      | cons h1 h2 =>
        cases h1
        exact .cons (xs := [Str.ofString "n"]) (.str _ _ _) (flatVs_strs h ps _ _ h2)
  | .lit p, v, n, hn, hd => by
    have hn' : 1 ≤ n := hn
    obtain ⟨n', rfl⟩ : ∃ n', n = n' + 1 := ⟨n - 1, by omega⟩
    cases hd with
    | tuple hm ha =>
      refine .seq false ⟨_, hl _ hm⟩ ?_
      cases ha with
      | cons h1 h2 =>
        cases h1
        exact .cons (xs := [Str.ofString "t"]) (.str _ _ _) (flatVs_strs h [p] _ _ h2)
theorem flatVs_of {h : Heap} {led : List (Addr × Obj)} (hl : ∀ p ∈ led, h.get? p.1 = some p.2) : ∀ (ks : List Nd) (vs : List Value) (n : Nat), Nd.depths ks + 1 ≤ n → DatAll led vs (Nd.dats ks) → FlatVs h vs (Nd.flats ks) n
  | [], _, n, _, hd => by cases hd; exact .nil n
  | k :: r, _, n, hn, hd => by
    have hn' : max k.depth (Nd.depths r) + 1 ≤ n := hn
    cases hd with
    | cons h1 h2 => exact .cons (flatV_of hl k _ n (by omega) h1) (flatVs_of hl r _ n (by omega) h2)
end
end Mine
end

-- part Flat2
section
open PySem PySem.W PyProof.Rows
namespace Mine
set_option maxRecDepth 100000
set_option maxHeartbeats 8000000

local macro_rules | `(tactic| walk_at "call builtin:isinstance") => `(tactic| refine stop_ ?_)
local macro_rules | `(tactic| walk_at "call builtin:hasattr") => `(tactic| refine stop_ ?_)
local macro_rules | `(tactic| walk_at "call ref") => `(tactic| refine stop_ ?_)
section
variable {prog : Program} {w : World} {A : Around} {E : Value → Shared → Prop} {s : Shared}
theorem typeOf_str_type : typeOf (.type "str") = pure (.type "type") := by first | rfl | kernel_rfl
theorem sq_notstr {a : Addr} {vs : Array Value} {b : Bool} {Q : Value → Shared → Prop} (hq : Sq s.heap a vs b) (h : Q (.bool false) { s with toks := s.toks + 1 }) : wpAny (model prog w) A (call (.builtin "isinstance") [.ref a, .type "str"]) Q E s := by
  obtain ⟨hp, g, d, t, os⟩ := s
  refine call_isinstance_of ?_
  cases b with
  | true =>
    obtain ⟨n, hq⟩ := hq
    exact isinstance_nested_false_list hq rfl (by decide) typeOf_str_type list_no_strtype h
  | false =>
    obtain ⟨n, hq⟩ := hq
    exact isinstance_nested_false_tuple hq rfl (by decide) typeOf_str_type tuple_no_strtype h
theorem sq_hasiter {a : Addr} {tk : Tok} {vs : Array Value} {b : Bool} {Q : Value → Shared → Prop} (hq : Sq s.heap a vs b) (h : ∀ h' t', (∀ c o', s.heap.get? c = some o' → h'.get? c = some o') → Q (.bool true) { s with heap := h', toks := t' }) :
    wpAny (model prog w) A (call (.builtin "hasattr") [.ref a, .str (Str.ofString "__iter__") tk]) Q E s := by
  obtain ⟨hp, g, d, t, os⟩ := s
  cases b with
  | true =>
    obtain ⟨n, hq⟩ := hq
    exact hasattr_list hq rfl rfl ⟨_, _, rfl⟩ h
  | false =>
    obtain ⟨n, hq⟩ := hq
    exact hasattr_tuple hq rfl rfl ⟨_, _, rfl⟩ h
theorem str_isstr {x : Str} {t : Tok} {Q : Value → Shared → Prop} (h : Q (.bool true) s) : wpAny (model prog w) A (call (.builtin "isinstance") [.str x t, .type "str"]) Q E s :=
  call_isinstance_yes (Tx := "str") rfl typeOf_str_type (by rw [isSubtype_type]; kernel_rfl) h
end

/-- every object of h that is neither in hB nor the frame L -/
def oth (hB : Heap) (L : Addr) (h : Heap) : List (Addr × Obj) :=
  (List.range h.objs.size).filterMap fun a => match h.get? a with
    | some o => if (hB.get? a).isNone && a != L then some (a, o) else none
    | none => none
theorem oth_mem {hB h : Heap} {L a : Addr} {o : Obj} : (a, o) ∈ oth hB L h ↔ h.get? a = some o ∧ hB.get? a = none ∧ a ≠ L := by
  unfold oth
  rw [List.mem_filterMap]
  constructor
  · rintro ⟨b, _, e⟩
    cases e1 : h.get? b with
    | none => rw [e1] at e; cases e
    | some o' =>
      rw [e1] at e
      dsimp only at e
      split at e
      · rename_i hc
        cases e
        simp only [Bool.and_eq_true, Option.isNone_iff_eq_none, bne_iff_ne, ne_eq] at hc
        exact ⟨e1, hc.1, hc.2⟩
      · cases e
  · rintro ⟨h1, h2, h3⟩
    refine ⟨a, List.mem_range.mpr (Heap.lt_size h1), ?_⟩
    rw [h1]
    dsimp only
    rw [if_pos]
    simp only [Bool.and_eq_true, Option.isNone_iff_eq_none, bne_iff_ne, ne_eq]
    exact ⟨h2, h3⟩
theorem oth_news (hB h : Heap) (L : Addr) : News hB L h (oth hB L h) := fun p hp => by
  obtain ⟨h1, h2, h3⟩ := oth_mem.mp hp
  exact ⟨h1, h3, h2⟩
theorem oth_keeps {hB h h' : Heap} {L : Addr} {m m' : Str → Option Value} (F : Fr hB L h m) (F' : Fr hB L h' m') (N : News hB L h' (oth hB L h)) {b : Addr} {o : Obj} (hb : b ≠ L) (e : h.get? b = some o) : h'.get? b = some o := by
  cases e1 : hB.get? b with
  | none => exact N.get (oth_mem.mpr ⟨e, e1, hb⟩)
  | some o' =>
    have := F.keep _ _ e1
    rw [this] at e
    cases e
    exact F'.keep _ _ e1

/-- what a generator's segment keeps of what lies outside -/
structure Po (L S g : Nat) (fin : Bool) (s s' : Shared) : Prop where
  keep : ∀ b o, (b < L ∨ b = L + 1 ∨ b = S) → s.heap.get? b = some o → s'.heap.get? b = some o
  gens : ∀ i, i ≤ g → s'.gens[i]? = s.gens[i]?
  ended : fin = true → ∀ i x, g < i → s'.gens[i]? = some x → x = .finished
  os : s'.os = s.os
/-- what the outside keeps of a sleeping generator -/
structure Sl (hB : Heap) (L S g : Nat) (s s' : Shared) : Prop where
  base : ∀ b o, hB.get? b = some o → s'.heap.get? b = some o
  own : ∀ b o, L ≤ b → b ≠ L + 1 → b ≠ S → s.heap.get? b = some o → s'.heap.get? b = some o
  gens : ∀ i, g ≤ i → s'.gens[i]? = s.gens[i]?
  gsize : s'.gens.size = s.gens.size


theorem setGen_other {s : Shared} {g i : Nat} {x : GenState} (h : i ≠ g) : (s.setGen g x).gens[i]? = s.gens[i]? := by
  show (s.gens.setIfInBounds g x)[i]? = _
  rw [Array.getElem?_setIfInBounds_ne (Ne.symm h)]
theorem setGen_same {s : Shared} {g : Nat} {x : GenState} (h : g < s.gens.size) : (s.setGen g x).gens[g]? = some x := by
  show (s.gens.setIfInBounds g x)[g]? = _
  rw [Array.getElem?_setIfInBounds_self_of_lt h]
theorem setGen_size {s : Shared} {g : Nat} {x : GenState} : (s.setGen g x).gens.size = s.gens.size := by
  show (s.gens.setIfInBounds g x).size = _
  rw [Array.size_setIfInBounds]

/-- a generator of flatten between two turns of its loop -/
structure LSt (hB : Heap) (L S g I : Nat) (ax : Addr) (b : Bool) (j : Nat) (s0 s : Shared) : Prop where
  fr : ∃ m, Fr hB L s.heap m
  it : SqIt s.heap I ax j b
  lo : L + 1 < I
  ne : I ≠ S
  nS : S ≠ L
  po : Po L S g true s0 s
  gs : g < s.gens.size

theorem Po.refl {L S g : Nat} {s : Shared} (h : g + 1 = s.gens.size) : Po L S g true s s :=
  ⟨fun _ _ _ e => e, fun _ _ => rfl, fun _ i x hi e => (by rw [Array.getElem?_eq_none (by omega)] at e; cases e), rfl⟩
theorem Po.self {L S g : Nat} {s : Shared} (h : ∀ i x, g < i → s.gens[i]? = some x → x = .finished) : Po L S g true s s :=
  ⟨fun _ _ _ e => e, fun _ _ => rfl, fun _ => h, rfl⟩
theorem Po.after {L S g : Nat} {f : Bool} {s s' s'' : Shared} (p : Po L S g f s s') (hk : ∀ b o, b < L ∨ b = L + 1 ∨ b = S → s'.heap.get? b = some o → s''.heap.get? b = some o)
    (hg : s''.gens = s'.gens) (ho : s''.os = s'.os) : Po L S g f s s'' :=
  ⟨fun b o hb e => hk b o hb (p.keep b o hb e), fun i hi => by rw [hg]; exact p.gens i hi, fun hf i x hi e => p.ended hf i x hi (hg ▸ e), ho.trans p.os⟩
theorem Po.weak {L S g : Nat} {s s' : Shared} (p : Po L S g true s s') : Po L S g false s s' := ⟨p.keep, p.gens, fun h => (by cases h), p.os⟩

theorem st2 {M : Model} {A : Around} {E : Value → Shared → Prop} {s : Shared} {name : Str} {scope : Scope} {L a : Addr} {cd : Value} {h₀ : Heap} {m : Str → Option Value} {x : Str} {v : Value} {Q : Unit → Shared → Prop} (F : Fr h₀ L s.heap m)
    (h : ∀ h', Fr h₀ L h' (fun y => if y = x then some v else m y) → (∀ b o, b ≠ L → s.heap.get? b = some o → h'.get? b = some o) → Q () { s with heap := h', toks := s.toks + 1 })
    (hk : scope.kind = .function := by rfl) (hl : (envOf name scope L a cd).kindOf x = some .local := by rfl) :
    wpAny M A (storeName (envOf name scope L a cd) x v) Q E s :=
  wpAny_storeName_local hl F.ns (fun h' hn hs => h h' (F.set hn hs) fun b o hb e => (hs.2 b hb).trans e)
    (by show (scope.kind == .class || (scope.kind == .module && L != mainGlobals)) = false; rw [hk]; rfl)

theorem fr_keepsBut {hB h h' : Heap} {L I : Addr} {m : Str → Option Value} (F : Fr hB L h m) (hk : ∀ c o, c ≠ I → h.get? c = some o → h'.get? c = some o) (hLI : @LT.lt Nat _ L I) : Fr hB L h' m := by
  obtain ⟨o, es, ep, e, r⟩ := F.ns
  refine ⟨⟨o, es, ep, hk _ _ (Nat.ne_of_lt hLI) e, r⟩, fun b o e => hk b o (fun e9 => ?_) (F.keep b o e), F.above⟩
  have h1 : @LT.lt Nat _ b hB.objs.size := Heap.lt_size e
  have h2 : @LE.le Nat _ hB.objs.size L := F.above
  have e9' : @Eq Nat b I := e9
  omega

theorem st_after {hB h3 : Heap} {L S g I : Nat} {ax : Addr} {b : Bool} {j : Nat} {m : Str → Option Value} {s1 s4 : Shared} (F : Fr hB L h3 m) {tk : Nat} (hS : Sl hB L S g { s1 with heap := h3, toks := tk } s4) (hI : SqIt h3 I ax j b) (hlo : L + 1 < I) (hne : I ≠ S) (hSL : S ≠ L)
    (hend : true = true → ∀ i x, g < i → s1.gens[i]? = some x → x = .finished) (hg : g < s1.gens.size) : LSt hB L S g I ax b j s4 s4 := by
  obtain ⟨o, es, ep, e, r⟩ := F.ns
  refine ⟨⟨m, ⟨⟨o, es, ep, hS.own L o (Nat.le_refl _) (by omega) (Ne.symm hSL) e, r⟩, hS.base, F.above⟩⟩, hI.keeps fun o e => hS.own I o (by omega) (by omega) hne e, hlo, hne, hSL, Po.self fun i x hi e => ?_, ?_⟩
  · rw [hS.gens i (by omega)] at e
    exact hend rfl i x hi e
  · rw [hS.gsize]; exact hg

/-- a generator of flatten while the generator of one of its items sleeps -/
structure Slp (hB : Heap) (L S g I : Nat) (ax : Addr) (b : Bool) (j L' g' : Nat) (GO : List Str → GenState → Shared → Prop) (ys : List Str) (s0 s : Shared) : Prop where
  fr : ∃ m, Fr hB L s.heap m
  it : SqIt s.heap I ax j b
  po : Po L S g false s0 s
  mid : ∀ i x, g < i → i < g' → s.gens[i]? = some x → x = .finished
  gl : g < g'
  gs : g' < s.gens.size
  gen : IsGen2 s.heap (L' + 1) g'
  goes : ∃ gs, s.gens[g']? = some gs ∧ GO ys gs (s.setGen g' .running)
  lo : L + 1 < I
  hi : I < L'
  ne : I ≠ S
  nS : S ≠ L
  sl : S < L'

theorem fr_obj {hB h h' : Heap} {L : Addr} {m : Str → Option Value} (F : Fr hB L h m) (hl : ∀ o, h.get? L = some o → h'.get? L = some o) (hb : ∀ b o, hB.get? b = some o → h'.get? b = some o) : Fr hB L h' m := by
  obtain ⟨o, es, ep, e, r⟩ := F.ns
  exact ⟨⟨o, es, ep, hl o e, r⟩, hb, F.above⟩
theorem low_of {hB h : Heap} {L b : Nat} {m : Str → Option Value} {o : Obj} (F : Fr hB L h m) (e : hB.get? b = some o) : b < L :=
  Nat.lt_of_lt_of_le (Heap.lt_size e) F.above

theorem slp_fin {hB : Heap} {L S g I : Nat} {ax : Addr} {b : Bool} {j L' g' : Nat} {GO : List Str → GenState → Shared → Prop} {ys : List Str} {s0 s s' : Shared} {h' : Heap} (p : Slp hB L S g I ax b j L' g' GO ys s0 s)
    (q : Po L' S g' true (s.setGen g' .running) s') (hk : ∀ b o, s'.heap.get? b = some o → h'.get? b = some o) : LSt hB L S g I ax b j s0 { s'.setGen g' .finished with heap := h' } := by
  obtain ⟨m, F⟩ := p.fr
  have hlo := p.lo
  have hhi := p.hi
  have hsl := p.sl
  have hgl := p.gl
  have up : ∀ (c : Nat) o, c < L' → s.heap.get? c = some o → h'.get? c = some o := fun c o hc e => hk c o (q.keep c o (.inl hc) e)
  have hg' : s'.gens[g']? = some .running := (q.gens g' (Nat.le_refl _)).trans (setGen_same p.gs)
  have hgs : g' < s'.gens.size := by
    rcases Nat.lt_or_ge g' s'.gens.size with h | h
    · exact h
    · rw [Array.getElem?_eq_none h] at hg'; cases hg'
  refine ⟨⟨m, fr_obj F (fun o e => up L o (by omega) e) fun b o e => up b o (by have := low_of F e; omega) (F.keep b o e)⟩, p.it.keeps fun o e => up I o hhi e, hlo, p.ne, p.nS, ⟨fun c o hc e => ?_, fun i hi => ?_, fun _ i x hi e => ?_, ?_⟩, ?_⟩
  · have h1 : @LT.lt Nat _ c L' := by rcases hc with h | h | h <;> omega
    exact up c o h1 (p.po.keep c o hc e)
  · show (s'.setGen g' .finished).gens[i]? = _
    rw [setGen_other (by omega), q.gens i (by omega), setGen_other (by omega)]
    exact p.po.gens i hi
  · have e : (s'.setGen g' .finished).gens[i]? = some x := e
    rcases Nat.lt_trichotomy i g' with h | h | h
    · rw [setGen_other (by omega), q.gens i (by omega), setGen_other (by omega)] at e
      exact p.mid i x hi h e
    · subst h
      rw [setGen_same hgs] at e
      exact (Option.some.inj e).symm
    · rw [setGen_other (by omega)] at e
      exact q.ended rfl i x h e
  · exact q.os.trans p.po.os
  · show g < (s'.setGen g' .finished).gens.size
    rw [setGen_size]
    omega
theorem slp_post {hB : Heap} {L S g I : Nat} {ax : Addr} {b : Bool} {j L' g' : Nat} {GO : List Str → GenState → Shared → Prop} {ys : List Str} {s0 s s' : Shared} {h' : Heap} {gs' : GenState} (p : Slp hB L S g I ax b j L' g' GO ys s0 s)
    (q : Po L' S g' false (s.setGen g' .running) s') (hk : Heap.SameBut (L' + 1) s'.heap h') : Po L S g false s0 { s'.setGen g' gs' with heap := h' } := by
  have hlo := p.lo
  have hhi := p.hi
  have hsl := p.sl
  have hgl := p.gl
  refine ⟨fun c o hc e => ?_, fun i hi => ?_, (fun h => by cases h), ?_⟩
  · have h1 : @LT.lt Nat _ c L' := by rcases hc with h | h | h <;> omega
    have h2 : @Ne Nat c (L' + 1) := by omega
    exact (hk.2 c h2).trans (q.keep c o (.inl h1) (p.po.keep c o hc e))
  · show (s'.setGen g' gs').gens[i]? = _
    rw [setGen_other (by omega), q.gens i (by omega), setGen_other (by omega)]
    exact p.po.gens i hi
  · exact q.os.trans p.po.os
theorem slp_gen {hB : Heap} {L S g I : Nat} {ax : Addr} {b : Bool} {j L' g' : Nat} {GO : List Str → GenState → Shared → Prop} {ys : List Str} {f : Bool} {s0 s s' : Shared} (p : Slp hB L S g I ax b j L' g' GO ys s0 s)
    (q : Po L' S g' f (s.setGen g' .running) s') : IsGen2 s'.heap (L' + 1) g' := by
  obtain ⟨o, nm, qn, e, r⟩ := p.gen
  exact ⟨o, nm, qn, q.keep _ o (.inr (.inl rfl)) e, r⟩
theorem slp_next {hB : Heap} {L S g I : Nat} {ax : Addr} {b : Bool} {j L' g' : Nat} {GO : List Str → GenState → Shared → Prop} {ys r : List Str} {s0 s s' s3 : Shared} {h' h4 : Heap} {gs' : GenState} {o : Obj} (p : Slp hB L S g I ax b j L' g' GO ys s0 s)
    (q : Po L' S g' false (s.setGen g' .running) s') (ho : s'.heap.get? (L' + 1) = some o) (hk : Heap.SameBut (L' + 1) s'.heap h') (hS : Sl hB L S g { s'.setGen g' gs' with heap := h' } s3)
    (hG : ∀ s'', Sl hB L' S g' s' s'' → GO r gs' s'') (hk4 : Heap.SameBut (L' + 1) s3.heap h4) (h4o : h4.get? (L' + 1) = some { o with slots := #[some (.int 0 0)] }) :
    Slp hB L S g I ax b j L' g' GO r s3 { s3 with heap := h4 } := by
  obtain ⟨m, F⟩ := p.fr
  have hlo := p.lo
  have hhi := p.hi
  have hsl := p.sl
  have hgl := p.gl
  have hnS := p.nS
  have hne := p.ne
  have hg' : s'.gens[g']? = some .running := (q.gens g' (Nat.le_refl _)).trans (setGen_same p.gs)
  have hgs : g' < s'.gens.size := by
    rcases Nat.lt_or_ge g' s'.gens.size with h | h
    · exact h
    · rw [Array.getElem?_eq_none h] at hg'; cases hg'
  have up : ∀ (c : Nat) o, L ≤ c → c ≠ L + 1 → c ≠ S → c ≠ L' + 1 → s'.heap.get? c = some o → h4.get? c = some o := fun c o h1 h2 h3 h4 e =>
    (hk4.2 c h4).trans (hS.own c o h1 h2 h3 ((hk.2 c h4).trans e))
  have base : ∀ (c : Nat) o, hB.get? c = some o → h4.get? c = some o := fun c o e => (hk4.2 c (show @Ne Nat c (L' + 1) by have := low_of F e; omega)).trans (hS.base c o e)
  have g3 : ∀ i, g ≤ i → i ≠ g' → s3.gens[i]? = s'.gens[i]? := fun i hi hn => (hS.gens i hi).trans (setGen_other hn)
  have g3s : s3.gens.size = s'.gens.size := hS.gsize.trans setGen_size
  refine ⟨⟨m, fr_obj F (fun o e => up L o (Nat.le_refl _) (by omega) (Ne.symm hnS) (by omega) (q.keep L o (.inl (by omega)) e)) base⟩, p.it.keeps fun o e => up I o (by omega) (by omega) hne (by omega) (q.keep I o (.inl hhi) e), ⟨fun c o hc e => ?_, fun _ _ => rfl, (fun h => by cases h), rfl⟩, fun i x h1 h2 e => ?_, hgl, ?_, ?_, ⟨gs', ?_, hG _ ⟨base, fun c o h1 h2 h3 e => up c o (by omega) (by omega) h3 h2 e, fun i hi => ?_, ?_⟩⟩, hlo, hhi, hne, hnS, hsl⟩
  · have h2 : @Ne Nat c (L' + 1) := by rcases hc with h | h | h <;> omega
    exact (hk4.2 c h2).trans e
  · have e : s3.gens[i]? = some x := e
    rw [g3 i (by omega) (by omega), q.gens i (by omega), setGen_other (by omega)] at e
    exact p.mid i x h1 h2 e
  · show g' < s3.gens.size
    omega
  · obtain ⟨o', nm, qn, e, hc, hd, _⟩ := slp_gen p q
    obtain rfl := Option.some.inj (e.symm.trans ho)
    exact ⟨_, nm, qn, h4o, hc, hd, .inr rfl⟩
  · show s3.gens[g']? = some gs'
    exact (hS.gens g' (by omega)).trans (setGen_same hgs)
  · show (Shared.setGen { s3 with heap := h4 } g' .running).gens[i]? = _
    by_cases h : i = g'
    · subst h
      rw [setGen_same (by show i < s3.gens.size; omega)]
      exact hg'.symm
    · rw [setGen_other h]
      exact g3 i (by omega) h
  · show (Shared.setGen { s3 with heap := h4 } g' .running).gens.size = _
    rw [setGen_size]
    exact g3s

theorem g_yieldFrom2 {prog : Program} {w : World} {R : Result → Shared → Prop} {A : Around} {Post Post' : Bool → Shared → Shared → Prop} {Env Env' : Shared → Shared → Prop} {zs : List Str} {fs : List Frame} {a g : Nat}
    (SlpG : (List Str → GenState → Shared → Prop) → List Str → Shared → Shared → Prop)
    (hh : (A.over (yfCode a) fs).handled = none) (hroom : (A.over (yfCode a) fs).in1.depth < recursionLimit) (hfs : splitAtGen fs = none) (hgd : fs.any Frame.guarded = false)
    (h : ∀ Slp, Slp = SlpG (fun ys gs s => GoesG (model prog w) R (A.over (yfCode a) fs).in1 Post' Env' ys gs s) →
    (∀ ys s₀ s, Slp ys s₀ s → Inner prog w R (A.over (yfCode a) fs).in1 Post' Env' a g ys s) ∧
    (∀ s₀ s, Slp [] s₀ s → ∀ s', Post' true (s.setGen g .running) s' → ∀ h' e, (∀ b o, s'.heap.get? b = some o → h'.get? b = some o) → StopAt h' e →
      ∀ c', GRun (model prog w) R A Post Env zs s₀ { s'.setGen g .finished with heap := h' } c' (leafOf (.ok (.ret .none))) fs) ∧
    (∀ x r s₀ s, Slp (x :: r) s₀ s → ∀ s' gs', Post' false (s.setGen g .running) s' → (∀ s'', Env' s' s'' → GoesG (model prog w) R (A.over (yfCode a) fs).in1 Post' Env' r gs' s'') → IsGen2 s'.heap a g ∧
      ∀ o h', s'.heap.get? a = some o → Heap.SameBut a s'.heap h' → h'.get? a = some { o with slots := #[some (.int 1 0)] } → Post false s₀ { s'.setGen g gs' with heap := h' } ∧
        ∀ s3, Env { s'.setGen g gs' with heap := h' } s3 → s3.heap.get? a = some { o with slots := #[some (.int 1 0)] } ∧ ∀ h4, Heap.SameBut a s3.heap h4 → h4.get? a = some { o with slots := #[some (.int 0 0)] } → Slp r s3 { s3 with heap := h4 }))
    (ys : List Str) (s₀ s : Shared) (start : SlpG (fun ys gs s => GoesG (model prog w) R (A.over (yfCode a) fs).in1 Post' Env' ys gs s) ys s₀ s) :
    GRun (model prog w) R A Post Env (ys ++ zs) s₀ s (yfCode a) ((model prog w).den (yfCode a)) fs := by
  obtain ⟨h1, h2, h3⟩ := h _ rfl
  exact g_yieldFrom hh hroom hfs hgd _ h1 h2 h3 ys s₀ s start

theorem over_room {A : Around} {c : Code} {fs : List Frame} {k : Nat} (h : A.depth + 8 ≤ k) (hw : Nat.ble (frameCount (fs.map Frame.where_) + c.weight) 7 = true) : (A.over c fs).depth < k := by
  have := Nat.le_of_ble_eq_true hw
  show A.depth + frameCount (fs.map Frame.where_) + c.weight < k
  omega
theorem over_room1 {A : Around} {c : Code} {fs : List Frame} {k : Nat} (h : A.depth + 8 ≤ k) (hw : Nat.ble (frameCount (fs.map Frame.where_) + c.weight) 6 = true) : (A.over c fs).in1.depth ≤ k - 1 := by
  have := Nat.le_of_ble_eq_true hw
  show A.depth + frameCount (fs.map Frame.where_) + c.weight ≤ k - 1
  omega

theorem g_loop {M : Model} {R : Result → Shared → Prop} {A : Around} {Post : Bool → Shared → Shared → Prop} {Slo : Shared → Shared → Prop} {c : Code} {fs : List Frame} (J : List Value → List Str → Shared → Shared → Prop)
    (nil : ∀ xs s₀ s, J [] xs s₀ s → GRun M R A Post Slo xs s₀ s c (M.den c) fs)
    (cons : ∀ v vs xs s₀ s, (∀ xs' s₀' s', J vs xs' s₀' s' → GRun M R A Post Slo xs' s₀' s' c (M.den c) fs) → J (v :: vs) xs s₀ s → GRun M R A Post Slo xs s₀ s c (M.den c) fs) :
    ∀ vs xs s₀ s, J vs xs s₀ s → GRun M R A Post Slo xs s₀ s c (M.den c) fs
  | [], xs, s₀, s, h => nil xs s₀ s h
  | v :: vs, xs, s₀, s, h => cons v vs xs s₀ s (fun xs' s₀' s' h' => g_loop J nil cons vs xs' s₀' s' h') h

theorem the_fn {K : Frag} {f : Addr} {name qual : Str} {params : Arguments} {body : List Stmt} {scope : Scope} {dV kV doc pm cdv ct oc : Value} {an od : Option Addr} {osl : Array (Option Value)} {P : List Stmt → (Addr → Env) → Prop}
    (_ : K.lookup f = some ⟨oc, od, .func (fnOf name qual params body scope dV kV doc pm an cdv ct), osl⟩) (h : P body (fun L => envOf qual scope L f cdv)) : ∃ body env, P body env := ⟨_, _, h⟩

theorem flat_ok (w : World) (mean : ExcName → Option Value) (mg mb : Str → Option Value) (hB : Heap) (X : (Mine.hd.heap_39 w.params).In hB)
    (T : Top Mine.hd.view_39 (looseW Mine.hd.view_39 [Str.ofString "find_matching_paren"]) mean mg mb hB) :
    ∃ (body : List Stmt) (env : Addr → Env),
      (∀ (A : Around) (s : Shared) (v : Value) (Rr : Result → Shared → Prop), (∀ b o, hB.get? b = some o → s.heap.get? b = some o) → A.depth < recursionLimit →
        (∀ h' tk, h'.Ns s.heap.objs.size (fun y => [(Str.ofString "x", v)].reverse.lookup y) → (∀ b o, s.heap.get? b = some o → h'.get? b = some o) → Heap.IsGen h' (s.heap.objs.size + 1) s.gens.size → h'.objs.size = s.heap.objs.size + 2 →
          Rr (.ok (.ret (.ref (s.heap.objs.size + 1)))) { s with heap := h', toks := tk, gens := s.gens.push (.fresh (.func body (env s.heap.objs.size))) }) →
        codeAny (model PySem.Challenge.rw_bn5032_01.row.prog w) A (.call (.ref 48) ⟨[v], []⟩) Rr s) ∧
      (∀ (R : Result → Shared → Prop) (n : Nat) (ax : Addr) (vs : List Value) (xs : List Str) (b : Bool), Sq hB ax vs.toArray b → FlatVs hB vs xs n →
        ∀ (A : Around) (s : Shared) (L S g : Nat) (m : Str → Option Value), A.handled = none → A.depth + 8 * (n + 1) < recursionLimit → Fr hB L s.heap m → m (Str.ofString "x") = some (.ref ax) → L + 1 < s.heap.objs.size →
          g + 1 = s.gens.size → S < s.heap.objs.size → S ≠ L → GRun (model PySem.Challenge.rw_bn5032_01.row.prog w) R A (Po L S g) (Sl hB L S g) xs s s (.func body (env L)) ((model PySem.Challenge.rw_bn5032_01.row.prog w).den (.func body (env L))) []) := by
  w_top off; revert X; k_fill; intro X
  refine the_fn (K := Mine.hd.heap_39 w.params) (f := 48) (by k_dflt k_is) ?_
  have hcall : ∀ (A : Around) (s : Shared) (v : Value) (Rr : Result → Shared → Prop), (∀ b o, hB.get? b = some o → s.heap.get? b = some o) → A.depth < recursionLimit →
        (∀ h' tk, h'.Ns s.heap.objs.size (fun y => [(Str.ofString "x", v)].reverse.lookup y) → (∀ b o, s.heap.get? b = some o → h'.get? b = some o) → Heap.IsGen h' (s.heap.objs.size + 1) s.gens.size → h'.objs.size = s.heap.objs.size + 2 →
          Rr (.ok (.ret (.ref (s.heap.objs.size + 1)))) { s with heap := h', toks := tk, gens := s.gens.push (.fresh (.func _ (envOf _ _ s.heap.objs.size 48 _))) }) →
        codeAny (model PySem.Challenge.rw_bn5032_01.row.prog w) A (.call (.ref 48) ⟨[v], []⟩) Rr s := fun A s v Rr hk hroom h => by
    refine code_gen (binds := [(Str.ofString "x", v)]) (K := Mine.hd.heap_39 w.params) (X.keeps hk) (T.nolimit.keeps hk) (by k_dflt k_is) (by k_dflt k_is) hroom (by k_dflt (exact BindsTo.of_eq rfl)) (by k_dflt (exact locs rfl)) (fun h' tk h1 h2 h3 h4 => h h' tk h1 h2 h3 h4) (by k_dflt (exact rfl)) (by k_dflt (exact rfl)) (by k_dflt (exact rfl)) (by k_dflt decide)
  refine ⟨hcall, ?_⟩
  dsimp only
  intro R n
  induction n using Nat.strongRecOn with
  | ind n ih =>
  intro ax vs xs b hSq hFl A s L S g m hh hd F hx hsz hg hS hSL
  have step : ∀ {h : Heap} {m : Str → Option Value}, Fr hB L h m → Sq h ax vs.toArray b := fun F => hSq.keeps fun o e => F.keep _ _ e
  refine g_func ?_
  refine g_execs_cons ?_
  refine g_For (fun _ => rfl) ?_
  refine ld F hx ?_
  refine sq_iter (step F) fun h1 hk1 hI => ?_
  intro p
  refine g_loop (fun vl xl s0 s' => ∃ j, vs.drop j = vl ∧ FlatVs hB vl xl n ∧ LSt hB L S g s.heap.objs.size ax b j s0 s') ?_ ?_ vs xs _ _ ⟨0, rfl, hFl, ?_⟩
  · rintro xl s0 s' ⟨j, hdr, hfl, hst⟩
    cases hfl
    obtain ⟨m1, F1⟩ := hst.fr
    have hend : vs.toArray[j]? = none := by
      rw [List.getElem?_toArray, List.getElem?_eq_none]
      have := congrArg List.length hdr
      simp at this
      omega
    refine g_forTurn (sq_end hh hst.it (step F1) hend fun h2 hk2 => ?_)
    refine g_forEnd fun c' => ?_
    refine g_leaf _ ?_
    have hI9 := hst.it.lt
    refine g_end (hst.po.after (fun b o hb e => hk2 b o (fun e9 => ?_) e) rfl rfl)
    have e9' : @Eq Nat b s.heap.objs.size := e9
    have := hst.lo
    have := hst.ne
    rcases hb with hb | hb | hb <;> omega
  · rintro v vl xl s0 s' IH ⟨j, hdr, hfl, hst⟩
    obtain ⟨m1, F1⟩ := hst.fr
    have hj : vs.toArray[j]? = some v := by
      rw [List.getElem?_toArray]
      have := congrArg List.head? hdr
      rwa [List.head?_drop] at this
    have hdr' : vs.drop (j + 1) = vl := by rw [← List.drop_drop, hdr]; rfl
    cases hfl with
    | @cons _ _ ys zs _ hv hvs =>
    refine g_forTurn (sq_item hst.it (step F1) hj fun h2 hI2 hk2 => ?_)
    have F2 : Fr hB L h2 m1 := fr_keepsBut F1 hk2 (by have := hst.lo; omega)
    refine PyProof.Rows.assign_Name ?_
    refine st2 (s := { s' with heap := h2 }) F2 fun h3 F3 hk3 => ?_
    dsimp only at hk3
    have hlo := hst.lo
    have hne := hst.ne
    have hpo : Po L S g true s0 { s' with heap := h3, toks := s'.toks + 1 } := hst.po.after (fun b' o hb e => by
      have h1 : @Ne Nat b' s.heap.objs.size := by rcases hb with hb | hb | hb <;> omega
      have h2 : @Ne Nat b' L := by rcases hb with hb | hb | hb <;> omega
      exact hk3 b' o h2 (hk2 b' o h1 e)) rfl rfl
    have hI3 : SqIt h3 s.heap.objs.size ax (j + 1) b := hI2.keeps fun o e => hk3 _ o (fun e9 => by have e9' : @Eq Nat s.heap.objs.size L := e9; omega) e
    refine g_execs_cons ?_
    refine g_If ?_
    cases hv with
    | str x tk _ =>
      have N3 : News hB L h3 (oth hB L h3) := oth_news hB h3 L
      k_steps
      unfold Stop
      refine str_isstr ?_
      k_steps
      refine g_execs_cons ?_
      refine g_Yield rfl rfl rfl rfl ?_
      refine ld F3 (by simp) ⟨tk, rfl, hpo.weak, fun s'' hS9 => ?_⟩
      refine g_again rfl ?_
      refine IH _ _ _ ⟨j + 1, hdr', hvs, ?_⟩
      exact st_after F3 hS9 hI3 hlo hne hSL hst.po.ended hst.gs
    | @seq a vs' _ n' b' hq hfv =>
      have N3 : News hB L h3 (oth hB L h3) := oth_news hB h3 L
      k_steps
      unfold Stop
      refine sq_notstr (hq.keeps fun o e => F3.keep _ _ e) ?_
      k_steps
      unfold Stop
      refine sq_hasiter (hq.keeps fun o e => F3.keep _ _ e) fun h4 t4 hk4 => ?_
      have F4 := F3.keeps hk4
      have N4 : News hB L h4 (oth hB L h4) := oth_news hB h4 L
      k_steps
      refine g_execs_cons ?_
      refine g_YieldFrom ?_
      k_steps
      unfold Stop
      refine wpAny_call ?_
      refine hcall _ _ _ _ (fun b o e => F4.keep b o e) ?_ fun h5 t5 hns5 hk5 hgen5 hsz5 => ?_
      · exact over_room (by omega) rfl
      dsimp only
      obtain ⟨og, nm, qn, hog, hcg, hdg, hsg⟩ := id hgen5
      refine ⟨_, rfl, ⟨og, hog, hcg⟩, wpAny_pyIter_gen hgen5 ⟨rfl, fun p' => ?_⟩⟩
      have hst5 : ∀ (c : Nat) o, @Ne Nat c L → @Ne Nat c s.heap.objs.size → s'.heap.get? c = some o → h5.get? c = some o := fun c o h1 h2 e => hk5 c o (hk4 c o (hk3 c o h1 (hk2 c o h2 e)))
      have hIl : s.heap.objs.size < h4.objs.size := by
        have := (hI3.keeps (h' := h4) fun o e => hk4 _ o e).lt
        exact this
      have hSl : S < h4.objs.size := by omega
      refine g_yieldFrom2 (g := s'.gens.size) (Post' := Po h4.objs.size S s'.gens.size) (Env' := Sl hB h4.objs.size S s'.gens.size)
        (Slp hB L S g s.heap.objs.size ax b (j + 1) h4.objs.size s'.gens.size) ?hh ?hroom rfl rfl ?hyp ys s0 _ ?start
      case hh => exact hh
      case hroom =>
        exact Nat.lt_of_le_of_lt (over_room1 (Nat.le_refl _) rfl) (by omega)
      case hyp =>
        rintro SLP rfl
        refine ⟨?_, ?_, ?_⟩
        · intro ys1 s1 s2 hp
          obtain ⟨m2, Fp⟩ := hp.fr
          exact ⟨T.nolimit.keeps Fp.keep, hp.gen, hp.goes⟩
        · intro s1 s2 hp s3 hq3 h6 e6 hk6 hst6 c'
          have hL6 := slp_fin hp hq3 hk6
          refine g_leaf _ ?_
          refine g_again rfl ?_
          exact IH _ _ _ ⟨j + 1, hdr', hvs, hL6⟩
        · intro x r s1 s2 hp s3 gs' hq3 hn3
          refine ⟨slp_gen hp hq3, fun o h6 ho hk6 hg6 => ⟨slp_post hp hq3 hk6, fun s7 hS7 => ⟨?_, fun h8 hk8 hg8 => slp_next hp hq3 ho hk6 hS7 hn3 hk8 hg8⟩⟩⟩
          refine hS7.own _ _ (show @LE.le Nat _ L (h4.objs.size + 1) by omega) (show @Ne Nat (h4.objs.size + 1) (L + 1) by omega) (show @Ne Nat (h4.objs.size + 1) S by omega) hg6
      case start =>
        have hpush : ∀ (i : Nat) (x : GenState), i < s'.gens.size → (s'.gens.push x)[i]? = s'.gens[i]? := fun i x hi => by
          rw [Array.getElem?_push]; rw [if_neg (by omega)]
        refine ⟨⟨_, F4.keeps hk5⟩, hI3.keeps fun o e => hk5 _ o (hk4 _ o e), ⟨fun c o hc e => ?_, fun i hi => ?_, (fun h => by cases h), hst.po.os⟩, fun i x h1 h2 e => ?_, hst.gs, ?_, ⟨og, nm, qn, hog, hcg, hdg, .inl hsg⟩, ⟨_, Array.getElem?_push_size, ?_⟩, hlo, hIl, hne, hSL, hSl⟩
        · have h1 : @Ne Nat c s.heap.objs.size := by rcases hc with hb | hb | hb <;> omega
          have h2 : @Ne Nat c L := by rcases hc with hb | hb | hb <;> omega
          exact hst5 c o h2 h1 (hst.po.keep c o hc e)
        · exact (hpush i _ (by have := hst.gs; omega)).trans (hst.po.gens i hi)
        · exact hst.po.ended rfl i x h1 ((hpush i _ h2).symm.trans e)
        · show s'.gens.size < (s'.gens.push _).size
          rw [Array.size_push]; omega
        · refine ih n' (by omega) a vs' ys b' hq hfv _ _ _ _ _ _ ?_ ?_ ⟨hns5, fun c o e => hk5 c o (F4.keep c o e), ?_⟩ rfl ?_ ?_ ?_ ?_
          · exact hh
          · refine Nat.lt_of_le_of_lt (Nat.add_le_add_right (over_room1 (k := A.depth + 8) (Nat.le_refl _) rfl) _) ?_
            omega
          · exact Nat.le_trans F4.above (Nat.le_of_lt F4.ns.lt)
          · show h4.objs.size + 1 < h5.objs.size
            have hsz5' : h5.objs.size = h4.objs.size + 2 := hsz5
            omega
          · show _ = (Shared.setGen _ _ _).gens.size
            rw [setGen_size]
            exact (Array.size_push ..).symm
          · show S < h5.objs.size
            have hsz5' : h5.objs.size = h4.objs.size + 2 := hsz5
            omega
          · show S ≠ h4.objs.size
            omega
  · refine ⟨⟨m, F.keeps hk1⟩, hI, hsz, by omega, hSL, Po.after (s' := s) (Po.refl hg) (fun b o _ e => hk1 b o e) rfl rfl, by show g < s.gens.size; omega⟩
end Mine
end

-- part FlatL
section
open PySem PySem.W PyProof.Rows
namespace Mine
set_option maxRecDepth 100000
set_option maxHeartbeats 8000000

/-- the list that takes the texts of the generator -/
structure LJ (s₀ : Shared) (all : List Str) (L S g : Nat) (GO : List Str → GenState → Shared → Prop) (xs : List Str) (acc : Array Value) (c : Nat) (s : Shared) : Prop where
  list : s.heap.get? S = some { cls := .type "list", dict := none, data := .seq acc c, slots := #[] }
  took : ∃ l : List (Str × Tok), acc = (strValues l).toArray ∧ l.map (·.1) ++ xs = all
  gen : IsGen2 s.heap (L + 1) g
  base : ∀ b o, s₀.heap.get? b = some o → s.heap.get? b = some o
  goes : ∃ gs, s.gens[g]? = some gs ∧ GO xs gs (s.setGen g .running)
  os : s.os = s₀.os
  gs : g < s.gens.size

theorem flatL_ok (w : World) (mean : ExcName → Option Value) (mg mb : Str → Option Value) (s : Shared) (X : (Mine.hd.heap_39 w.params).In s.heap)
    (T : Top Mine.hd.view_39 (looseW Mine.hd.view_39 [Str.ofString "find_matching_paren"]) mean mg mb s.heap) (hg0 : s.gens = #[]) (n : Nat) (ax : Addr) (vs : List Value) (xs : List Str) (b : Bool) (hq : Sq s.heap ax vs.toArray b) (hf : FlatVs s.heap vs xs n) (hlen : xs.length ≤ 1000)
    (A : Around) (hd : A.depth < recursionLimit) (Q : Value → Shared → Prop)
    (h : ∀ (I : Nat) h' tk gens', (∀ c o, s.heap.get? c = some o → h'.get? c = some o) →
      (∀ (A' : Around) (R : Result → Shared → Prop) (Q' : Value → Shared → Prop) (E' : Value → Shared → Prop), A'.handled = none → A'.depth + 8 * (n + 2) < recursionLimit →
        (∀ (S : Nat) (s'' : Shared) (l : List (Str × Tok)) (c : Nat), (∀ c o, s.heap.get? c = some o → s''.heap.get? c = some o) → s''.heap.get? S = some (listOf (strValues l).toArray c) → s.heap.objs.size ≤ S → l.map (·.1) = xs →
          (∀ (i : Nat) (x : GenState), s''.gens[i]? = some x → x = GenState.finished) → s''.os = s.os → Q' (.ref S) s'') →
        Tri (model PySem.Challenge.rw_bn5032_01.row.prog w) R A' (call (.type "list") [.ref I]) Q' E' { s with heap := h', toks := tk, gens := gens' }) →
      Q (.ref I) { s with heap := h', toks := tk, gens := gens' }) :
    codeAny (model PySem.Challenge.rw_bn5032_01.row.prog w) A (.call (.ref 48) ⟨[.ref ax], []⟩) (fun r s' => match r with | .ok (.ret v) => Q v s' | .ok _ => False | .error _ => False) s := by
  obtain ⟨body, env, hcall, hrun⟩ := flat_ok w mean mg mb s.heap X T
  refine hcall A s _ _ (fun _ _ e => e) hd fun h1 tk1 hns1 hk1 hgen1 hsz1 => ?_
  refine h _ _ _ _ hk1 fun A' R Q' E' hh hd' ret => ?_
  have hg : s.gens.size = 0 := by rw [hg0]; rfl
  have hI : s.heap.objs.size + 1 < h1.objs.size := by
    have : h1.objs.size = s.heap.objs.size + 2 := hsz1
    omega
  refine tri_callList ?_
  have hIS : @Ne Nat h1.objs.size (s.heap.objs.size + 1) := by omega
  obtain ⟨og, nm, qn, hog, hcg, hdg, hsg⟩ := id hgen1
  have up : ∀ (o' : Obj) (c : Addr) o, h1.get? c = some o → (h1.push o').get? c = some o := fun o' c o e => Heap.get?_push_of_some _ e
  refine codeTri_listInit (S := h1.objs.size) hIS ⟨og, up _ _ _ hog, hcg⟩ (Heap.get?_push_size _ rfl) (fun A9 s9 Q9 E9 hk9 hq9 => wpAny_pyIter_gen (g := s.gens.size) ⟨og, nm, qn, hk9 _ _ (Ne.symm hIS) (up _ _ _ hog), hcg, hdg, hsg⟩ hq9) fun h2 c2 hk2 _ hsz2 hS2 => ?_
  have hk2' : ∀ (c : Nat) o, h1.get? c = some o → h2.get? c = some o := fun c o e => hk2 c o (Nat.ne_of_lt (Heap.lt_size e)) (up _ _ _ e)
  dsimp only
  refine codeTri_extendLoop (A := A'.in1) (S := h1.objs.size) (I := s.heap.objs.size + 1) (g := s.gens.size) (Post := Po s.heap.objs.size h1.objs.size s.gens.size) (Slo := Sl s.heap s.heap.objs.size h1.objs.size s.gens.size) rfl hh ?_
    (LJ s xs s.heap.objs.size h1.objs.size s.gens.size (fun ys gs z => GoesG (model PySem.Challenge.rw_bn5032_01.row.prog w) R A'.in1.in1.in1 (Po s.heap.objs.size h1.objs.size s.gens.size) (Sl s.heap s.heap.objs.size h1.objs.size s.gens.size) ys gs z)) ?_ ?_ ?_ xs #[] c2 _ ?_
  · have : A'.in1.in1.in1.depth = A'.depth := rfl
    omega
  · rintro ys acc c s3 ⟨hl, ⟨l, ha, hx⟩, hg3, hb3, hgo, _, _⟩
    refine ⟨T.nolimit.keeps hb3, hg3, ?_, hl, hgo⟩
    have h1 := congrArg List.length hx
    rw [List.length_append, List.length_map] at h1
    have h2 : acc.size = l.length := by rw [ha]; simp [strValues]
    omega
  · rintro acc c s3 ⟨hl, ⟨l, ha, hx⟩, hg3, hb3, hgo, ho3, hgs3⟩ s4 hq4 h5 e5 hk5 hst5
    subst ha
    have hg' : s4.gens[s.gens.size]? = some .running := (hq4.gens _ (Nat.le_refl _)).trans (setGen_same hgs3)
    have hgs : s.gens.size < s4.gens.size := by
      rcases Nat.lt_or_ge s.gens.size s4.gens.size with h | h
      · exact h
      · rw [Array.getElem?_eq_none h] at hg'; cases hg'
    refine ret h1.objs.size _ l c (fun c o e => ?_) ?_ (by omega) (by rw [← hx, List.append_nil]) (fun i x e => ?_) ?_
    · exact hk5 _ _ (hq4.keep c o (.inl (Heap.lt_size e)) (hb3 c o e))
    · exact hk5 _ _ (hq4.keep _ _ (.inr (.inr rfl)) hl)
    · have e : (s4.setGen s.gens.size .finished).gens[i]? = some x := e
      rcases Nat.lt_trichotomy i s.gens.size with h | h | h
      · omega
      · subst h
        rw [setGen_same hgs] at e
        exact (Option.some.inj e).symm
      · rw [setGen_other (by omega)] at e
        exact hq4.ended rfl i x h e
    · exact hq4.os.trans ho3
  · rintro x r acc c s3 ⟨hl, ⟨l, ha, hx⟩, hg3, hb3, hgo, ho3, hgs3⟩ s4 tk gs' hq4 hn4
    have hg' : s4.gens[s.gens.size]? = some .running := (hq4.gens _ (Nat.le_refl _)).trans (setGen_same hgs3)
    have hgs : s.gens.size < s4.gens.size := by
      rcases Nat.lt_or_ge s.gens.size s4.gens.size with h | h
      · exact h
      · rw [Array.getElem?_eq_none h] at hg'; cases hg'
    refine ⟨hq4.keep _ _ (.inr (.inr rfl)) hl, fun h5 c5 hs5 hl5 => ?_⟩
    have hb5 : ∀ (b : Nat) o, s.heap.get? b = some o → h5.get? b = some o := fun b o e => by
      have h1 : @Ne Nat b h1.objs.size := by have : b < s.heap.objs.size := Heap.lt_size e; omega
      exact (hs5.2 b h1).trans (hq4.keep b o (.inl (Heap.lt_size e)) (hb3 b o e))
    refine ⟨hl5, ⟨l ++ [(x, tk)], ?_, ?_⟩, ?_, hb5, ⟨gs', setGen_same hgs, hn4 _ ⟨hb5, fun b o h1 h2 h3 e => (hs5.2 b h3).trans e, fun i hi => ?_, ?_⟩⟩, hq4.os.trans ho3, ?_⟩
    · rw [ha]; simp [strValues]
    · rw [← hx]; simp
    · obtain ⟨o', nm', qn', e, r'⟩ := hg3
      exact ⟨o', nm', qn', (hs5.2 _ (Ne.symm hIS)).trans (hq4.keep _ _ (.inr (.inl rfl)) e), r'⟩
    · show (Shared.setGen { s4.setGen s.gens.size gs' with heap := h5 } s.gens.size .running).gens[i]? = _
      by_cases h : i = s.gens.size
      · subst h
        rw [setGen_same (by show s.gens.size < (s4.setGen s.gens.size gs').gens.size; rw [setGen_size]; exact hgs)]
        exact hg'.symm
      · rw [setGen_other h]
        exact setGen_other h
    · show (Shared.setGen { s4.setGen s.gens.size gs' with heap := h5 } s.gens.size .running).gens.size = _
      rw [setGen_size]
      exact setGen_size
    · show s.gens.size < (s4.setGen s.gens.size gs').gens.size
      rw [setGen_size]; exact hgs
  · refine ⟨hS2, ⟨[], rfl, rfl⟩, ⟨og, nm, qn, hk2' _ _ hog, hcg, hdg, .inl hsg⟩, fun b o e => hk2' b o (hk1 b o e), ⟨_, Array.getElem?_push_size, ?_⟩, rfl, by show _ < (s.gens.push _).size; rw [Array.size_push]; omega⟩
    have hsz2' : h2.objs.size = h1.objs.size + 1 := hsz2.trans (Heap.size_push ..)
    refine hrun R n ax vs xs b hq hf A'.in1.in1.in1 _ _ _ _ (fun y => [(Str.ofString "x", Value.ref ax)].reverse.lookup y) hh ?_ ⟨?_, fun b o e => hk2' b o (hk1 b o e), Nat.le_refl _⟩ rfl ?_ ?_ ?_ ?_
    · have : A'.in1.in1.in1.depth = A'.depth := rfl
      omega
    · exact hns1.keeps hk2'
    · show s.heap.objs.size + 1 < h2.objs.size
      omega
    · show _ = (Shared.setGen _ _ _).gens.size
      rw [setGen_size]
      exact (Array.size_push ..).symm
    · show h1.objs.size < h2.objs.size
      omega
    · show @Ne Nat h1.objs.size s.heap.objs.size
      omega
end Mine
end

-- part Tlaw
section
open PySem PySem.W PyProof.Rows
namespace Mine
set_option maxRecDepth 100000

section
variable {prog : Program} {w : World} {R : Result → Shared → Prop} {A : Around} {s : Shared} {P : Result → Shared → Prop}
theorem tri_point {α : Type} {M : Model} {k : Unit → Sem α} {Q : α → Shared → Prop} {E : Value → Shared → Prop} (h : Tri M R A (k ()) Q E s) : Tri M R A (.point [] k) Q E s :=
  fun c base p K H gd lv hIn hQ hE => good_step (step_point M s c p base _ _) (h c base p K H gd lv hIn hQ hE)
theorem codeTri_func {body : List Stmt} {env : Env}
    (h : Tri (model prog w) R (A.deeper env) (execs body env) (fun f s' => P (.ok (.ret (match f with | .ret v => v | _ => .none))) s')
      (fun e s' => Tri (model prog w) R (A.deeper env) (leaving env e) (fun _ s'' => P (.error e) s'') (fun e' s'' => P (.error e') s'') s') s) :
    CodeTri (model prog w) R A (.func body env) P s := by
  refine tri_code ?_
  show Tri _ R (A.deeper env) (.point [] fun _ => ((execs body env).onRaise (leaving env) >>= _)) _ _ s
  refine tri_point (tri_bind (tri_onRaise (tri_mono h (fun f s' h' => ?_) fun _ _ h' => h')))
  cases f <;> exact tri_pure h'
theorem codeTri_call_def {a : Addr} {o : Obj} {fd : FuncData} {body : List Stmt} {args : Args} {binds : List (Str × Value)}
    (hroom : A.depth < recursionLimit) (ho : s.heap.get? a = some o) (hdata : o.data = .func fd) (hlim : s.heap.NoLimit) (hcd : s.heap.CodeRec fd.code fd.qualname)
    (hbody : fd.body = .stmts body) (hbind : BindsTo s fd args binds)
    (hcell : ∀ x ∈ fd.scope.names, x.2 ≠ .cell) (hloc : ∀ x ∈ binds, fd.scope.names.lookup x.1 = some .local)
    (h : ∀ h₀, h₀.Ns s.heap.objs.size (fun x => binds.reverse.lookup x) → (∀ b o, s.heap.get? b = some o → h₀.get? b = some o) →
      Tri (model prog w) R (A.deeper (callEnv fd s.heap.objs.size a)) (execs body (callEnv fd s.heap.objs.size a)) (fun f s' => P (.ok (.ret (match f with | .ret v => v | _ => .none))) s')
        (fun e s' => Tri (model prog w) R (A.deeper (callEnv fd s.heap.objs.size a)) (leaving (callEnv fd s.heap.objs.size a) e) (fun _ s'' => P (.error e) s'') (fun e' s'' => P (.error e') s'') s')
        { s with heap := h₀, toks := s.toks + binds.length })
    (hco : fd.scope.isCoroutine = false := by rfl) (hgen : fd.scope.isGenerator = false := by rfl) (hk : fd.scope.kind = .function := by rfl) :
    CodeTri (model prog w) R A (.call (.ref a) args) P s := by
  refine tri_code ?_
  show Tri _ R A.in1 (callAny (.ref a) args) _ _ s
  simp only [callAny]
  refine tri_after (wpAny_load ho ?_)
  obtain ⟨c, oc, vs, tq, hc, hoc, hdc, hq⟩ := hcd
  simp only [hdata, callFunction, hco, hgen, hbody, hc]
  refine tri_after (m := field (.ref c) 1) (wpAny_field hoc hdc hq ?_)
  refine tri_after (wpAny_pure ?_)
  refine tri_after (hbind _ _ _ _ ?_)
  rw [← hc]
  refine tri_after (wpAny_newFunctionEnv hcell hloc (fun h₀ hns₀ hsb₀ => ?_) hk)
  refine tri_after (wpAny_enterFrame (hlim.fresh _ hsb₀) hroom ?_)
  exact tri_pure (And.intro rfl (codeTri_func (h h₀ hns₀ fun b o e => hsb₀.extBut b o (Nat.ne_of_lt (Heap.lt_size e)) (Heap.get?_push_of_some _ e))))

open PySem.Calls in
theorem codeTri_full {name : Str} {params : Arguments} {body : List Stmt} {scope : Scope}
    {dV kV pm cd doc : Value} {a : Addr} {o : Obj} {args : Args} {binds : List (Str × Value)}
    (hroom : A.depth < recursionLimit) (ho : s.heap.get? a = some o) (hdata : o.data = .func { docDef name params body scope pm cd doc with defaults := dV, kwdefaults := kV }) (hlim : s.heap.NoLimit) (hcd : s.heap.CodeRec cd name)
    (hbind : BindsTo s { docDef name params body scope pm cd doc with defaults := dV, kwdefaults := kV } args binds)
    (hloc : ∀ x ∈ binds, scope.names.lookup x.1 = some .local)
    (h : ∀ h₁, Fr s.heap s.heap.objs.size h₁ (fun x => binds.reverse.lookup x) →
      Tri (model prog w) R (A.deeper (envOf name scope s.heap.objs.size a cd)) (execs body (envOf name scope s.heap.objs.size a cd))
        (fun f s' => P (.ok (.ret (match f with | .ret v => v | _ => .none))) s')
        (fun e s' => Tri (model prog w) R (A.deeper (envOf name scope s.heap.objs.size a cd)) (leaving (envOf name scope s.heap.objs.size a cd) e)
          (fun _ s'' => P (.error e) s'') (fun e' s'' => P (.error e') s'') s')
        { s with heap := h₁, toks := s.toks + binds.length })
    (hco : scope.isCoroutine = false := by rfl) (hgen : scope.isGenerator = false := by rfl) (hk : scope.kind = .function := by rfl)
    (hcell : ∀ x ∈ scope.names, x.2 ≠ .cell := by decide) :
    CodeTri (model prog w) R A (.call (.ref a) args) P s :=
  codeTri_call_def hroom ho hdata hlim hcd rfl hbind hcell hloc (fun h₁ hns hkeep => h h₁ ⟨hns, hkeep, Nat.le_refl _⟩) hco hgen hk

section
variable {M : Model} {E : Value → Shared → Prop} {env : Env}
theorem tri_execs_cons {st : Stmt} {rest : List Stmt} {Q : Flow → Shared → Prop}
    (h : Tri M R A (exec st env) (fun f s' => match f with | .next => Tri M R A (execs rest env) Q E s' | f => Q f s') E s) : Tri M R A (execs (st :: rest) env) Q E s := by
  rw [execs_cons]
  refine tri_bind (tri_mono h (fun f s' h' => ?_) fun _ _ x => x)
  cases f with
  | next => exact h'
  | brk => exact tri_pure h'
  | cont => exact tri_pure h'
  | ret v => exact tri_pure h'
/-- a statement of the library's logic, which raises nothing -/
theorem tri_exec {st : Stmt} {rest : List Stmt} {Q : Flow → Shared → Prop}
    (h : wpAny M A (exec st env) (fun f s' => match f with | .next => Tri M R A (execs rest env) Q E s' | f => Q f s') (fun _ _ => False) s) : Tri M R A (execs (st :: rest) env) Q E s :=
  tri_execs_cons (tri_of_wp (wpAny_mono h (fun _ _ x => x) fun _ _ x => x.elim))
theorem tri_Assign_Name {x pos' value pos} {Q : Flow → Shared → Prop}
    (h : Tri M R A (eval value env) (fun v s₁ => wpAny M A (storeName env x v) (fun _ => Q .next) E s₁) E s)
    (hs : swapsWith value (some (.Name x pos')) pos.line env = pure false := by rfl) : Tri M R A (exec (.Assign [.Name x pos'] value pos) env) Q E s := by
  rw [exec_Assign_Name env x pos' value pos hs]
  refine tri_after (wpAny_standAt ?_)
  refine tri_bind (tri_mono h (fun v s₁ h₁ => ?_) fun _ _ x => x)
  refine tri_after (wpAny_standAt ?_)
  exact tri_after (wpAny_bindName (wpAny_mono h₁ (fun _ _ x => tri_pure x) fun _ _ x => x))
theorem tri_callWith_type1 {pos : Pos} {T : String} {t : Sem Value} {Q : Value → Shared → Prop} (h : wpAny M A t (fun v s₁ => Tri M R A (call (.type T) [v]) Q E s₁) E s) :
    Tri M R A (callWith pos (.type T) [] [(false, t)] []) Q E s := by
  unfold callWith
  refine tri_after (wpAny_holding (Calls.evalArgs_plain (Calls.spliced_cons (wpAny_mono h (fun v s₁ h₁ => Calls.spliced_nil ?_) fun _ _ x => x))))
  refine tri_after (wpAny_standAt ?_)
  refine tri_after (wpAny_of_eq (a := Keeper.machine) rfl ?_)
  show Tri M R A (call (.type T) [v] [] >>= _) _ _ _
  refine tri_bind (tri_mono h₁ (fun r s₂ h₂ => ?_) fun _ _ x => x)
  refine tri_after (wpAny_holding (wpAny_point ?_))
  exact tri_pure h₂
theorem tri_Call_Name1 {x : Str} {p pos : Pos} {e : Expr} {Q : Value → Shared → Prop}
    (h : wpAny M A (eval (.Name x p) env) (fun f s₁ => Tri M R A (callWith pos f [] [(false, eval e env)] []) Q E s₁) E s)
    (hs : starEach [e] env = [(false, eval e env)] := by rfl) : Tri M R A (eval (.Call (.Name x p) [e] [] pos) env) Q E s := by
  show Tri M R A (eval (.Name x p) env >>= fun f => callWith pos f [] (backTo pos (starEach [e] env)) (backToKw pos (keywordEach [] env))) Q E s
  rw [hs]
  exact tri_after h
end
end
end Mine
end

-- part LawP
section
open PySem PySem.W PyProof.Rows
namespace Mine
set_option maxRecDepth 100000
set_option maxHeartbeats 4000000

abbrev sp (c : Nat) : Bool := Unicode.isSpace c
theorem sub_tx (l : List Nat) (i j : Nat) : Builtin.Str.strSub (tx l) i j = tx ((l.drop i).take (j - i)) := by
  apply str_ext
  show l.toArray.extract i j = ((l.drop i).take (j - i)).toArray
  simp
theorem len_tw (l : List Nat) : l.drop (l.takeWhile sp).length = l.dropWhile sp := by
  induction l with
  | nil => rfl
  | cons c r ih =>
    rw [List.takeWhile_cons, List.dropWhile_cons]
    split
    · simpa using ih
    · rfl
theorem strip_tx (l : List Nat) : Txt.strip (tx l) = tx ((l.dropWhile sp).reverse.dropWhile sp).reverse := by
  unfold Txt.strip
  rw [PySem.W.stripBy_eq]
  unfold PySem.W.stripped
  simp only [if_true, tx_toList]
  show Builtin.Str.strSub (tx l) (l.takeWhile sp).length ((tx l).length - ((l.drop (l.takeWhile sp).length).reverse.takeWhile sp).length) = _
  rw [sub_tx, len_tw, ← len_tw (l.dropWhile sp).reverse, List.reverse_drop, List.reverse_reverse, List.length_reverse, tx_len]
  congr 2
  have h1 : (l.dropWhile sp).length = l.length - (l.takeWhile sp).length := by rw [← len_tw, List.length_drop]
  omega
theorem sp_facts : sp 9 = true ∧ sp 10 = true ∧ sp 32 = true ∧ sp 40 = false ∧ sp 41 = false ∧ sp 39 = false ∧ sp 34 = false ∧ sp 97 = false ∧ sp 99 = false ∧ sp 68 = false := by decide +kernel
theorem dw_all : ∀ (a : List Nat) (z : List Nat), (∀ c ∈ a, sp c = true) → (a ++ z).dropWhile sp = z.dropWhile sp
  | [], _, _ => rfl
  | c :: r, z, h => by rw [List.cons_append, List.dropWhile_cons, if_pos (h c (.head _)), dw_all r z fun c hc => h c (.tail _ hc)]
theorem dw_stop {c : Nat} {r : List Nat} (h : sp c = false) : (c :: r).dropWhile sp = c :: r := by
  rw [List.dropWhile_cons, if_neg (by simp [h])]
theorem strip_core {a b m : List Nat} {x y : Nat} (ha : ∀ c ∈ a, sp c = true) (hb : ∀ c ∈ b, sp c = true) (hx : sp x = false) (hy : sp y = false) :
    Txt.strip (tx (a ++ (x :: (m ++ [y])) ++ b)) = tx (x :: (m ++ [y])) := by
  rw [strip_tx, List.append_assoc, dw_all _ _ ha, List.cons_append, dw_stop hx, ← List.cons_append, List.reverse_append, dw_all _ _ fun c hc => hb c (List.mem_reverse.mp hc)]
  have e : (x :: (m ++ [y])).reverse = y :: (m.reverse ++ [x]) := by simp
  rw [e, dw_stop hy]
  simp
theorem strip_front {a r : List Nat} {x : Nat} (ha : ∀ c ∈ a, sp c = true) (hx : sp x = false) : ∃ r', Txt.strip (tx (a ++ x :: r)) = tx (x :: r') := by
  rw [strip_tx, dw_all _ _ ha, dw_stop hx, List.reverse_cons]
  suffices h : ∀ z : List Nat, ∃ r', ((z ++ [x]).dropWhile sp) = r' ++ [x] by
    obtain ⟨r', e⟩ := h r.reverse
    exact ⟨r'.reverse, by rw [e]; simp⟩
  intro z
  induction z with
  | nil => exact ⟨[], by rw [List.nil_append, dw_stop hx]⟩
  | cons c z ih =>
    rw [List.cons_append, List.dropWhile_cons]
    split
    · exact ih
    · exact ⟨c :: z, rfl⟩

theorem item0 (c : Nat) (r : List Nat) : Txt.item (tx (c :: r)) 0 = (⟨#[c]⟩ : Str) := by
  have h := (item_eq_iff (x := tx (c :: r)) (i := 0) (c := c) (by decide) (by rw [tx_len]; simp)).mpr (by rw [tx_toList]; rfl)
  simpa using h
theorem itemL (l : List Nat) (c : Nat) : Txt.item (tx (l ++ [c])) (-1) = (⟨#[c]⟩ : Str) := by
  unfold Txt.item Txt.charAt seqIndex?
  have e1 : ((tx (l ++ [c])).length : Int) = l.length + 1 := by rw [tx_len]; simp
  simp only [e1, show ((-1 : Int) < 0) = True by decide, if_true, show (-1 + ((l.length : Int) + 1)) = l.length by omega]
  rw [if_pos (by simp; omega)]
  have e2 : (tx (l ++ [c])).cps[l.length]? = some c := by
    rw [← Array.getElem?_toList, tx_toList]; simp
  simp [e2]

theorem q40s : Str.ofString "(" = (⟨#[40]⟩ : Str) := q40
theorem q41s : Str.ofString ")" = (⟨#[41]⟩ : Str) := q41
/-- one layer off a wrapped node, whatever blanks stand about it -/
theorem sop_layer {a b : List Nat} {t : Nd} (ok : t.ok) (ha : ∀ c ∈ a, sp c = true) (hb : ∀ c ∈ b, sp c = true) : sop (tx (a ++ (40 :: (t.txt ++ [41])) ++ b)) = tx t.txt := by
  have hst := strip_core (m := t.txt) ha hb sp_facts.2.2.2.1 sp_facts.2.2.2.2.1
  have hl : ((tx (40 :: (t.txt ++ [41]))).length : Int) = t.txt.length + 2 := by rw [tx_len]; simp; omega
  have hsc := scan_own t [] 0 ok
  rw [sop_e (c := 0 + 1 + t.txt.length)]
  · rw [hst, slice_inner]
  · rw [hst, hl]; omega
  · rw [hst, item0, q40s]; simp
  · rw [hst, ← List.cons_append, itemL, q41s]; simp
  · rw [hst, tx_toList]
    exact hsc
  · rw [hst, hl]; omega
theorem txts_last : ∀ (ks : List Nd) (k : Nd) (i : Nat), ∃ z, Nd.txts (k :: ks) i = z ++ [41]
  | [], k, i => ⟨gap i ++ 40 :: k.txt, by simp [Nd.txts]⟩
  | k' :: r, k, i => by
    obtain ⟨z, e⟩ := txts_last r k' (i + 1)
    exact ⟨gap i ++ 40 :: (k.txt ++ 41 :: z), by rw [Nd.txts, e]; simp⟩
theorem sop_front {a r : List Nat} {x : Nat} (ha : ∀ c ∈ a, sp c = true) (hx : sp x = false) (h40 : x ≠ 40) : sop (tx (a ++ x :: r)) = tx (a ++ x :: r) := by
  obtain ⟨r', e⟩ := strip_front (r := r) ha hx
  by_cases h : ((Txt.strip (tx (a ++ x :: r))).length : Int) < 2
  · exact sop_a h
  · refine sop_b h ?_
    rw [e, item0, q40s]
    simpa using h40
/-- no wrap: a leaf, or a node of no or of several kids -/
theorem sop_stays {t : Nd} (ok : t.ok) (h : ∀ k, t ≠ .bra [k]) : sop (tx (32 :: (t.txt ++ [10]))) = tx (32 :: (t.txt ++ [10])) := by
  have h32 : ∀ c ∈ [32], sp c = true := by simp [sp_facts.2.2.1]
  have h10 : ∀ c ∈ [10], sp c = true := by simp [sp_facts.2.1]
  cases t with
  | nam ps =>
    obtain ⟨c, r, e, hc, h40⟩ : ∃ c r, (Nd.nam ps).txt = c :: r ∧ sp c = false ∧ c ≠ 40 := by
      have hq : ∀ p, ∃ c r, qname p = c :: r ∧ sp c = false ∧ c ≠ 40 := fun p => by
        unfold qname
        split
        · rename_i hb
          rcases hb with rfl | rfl | rfl
          · exact ⟨_, _, rfl, sp_facts.2.2.2.2.2.2.2.1, by decide⟩
          · exact ⟨_, _, rfl, sp_facts.2.2.2.2.2.2.2.2.1, by decide⟩
          · exact ⟨_, _, rfl, sp_facts.2.2.2.2.2.2.2.2.2, by decide⟩
        · exact ⟨_, _, rfl, sp_facts.2.2.2.2.2.2.1, by decide⟩
      rcases ok with ⟨p, rfl, _⟩ | ⟨p, q, rfl, _, _⟩
      · exact hq p
      · obtain ⟨c, r, e, h1, h2⟩ := hq p
        exact ⟨c, r ++ 46 :: qname q, by show qname p ++ 46 :: qname q = _; rw [e]; rfl, h1, h2⟩
    rw [e]
    exact sop_front (a := [32]) h32 hc h40
  | lit p => exact sop_front (a := [32]) h32 sp_facts.2.2.2.2.2.1 (by decide)
  | bra ks =>
    match ks, h with
    | [], _ => exact sop_a (by decide +kernel)
    | [k], h => exact absurd rfl (h k)
    | k0 :: k1 :: r, _ =>
      obtain ⟨z, ez⟩ := txts_last r k1 1
      have e : (32 :: ((Nd.bra (k0 :: k1 :: r)).txt ++ [10])) = [32, 32] ++ (40 :: ((k0.txt ++ 41 :: z) ++ [41])) ++ [10] := by
        show 32 :: ((gap 0 ++ 40 :: (k0.txt ++ 41 :: Nd.txts (k1 :: r) 1)) ++ [10]) = _
        rw [ez]
        simp [gap]
      have hst := strip_core (a := [32, 32]) (b := [10]) (m := k0.txt ++ 41 :: z) (by simp [sp_facts.2.2.1]) h10 sp_facts.2.2.2.1 sp_facts.2.2.2.2.1
      have hl : ((tx (40 :: ((k0.txt ++ 41 :: z) ++ [41]))).length : Int) = k0.txt.length + z.length + 3 := by rw [tx_len]; simp; omega
      have hsc := scan_own k0 (z ++ [41]) 0 ok.1
      rw [e]
      rw [sop_f (c := 0 + 1 + k0.txt.length)]
      · rw [hst, hl]; omega
      · rw [hst, item0, q40s]; simp
      · rw [hst, ← List.cons_append, itemL, q41s]; simp
      · rw [hst, tx_toList]
        have e2 : (40 :: ((k0.txt ++ 41 :: z) ++ [41])) = 40 :: (k0.txt ++ 41 :: (z ++ [41])) := by simp
        rw [e2]; exact hsc
      · rw [hst, hl]; omega

theorem strOk_tx {p : List Nat} (h : ∀ c ∈ p, c < 128) : PyData.strOk (tx p) = true := by
  unfold PyData.strOk
  rw [← Array.all_toList, tx_toList, List.all_eq_true]
  intro c hc
  have := h c hc
  exact decide_eq_true (by omega)
theorem part_low {p : List Nat} (h : part p) : ∀ c ∈ p, c < 128 := by
  intro c hc
  rcases h with (rfl | rfl | rfl) | ⟨_, h⟩
  · revert c; decide
  · revert c; decide
  · revert c; decide
  · rcases h c hc with rfl | rfl | rfl | rfl | rfl | rfl | rfl <;> decide
theorem sign_low {p : List Nat} (h : ∀ c ∈ p, sign c) : ∀ c ∈ p, c < 128 := by
  intro c hc
  rcases h c hc with rfl | rfl | rfl | rfl | rfl | rfl | rfl <;> decide
mutual
theorem dat_ok : ∀ (t : Nd) (n : Nat), t.ok → t.depth + 1 ≤ n → kqdOk n t.dat = true
  | .bra ks, n, h, hn => by
    have hn' : Nd.depths ks + 1 + 1 ≤ n := hn
    obtain ⟨n', rfl⟩ : ∃ n', n = n' + 1 := ⟨n - 1, by omega⟩
    rw [Nd.dat]
    show ((Nd.dats ks).all (kqdOk n')) = true
    rw [List.all_eq_true]
    exact dats_ok ks n' h (by omega)
  | .nam ps, n, h, hn => by
    have hn' : 1 ≤ n := by have : 0 + 1 ≤ n := hn; omega
    obtain ⟨n', rfl⟩ : ∃ n', n = n' + 1 := ⟨n - 1, by omega⟩
    rw [Nd.dat]
    show ((Dat.str (Str.ofString "n") :: ps.map dstr).all (kqdOk n')) = true
    have hs : ∀ x, PyData.strOk x = true → kqdOk n' (.str x) = true := fun x hx => by unfold kqdOk; exact hx
    rw [List.all_cons, hs _ (by decide +kernel), Bool.true_and, List.all_eq_true]
    intro d hd
    obtain ⟨p, hp, rfl⟩ := List.mem_map.mp hd
    refine hs _ (strOk_tx ?_)
    rcases h with ⟨q, rfl, hq⟩ | ⟨q, q', rfl, hq, hq'⟩
    · rw [List.mem_singleton.mp hp]; exact part_low hq
    · rcases List.mem_cons.mp hp with rfl | hp
      · exact part_low hq
      · rw [List.mem_singleton.mp hp]; exact part_low hq'
  | .lit p, n, h, hn => by
    have hn' : 1 ≤ n := by have : 0 + 1 ≤ n := hn; omega
    obtain ⟨n', rfl⟩ : ∃ n', n = n' + 1 := ⟨n - 1, by omega⟩
    rw [Nd.dat]
    have hs : ∀ x, PyData.strOk x = true → kqdOk n' (.str x) = true := fun x hx => by unfold kqdOk; exact hx
    show (([Dat.str (Str.ofString "t"), dstr p]).all (kqdOk n')) = true
    rw [List.all_cons, hs _ (by decide +kernel), Bool.true_and, List.all_cons, List.all_nil, Bool.and_true]
    exact hs _ (strOk_tx (sign_low h.2))
theorem dats_ok : ∀ (ks : List Nd) (n : Nat), Nd.oks ks → Nd.depths ks + 1 ≤ n → ∀ d ∈ Nd.dats ks, kqdOk n d = true
  | [], _, _, _ => fun _ hd => by cases hd
  | k :: r, n, h, hn => by
    have hn' : max k.depth (Nd.depths r) + 1 ≤ n := hn
    intro d hd
    rw [Nd.dats] at hd
    rcases List.mem_cons.mp hd with rfl | hd
    · exact dat_ok k n h.1 (by omega)
    · exact dats_ok r n h.2 (by omega) d hd
end
section
variable {prog : Program} {w : World} {A : Around} {E : Value → Shared → Prop} {s : Shared} {h₀ : Heap} {L a b : Addr} {news : List (Addr × Obj)} {xs ys : List Value} {ka kb : Nat} {ds : List Dat} {Q : Value → Shared → Prop}
/-- two tuples of the ledger that tell the same -/
theorem tup_ne_same (N : News h₀ L s.heap news) (ma : (a, ({ cls := .type "tuple", data := .seq xs.toArray ka } : Obj)) ∈ news) (Da : DatAll news xs ds)
    (mb : (b, ({ cls := .type "tuple", data := .seq ys.toArray kb } : Obj)) ∈ news) (Db : DatAll news ys ds)
    (ha : ∀ d ∈ ds, kqdOk 8 d = true) (hu : A.units + 64 < cLine) (h : Q (.bool false) s) : wpAny (model prog w) A (compareOp .NotEq (.ref a) (.ref b)) Q E s := by
  obtain ⟨as, ra⟩ := kqd_all N 8 Da ha
  obtain ⟨bs, rb⟩ := kqd_all N 8 Db ha
  have la := kqd_lay 9 (.tuple ds) (by simpa [kqdOk] using ha)
  rw [kqdP] at la
  have e : PyData.eqv (.tuple (kqdPs ds)) (.tuple (kqdPs ds)) = true := by
    have q := kqd_eqv 9 (.tuple ds) (.tuple ds) 9 (by simpa [kqdOk] using ha) (by simpa [kqdOk] using ha)
    rw [kqdP] at q
    exact q.mpr rfl
  have sh : PySem.SeqAt.shaped (.tuple (kqdPs ds)) = true := by
    unfold PySem.SeqAt.shaped; rw [la.1, Bool.true_and]; exact decide_eq_true (Nat.le_trans la.2 (by decide))
  exact ne_dataH (reads_tuple_at (N.get ma) rfl rfl (by simpa using ra)) (reads_tuple_at (N.get mb) rfl rfl (by simpa using rb)) sh sh hu (by rw [e]; exact h)
end
theorem strs_dat {news : List (Addr × Obj)} : ∀ (l : List (Str × Tok)), DatAll news (strValues l) (l.map fun p => Dat.str p.1)
  | [] => .nil
  | p :: r => .cons (.str _ _) (strs_dat r)
theorem strs_ok {l : List (Str × Tok)} (h : ∀ p ∈ l, PyData.strOk p.1 = true) : ∀ d ∈ l.map (fun p => Dat.str p.1), kqdOk 8 d = true := fun d hd => by
  obtain ⟨p, hp, rfl⟩ := List.mem_map.mp hd
  have := h p hp
  unfold kqdOk
  exact this
mutual
theorem flat_strOk : ∀ (t : Nd), t.ok → ∀ x ∈ t.flat, PyData.strOk x = true
  | .bra ks, h => by rw [Nd.flat]; exact flats_strOk ks h
  | .nam ps, h => by
    intro x hx
    rw [Nd.flat] at hx
    rcases List.mem_cons.mp hx with rfl | hx
    · decide +kernel
    · obtain ⟨p, hp, rfl⟩ := List.mem_map.mp hx
      refine strOk_tx ?_
      rcases h with ⟨q, rfl, hq⟩ | ⟨q, q', rfl, hq, hq'⟩
      · rw [List.mem_singleton.mp hp]; exact part_low hq
      · rcases List.mem_cons.mp hp with rfl | hp
        · exact part_low hq
        · rw [List.mem_singleton.mp hp]; exact part_low hq'
  | .lit p, h => by
    intro x hx
    rw [Nd.flat] at hx
    rcases List.mem_cons.mp hx with rfl | hx
    · decide +kernel
    · rw [List.mem_singleton.mp hx]; exact strOk_tx (sign_low h.2)
theorem flats_strOk : ∀ (ks : List Nd), Nd.oks ks → ∀ x ∈ Nd.flats ks, PyData.strOk x = true
  | [], _ => fun _ hx => by cases hx
  | k :: r, h => by
    intro x hx
    rw [Nd.flats] at hx
    rcases List.mem_append.mp hx with hx | hx
    · exact flat_strOk k h.1 x hx
    · exact flats_strOk r h.2 x hx
end
section
variable {prog : Program} {w : World} {A : Around} {E : Value → Shared → Prop} {s : Shared} {h₀ : Heap} {L a b : Addr} {news : List (Addr × Obj)} {Q : Value → Shared → Prop}
open Classical in
theorem notIn_strs {kvs : List (Str × Tok)} {n : Nat} {x : Str} {t : Tok} (N : News h₀ L s.heap news) (ma : (a, PySem.W.listOf (strValues kvs).toArray n) ∈ news) (hk : ∀ p ∈ kvs, PyData.strOk p.1 = true) (hx : PyData.strOk x = true) (hu : A.units + 64 < cLine)
    (h1 : (Dat.str x ∈ kvs.map fun p => Dat.str p.1) → Q (.bool false) s) (h2 : ¬ (Dat.str x ∈ kvs.map fun p => Dat.str p.1) → Q (.bool true) s) : wpAny (model prog w) A (compareOp .NotIn (.str x t) (.ref a)) Q E s := by
  refine kqd_notIn (n₁ := []) (n₂ := []) N ma rfl rfl (strs_dat kvs) (fun _ hq => by cases hq) (.str x t) (fun _ hq => by cases hq) (strs_ok hk) hx hu ?_
  by_cases h : Dat.str x ∈ kvs.map fun p => Dat.str p.1
  · rw [decide_eq_true h]; exact h1 h
  · rw [decide_eq_false h]; exact h2 h
open Classical in
theorem eq_strs {l l' : List (Str × Tok)} {n n' : Nat} (N : News h₀ L s.heap news) (ma : (a, PySem.W.listOf (strValues l).toArray n) ∈ news) (mb : (b, PySem.W.listOf (strValues l').toArray n') ∈ news)
    (hk : ∀ p ∈ l, PyData.strOk p.1 = true) (he : l.map (·.1) = l'.map (·.1)) (hu : A.units + 64 < cLine) (h : Q (.bool true) s) : wpAny (model prog w) A (compareOp .Eq (.ref a) (.ref b)) Q E s := by
  have e : l.map (fun p => Dat.str p.1) = l'.map fun p => Dat.str p.1 := by
    have := congrArg (List.map Dat.str) he
    rwa [List.map_map, List.map_map] at this
  refine kqd_eq (n₁ := []) (n₂ := []) N ma rfl rfl (strs_dat l) (fun _ hq => by cases hq) mb rfl rfl (strs_dat l') (fun _ hq => by cases hq) (strs_ok hk) (by rw [← e]; exact strs_ok hk) hu ?_
  rw [decide_eq_true e]; exact h
end
end Mine
end

-- part Law
section
open PySem PySem.W PyProof.Rows
namespace Mine
set_option maxRecDepth 100000
set_option maxHeartbeats 8000000

theorem units_ok {A : Around} {d : Nat} (h : A.units ≤ 60) (hd : d ≤ 4) : A.units + 8 * d + 100 < cLine :=
  Nat.lt_of_le_of_lt (m := 200) (by omega) (by decide)
def LP (s₁ : Shared) (ps : List (Str × Value)) (led : List (Addr × Obj)) (s' : Shared) : Prop :=
  ∃ h tk u, s' = { s₁ with heap := h, toks := tk } ∧ Fr s₁.heap s₁.heap.objs.size h (kstB u ps) ∧ News s₁.heap s₁.heap.objs.size h led
theorem lp_of {s₁ : Shared} {ps : List (Str × Value)} {led : List (Addr × Obj)} {h : Heap} {tk : Nat} {m : Str → Option Value} (F : Fr s₁.heap s₁.heap.objs.size h m) (N : News s₁.heap s₁.heap.objs.size h led) (hk : ∀ p ∈ ps, m p.1 = some p.2) :
    LP s₁ ps led { s₁ with heap := h, toks := tk } := ⟨h, tk, m, rfl, by rw [kstB_self hk]; exact F, N⟩
theorem fmod_in {x m : Int} (h : 0 < m) : 0 ≤ x.fmod m ∧ x.fmod m < m := by
  rw [Int.fmod_eq_emod_of_nonneg _ (Int.le_of_lt h)]
  exact ⟨Int.emod_nonneg _ (by omega), Int.emod_lt_of_pos _ h⟩
theorem torn_P {s₁ : Shared} {led : List (Addr × Obj)} {h : Heap} {tk : Nat} {m : Str → Option Value} {t : Nd} {x : Int} {aR aL : Addr} {tw : Tok} {tn : Tok} (hwl : (tx (40 :: (t.txt ++ [41]))).length = t.txt.length + 2)
    (F : Fr s₁.heap s₁.heap.objs.size h m) (N : News s₁.heap s₁.heap.objs.size h led)
    (h1 : m (Str.ofString "root") = some (.ref aR)) (h2 : m (Str.ofString "laid") = some (.ref aL)) (h3 : m (Str.ofString "whole") = some (.str (tx (40 :: (t.txt ++ [41]))) tw))
    (h4 : m (Str.ofString "torn") = some (.int (1 + x.fmod (((tx (40 :: (t.txt ++ [41]))).length : Int) - 1)) tn)) :
    ∃ tw n tn, 1 ≤ n ∧ n ≤ (t.txt.length : Int) + 1 ∧ LP s₁ [(Str.ofString "root", .ref aR), (Str.ofString "laid", .ref aL), (Str.ofString "whole", .str (tx (40 :: (t.txt ++ [41]))) tw), (Str.ofString "torn", .int n tn)] led { s₁ with heap := h, toks := tk } := by
  have hb := fmod_in (x := x) (m := ((tx (40 :: (t.txt ++ [41]))).length : Int) - 1) (by rw [hwl]; omega)
  refine ⟨tw, 1 + x.fmod (((tx (40 :: (t.txt ++ [41]))).length : Int) - 1), tn, by omega, ?_, lp_of F N ?_⟩
  · rw [hwl] at hb ⊢; omega
  · intro p hp
    simp only [List.mem_cons, List.not_mem_nil, or_false] at hp
    rcases hp with rfl | rfl | rfl | rfl
    · exact h1
    · exact h2
    · exact h3
    · exact h4
def Aft (P : Shared → Prop) (f : Flow) (s' : Shared) : Prop := f = .next ∧ P s'
theorem tri_exec_via {M : Model} {R : Result → Shared → Prop} {A : Around} {E : Value → Shared → Prop} {env : Env} {s : Shared} {st : Stmt} {rest : List Stmt} {Q : Flow → Shared → Prop} (P : Shared → Prop)
    (h1 : wpAny M A (exec st env) (Aft P) (fun _ _ => False) s) (h2 : ∀ s', P s' → Tri M R A (execs rest env) Q E s') : Tri M R A (execs (st :: rest) env) Q E s :=
  tri_exec (wpAny_mono h1 (fun f s' x => by obtain ⟨rfl, hp⟩ := x; exact h2 s' hp) fun _ _ x => x)
structure LSt7 where
  k : Nd
  v : Value
  x : List Nat
  tk : Tok
def LSt7.ps (aR aL : Addr) (c : LSt7) : List (Str × Value) := [(Str.ofString "root", .ref aR), (Str.ofString "laid", .ref aL), (Str.ofString "node", c.v), (Str.ofString "text", .str (tx c.x) c.tk)]
theorem brk7 {s₁ : Shared} {led : List (Addr × Obj)} {h : Heap} {tk : Nat} {m : Str → Option Value} {k : Nd} {aR aL : Addr} {tt : Tok} (ok : k.ok) (hk : ∀ k', k ≠ .bra [k']) (hl : k.txt.length ≤ 332)
    (F : Fr s₁.heap s₁.heap.objs.size h m) (N : News s₁.heap s₁.heap.objs.size h led)
    (h1 : m (Str.ofString "root") = some (.ref aR)) (h2 : m (Str.ofString "laid") = some (.ref aL)) (h3 : m (Str.ofString "text") = some (.str (tx k.txt) tt)) :
    Aft (fun s' => ∃ (k : Nd) (tt : Tok), k.ok ∧ (∀ k', k ≠ .bra [k']) ∧ k.txt.length ≤ 332 ∧ LP s₁ [(Str.ofString "root", .ref aR), (Str.ofString "laid", .ref aL), (Str.ofString "text", .str (tx k.txt) tt)] led s') .next { s₁ with heap := h, toks := tk } := by
  refine And.intro rfl ⟨k, tt, ok, hk, hl, lp_of F N ?_⟩
  intro p hp
  simp only [List.mem_cons, List.not_mem_nil, or_false] at hp
  rcases hp with rfl | rfl | rfl
  · exact h1
  · exact h2
  · exact h3
structure LSt9 where
  kvs : List (Str × Tok)
  n : Nat
theorem once_snoc (xs : List Str) (x : Str) : once (xs ++ [x]) = if (once xs).any (· == x) then once xs else once xs ++ [x] := by
  unfold once
  rw [List.foldl_append]
  rfl
theorem take_snoc {l : List (Str × Tok)} {i : Nat} {p : Str × Tok} (h : l[i]? = some p) : (l.take (i + 1)).map (·.1) = (l.take i).map (·.1) ++ [p.1] := by
  rw [List.take_add_one, h]
  simp
theorem strValues_get {l : List (Str × Tok)} {i : Nat} {v : Value} (h : (strValues l)[i]? = some v) : ∃ p, l[i]? = some p ∧ v = .str p.1 p.2 := by
  unfold strValues at h
  rw [List.getElem?_map] at h
  cases e : l[i]? with
  | none => rw [e] at h; cases h
  | some p => rw [e] at h; exact ⟨p, rfl, (Option.some.inj h).symm⟩
theorem mem_strs {kvs : List (Str × Tok)} {x : Str} : (Dat.str x ∈ kvs.map fun p => Dat.str p.1) ↔ ((kvs.map (·.1)).any (· == x)) = true := by
  simp only [List.mem_map, List.any_eq_true, beq_iff_eq]
  constructor
  · rintro ⟨p, hp, e⟩
    exact ⟨p.1, ⟨p, hp, rfl⟩, by injection e⟩
  · rintro ⟨y, ⟨p, hp, rfl⟩, rfl⟩
    exact ⟨p, hp, rfl⟩
theorem f9_same {kvs : List (Str × Tok)} {l : List (Str × Tok)} {i : Nat} {p : Str × Tok} (hpi : l[i]? = some p) (hin : Dat.str p.1 ∈ kvs.map fun p => Dat.str p.1) (hk : kvs.map (·.1) = once ((l.take i).map (·.1))) :
    kvs.map (·.1) = once ((l.take (i + 1)).map (·.1)) := by
  rw [take_snoc hpi, once_snoc, ← hk, if_pos (mem_strs.mp hin)]
theorem f9_more {kvs : List (Str × Tok)} {l : List (Str × Tok)} {i : Nat} {p : Str × Tok} (hpi : l[i]? = some p) (hin : ¬ (Dat.str p.1 ∈ kvs.map fun p => Dat.str p.1)) (hk : kvs.map (·.1) = once ((l.take i).map (·.1))) :
    (kvs ++ [(p.1, p.2)]).map (·.1) = once ((l.take (i + 1)).map (·.1)) := by
  rw [take_snoc hpi, once_snoc, ← hk, if_neg fun h => hin (mem_strs.mpr h), List.map_append]
  rfl
def LSt7.ok (led : List (Addr × Obj)) (c : LSt7) : Prop := DatIn led c.v c.k.dat ∧ c.k.ok ∧ c.k.count ≤ 13 ∧ c.k.depth ≤ 4 ∧ c.x.length ≤ 400 ∧ sop (tx c.x) = tx c.k.txt
section
variable {prog : Program} {w : World} {A : Around} {E : Value → Shared → Prop} {s : Shared}
theorem typeOf_list_type : typeOf (.type "list") = pure (.type "type") := by first | rfl | kernel_rfl
theorem tuple_no_list : isSubtype (.type "tuple") (.type "list") = pure false := by rw [isSubtype_type]; kernel_rfl
theorem isi_tup_list {a : Addr} {vs : Array Value} {n : Nat} {Q : Value → Shared → Prop} (ho : s.heap.get? a = some ({ cls := .type "tuple", data := .seq vs n } : Obj)) (h : Q (.bool false) { s with toks := s.toks + 1 }) :
    wpAny (model prog w) A (call (.builtin "isinstance") [.ref a, .type "list"]) Q E s := by
  obtain ⟨hp, g, d, t, os⟩ := s
  exact call_isinstance_of (isinstance_nested_false_tuple ho rfl (by decide) typeOf_list_type tuple_no_list h)
theorem len_as {l : Addr} {items : Array Value} {k : Int} {Q : Value → Shared → Prop} (hl : s.heap.IsList l items) (hk : (items.size : Int) = k) (hfit : k < 2 ^ 63)
    (h : Q (.int k (s.toks + 1)) { s with toks := s.toks + 1 + 1 }) : wpAny (model prog w) A (call (.builtin "len") [.ref l]) Q E s := by
  subst hk
  exact len_list hl hfit h
theorem isi_list_list {a : Addr} {vs : Array Value} {n : Nat} {Q : Value → Shared → Prop} (ho : s.heap.get? a = some (W.listOf vs n)) (h : Q (.bool true) s) :
    wpAny (model prog w) A (call (.builtin "isinstance") [.ref a, .type "list"]) Q E s :=
  call_isinstance_yes (Tx := "list") ⟨_, ho, rfl⟩ typeOf_list_type (by rw [isSubtype_type]; kernel_rfl) h
end
section
local macro_rules | `(tactic| walk_at "no such key, one line more") => `(tactic| skip)
local macro_rules | `(tactic| walk_at "call builtin:isinstance") => `(tactic| refine stop_ ?_)
local macro_rules | `(tactic| walk_at "call builtin:len") => `(tactic| ((with_reducible show wpAny _ _ (call (Value.builtin "len") [Value.ref _]) _ _ _); refine stop_ ?_))
local macro_rules | `(tactic| walk_at "subscriptTail") => `(tactic| ((with_reducible show wpAny _ _ (subscriptTail _ _ (Value.ref _) (Value.int _ _)) _ _ _); refine stop_ ?_))
local macro_rules | `(tactic| walk_at "compareOp NotEq ref ref") => `(tactic| refine stop_ ?_)
local macro_rules | `(tactic| walk_at "compareOp Eq ref ref") => `(tactic| refine stop_ ?_)
local macro_rules | `(tactic| walk_at "call ref") => `(tactic| refine stop_ ?_)
local macro_rules | `(tactic| walk_at "exec While") => `(tactic| refine stop_ ?_)
local macro_rules | `(tactic| walk_at "exec For Name Name cons nil") => `(tactic| refine stop_ ?_)
local macro_rules | `(tactic| walk_at "pyIter") => `(tactic| refine stop_ ?_)
local macro_rules | `(tactic| walk_at "pyIter ref") => `(tactic| refine stop_ ?_)
local macro_rules | `(tactic| walk_at "compareOp NotIn") => `(tactic| refine stop_ ?_)
local macro_rules | `(tactic| walk_at "compareOp NotIn str ref") => `(tactic| refine stop_ ?_)
local macro_rules | `(tactic| walk_at "call builtin:list.append") => `(tactic| refine stop_ ?_)
theorem top_holds : PySem.Challenge.rw_bn5032_01.Holds := hd (by
  w_top off
  k_fill
  intro w s₀ s₁ mg mb G Y fa o pm cd doc dV kV ho hd' hcd hD hmg hg args vals as hpre hlay hrd hwl hlo
  have KX := kIn_of Y
  refine Ground.open G ?_
  intro T B D TE TW
  wrow_args hpre hlay hrd hwl hlo
  rename_i ns j1 j2 j3 j4 j5 j6 j7 ax xs j8 hL j9 j10 j11 hI j12 hc j13
  intro R
  dsimp only
  refine tri_callv ?_
  have he := Dflts.none hD rfl
  subst he
  refine codeTri_full (binds := [(Str.ofString "script", .ref ax)]) (by decide) ho hd' (Top.nolimit T) hcd (BindsTo.of_eq rfl) (locs rfl) fun h₁ F => ?_
  have N0 : News s₁.heap s₁.heap.objs.size h₁ [] := News.nil
  have K0 := below_caller s₁.heap
  clear hd' hcd hD ho hmg j1 j2 j3 j4 j5 j9 j10 j11 j12 j13 Y
  refine tri_exec ?_
  k_steps
  unfold Stop
  refine wpAny_call ?_
  refine tr_ok w _ mg mb _ _ _ _ _ _ _ _ _ _ _ ax xs ns hL hI (by omega) K0 F KX N0 T (Around.frames_deeper K0.stack) rfl rfl (by k_dflt ktr_room) rfl ?_
  intro h2 tk2 r aR aL nl l ks tlx F2 N2 hdat hok hcnt hdep hfl hlen
  dsimp only
  k_steps
  rename (Fr s₁.heap s₁.heap.objs.size _ _) => F3
  rename (News s₁.heap s₁.heap.objs.size _ _) => N3
  rw [List.append_nil] at N3
  generalize hled : (r, tupP #[Value.ref aR, Value.ref aL] 0) :: (aL, W.listOf (strValues l).toArray nl) :: tlx = led at N3
  have hdL : DatIn led (.ref aR) (Nd.bra ks).dat := hdat.mono fun p hp => by rw [← hled]; exact .tail _ (.tail _ hp)
  have mL : (aL, W.listOf (strValues l).toArray nl) ∈ led := by rw [← hled]; exact .tail _ (.head _)
  clear hled hdat
  refine tri_exec ?_
  k_steps
  unfold Stop
  refine wpAny_call ?_
  refine ins_ok w _ mg mb 6 (Nd.bra ks) (by omega) _ _ _ _ _ _ _ _ _ _ _ _ hdL hok hcnt K0 F3 KX N3 T (Around.frames_deeper K0.stack) rfl rfl (by k_dflt ktr_room) (units_ok (Nat.le_of_ble_eq_true rfl) hdep) rfl ?_
  intro h4 tk4 tr F4 N4
  have htl : (tx (Nd.bra ks).txt).length ≤ 332 := by have := Nd.txt_len _ hok; rw [tx_len]; omega
  dsimp only
  k_steps
  rename (Fr s₁.heap s₁.heap.objs.size _ _) => F5
  rename (News s₁.heap s₁.heap.objs.size _ _) => N5
  have hW : Str.ofString "(" ++ tx (Nd.bra ks).txt ++ Str.ofString ")" = tx (40 :: ((Nd.bra ks).txt ++ [41])) := by
    have e1 : Str.ofString "(" = tx [40] := by decide +kernel
    have e2 : Str.ofString ")" = tx [41] := by decide +kernel
    rw [e1, e2, tx_append, tx_append]; simp
  rw [hW] at F5
  generalize ht : Nd.bra ks = t at *
  have hwl : (tx (40 :: (t.txt ++ [41]))).length = t.txt.length + 2 := by rw [tx_len]; simp
  have htl' : t.txt.length ≤ 332 := by rw [← tx_len]; exact htl
  have htl2 : (tx (40 :: (t.txt ++ [41]))).length ≤ 334 := by omega
  clear hW
  refine tri_exec ?_
  k_steps
  unfold Stop
  refine wpAny_call ?_
  refine RdC.go (rd_ok w _ mg mb 6 t (by omega)) (pre := [102, 32]) (post := [32, 111, 114, 32, 40, 68, 41]) ?_ rfl hok hcnt ?_ K0 F5 KX N5 T (Around.frames_deeper K0.stack) rfl rfl (by k_dflt ktr_room) (units_ok (Nat.le_of_ble_eq_true rfl) hdep) rfl ?_
  · have e1 : Str.ofString "f " = tx [102, 32] := by decide +kernel
    have e2 : Str.ofString " or (D)" = tx [32, 111, 114, 32, 40, 68, 41] := by decide +kernel
    rw [e1, e2, tx_append, tx_append]
    congr 1
    unfold full
    simp
  · rw [full_len]; simp; omega
  intro h6 tk6 tl vk r2 n2 te F6 N6 hvk hne
  dsimp only
  k_steps
  unfold Stop
  rename (Fr s₁.heap s₁.heap.objs.size _ _) => F7
  rename (News s₁.heap s₁.heap.objs.size _ _) => N7
  have e7 : (((tx (40 :: (t.txt ++ [41]))).length : Int) + 1) = 2 + 1 + t.txt.length := by rw [hwl]; omega
  rw [e7] at N7
  refine tup_ne_same (xs := [vk, .int (2 + 1 + t.txt.length) te]) (ys := [.ref aR, .int (2 + 1 + t.txt.length) _]) (ds := [t.dat, .int (2 + 1 + t.txt.length)]) N7 (.tail _ (.head _))
    (.cons (hvk.mono fun p hp => .tail _ (.tail _ (List.mem_append_left _ hp))) (.cons (.int _ _) .nil)) (.head _)
    (.cons (hdL.mono fun p hp => .tail _ (.tail _ (List.mem_append_right _ hp))) (.cons (.int _ _) .nil)) ?_ (Nat.lt_of_le_of_lt (Nat.le_of_ble_eq_true rfl : _ ≤ 200) (by decide)) ?_
  · intro d hd
    simp only [List.mem_cons, List.not_mem_nil, or_false] at hd
    rcases hd with rfl | rfl
    · exact dat_ok t 8 hok (by omega)
    · rfl
  k_steps
  have N8 : News s₁.heap s₁.heap.objs.size _ led := fun p hp => N7 p (.tail _ (.tail _ (List.mem_append_right _ hp)))
  clear N7 hvk hne e7
  refine tri_exec_via (P := fun s' => ∃ tw n tn, 1 ≤ n ∧ n ≤ (t.txt.length : Int) + 1 ∧ LP s₁ [(Str.ofString "root", .ref aR), (Str.ofString "laid", .ref aL), (Str.ofString "whole", .str (tx (40 :: (t.txt ++ [41]))) tw), (Str.ofString "torn", .int n tn)] led s') ?_ ?_
  · k_steps
    all_goals (refine And.intro rfl ?_; exact torn_P hwl (by assumption) (by assumption) rfl rfl rfl rfl)
  clear F7 N8
  rintro s4 ⟨tw, n, tn, hn1, hn2, h8, tk8, u8, rfl, F8, N8⟩
  have hWl : (40 :: (t.txt ++ [41])).length = t.txt.length + 2 := by simp
  have hcut : Txt.slice (tx (40 :: (t.txt ++ [41]))) none (some n) = tx ((40 :: (t.txt ++ [41])).take n.toNat) := by
    rw [slice_to (by rw [tx_toList, hWl]; omega), tx_toList]
  have hcut40 : (40 :: (t.txt ++ [41])).take n.toNat = 40 :: ((t.txt ++ [41]).take (n.toNat - 1)) := by
    obtain ⟨k, hk⟩ : ∃ k, n.toNat = k + 1 := ⟨n.toNat - 1, by omega⟩
    rw [hk]; rfl
  have hcl : (tx ((40 :: (t.txt ++ [41])).take n.toNat)).length ≤ 1000 ∧ (0 : Int) < (tx ((40 :: (t.txt ++ [41])).take n.toNat)).length := by
    rw [tx_len, List.length_take, hWl]; omega
  refine tri_exec_via (LP s₁ [(Str.ofString "root", .ref aR), (Str.ofString "laid", .ref aL), (Str.ofString "whole", .str (tx (40 :: (t.txt ++ [41]))) tw)] led) ?_ ?_
  · k_steps
    unfold Stop
    refine wpAny_call ?_
    refine fmp w _ mg mb _ _ _ _ _ _ _ _ _ _ _ _ _ 0 0 _ (.inr ⟨rfl, rfl⟩) ?_ (by decide) ?_ ?_ K0 (by assumption) KX (by assumption) T (Around.frames_deeper K0.stack) rfl rfl (by k_dflt ktr_room) ?_
    · rw [hcut]; exact hcl.1
    · rw [hcut]; exact hcl.2
    · rw [hcut, hcut40, item0, q40]
    rw [hcut, tx_toList]
    have e0 : List.drop (Int.toNat 0) ((40 :: (t.txt ++ [41])).take n.toNat) = (40 :: (t.txt ++ [41])).take n.toNat := rfl
    rw [e0, scan_torn hok (by omega)]
    intro h9 tk9 v9 F9 N9 hv9
    have hv9 : v9 = .none := hv9
    subst hv9
    dsimp only
    k_steps
    unfold Stop
    refine wpAny_call ?_
    refine fmp w _ mg mb _ _ _ _ _ _ _ _ _ _ _ _ _ 0 0 _ (.inr ⟨rfl, rfl⟩) (by omega) (by decide) (by rw [hwl]; omega) (by rw [item0, q40]) K0 (by assumption) KX (by assumption) T (Around.frames_deeper K0.stack) rfl rfl (by k_dflt ktr_room) ?_
    rw [tx_toList]
    have e1 : List.drop (Int.toNat 0) (40 :: (t.txt ++ [41])) = 40 :: (t.txt ++ 41 :: []) := rfl
    rw [e1, scan_own t [] 0 hok]
    intro h10 tk10 v10 F10 N10 hv10
    obtain ⟨tv, hv10⟩ : ∃ tv, v10 = .int (0 + 1 + t.txt.length) tv := hv10
    subst hv10
    dsimp only
    k_steps
    · exfalso; omega
    · refine And.intro rfl (lp_of F10 N10 ?_)
      repeat' (first | exact List.forall_mem_nil _ | refine List.forall_mem_cons.mpr ⟨?_, ?_⟩)
      all_goals exact rfl
  clear F8 N8 hcut hcut40 hcl
  rintro s5 ⟨h11, tk11, u11, rfl, F11, N11⟩
  refine tri_exec_via (fun s' => ∃ tn, LP s₁ [(Str.ofString "root", .ref aR), (Str.ofString "laid", .ref aL), (Str.ofString "node", .ref aR), (Str.ofString "text", .str (tx ([9] ++ (40 :: (t.txt ++ [41])) ++ [32, 10])) tn)] led s') ?_ ?_
  · k_steps
    rename (Fr s₁.heap s₁.heap.objs.size _ _) => F12
    rename (News s₁.heap s₁.heap.objs.size _ _) => N12
    have hT : Str.ofString "\t" ++ tx (40 :: (t.txt ++ [41])) ++ Str.ofString " \n" = tx ([9] ++ (40 :: (t.txt ++ [41])) ++ [32, 10]) := by
      have e1 : Str.ofString "\t" = tx [9] := by decide +kernel
      have e2 : Str.ofString " \n" = tx [32, 10] := by decide +kernel
      rw [e1, e2, tx_append, tx_append]
    rw [hT] at F12
    refine' And.intro rfl (Exists.intro _ (lp_of F12 (fun p hp => N12 p (.tail _ hp)) ?hk))
    case hk =>
      repeat' (first | exact List.forall_mem_nil _ | refine List.forall_mem_cons.mpr ⟨?_, ?_⟩)
      all_goals exact rfl
  clear F11 N11
  rintro s6 ⟨tn6, h13, tk13, u13, rfl, F13, N13⟩
  refine tri_exec_via (fun s' => ∃ (k : Nd) (tt : Tok), k.ok ∧ (∀ k', k ≠ .bra [k']) ∧ k.txt.length ≤ 332 ∧ LP s₁ [(Str.ofString "root", .ref aR), (Str.ofString "laid", .ref aL), (Str.ofString "text", .str (tx k.txt) tt)] led s') ?_ ?_
  · k_steps
    unfold Stop
    refine' my_while (LSt7.ps aR aL) (fun _ => led) (LSt7.ok led) (fun c => c.k.depth) ⟨t, .ref aR, _, _⟩ F13 N13 (fun _ h => h) ?hk ?hp ?ht
    case hk =>
      repeat' (first | exact List.forall_mem_nil _ | refine List.forall_mem_cons.mpr ⟨?_, ?_⟩)
      all_goals exact rfl
    case hp =>
      refine ⟨hdL, hok, hcnt, hdep, ?_, sop_layer hok (by simp [sp_facts]) (by simp [sp_facts])⟩
      simp; omega
    case ht =>
      rintro ⟨k, v, x, tkx⟩ u h14 tk14 ⟨hv, kok, kcnt, kdep, hxl, hsop⟩ F14 N14
      dsimp only at hv kok kcnt kdep hxl hsop
      have hxl' : (tx x).length ≤ 400 := by rw [tx_len]; exact hxl
      k_steps
      unfold Stop
      refine wpAny_call ?_
      refine strip_ok w _ mg mb _ _ _ _ _ _ _ _ _ _ _ _ _ (by omega) K0 F14 KX N14 T (Around.frames_deeper K0.stack) rfl rfl (by k_dflt ktr_room) ?_
      rw [hsop]
      intro h15 tk15 t15 F15 N15
      dsimp only
      have hkl : k.txt.length ≤ 332 := by have := Nd.txt_len _ kok; omega
      have hkl' : (tx k.txt).length ≤ 332 := by rw [tx_len]; exact hkl
      clear F14 N14 hsop hxl hxl'
      k_steps
      unfold Stop
      refine wpAny_call ?_
      refine ins_ok w _ mg mb 6 k (by omega) _ _ _ _ _ _ _ _ _ _ _ v hv kok kcnt K0 (by assumption) KX (by assumption) T (Around.frames_deeper K0.stack) rfl rfl (by k_dflt ktr_room) (units_ok (Nat.le_of_ble_eq_true rfl) kdep) rfl ?_
      intro h16 tk16 t16 F16 N16
      dsimp only
      k_steps
      · exact absurd (by assumption : (tx k.txt != tx k.txt) = true) (by simp)
      rename (Fr s₁.heap s₁.heap.objs.size h16 _) => F17
      rename (News s₁.heap s₁.heap.objs.size h16 _) => N17
      cases k with
      | nam ps =>
        rw [Nd.dat] at hv
        cases hv with
        | @tuple a vs n ds hm hr =>
        unfold Stop
        refine isi_tup_list (s := { s₁ with heap := h16, toks := _ }) (N17.get hm) ?_
        k_steps
        exact brk7 kok (by intro k' e; cases e) hkl F17 (by assumption) rfl rfl rfl
      | lit p =>
        rw [Nd.dat] at hv
        cases hv with
        | @tuple a vs n ds hm hr =>
        unfold Stop
        refine isi_tup_list (s := { s₁ with heap := h16, toks := _ }) (N17.get hm) ?_
        k_steps
        exact brk7 kok (by intro k' e; cases e) hkl F17 (by assumption) rfl rfl rfl
      | bra kk =>
        rw [Nd.dat] at hv
        cases hv with
        | @list a vs n ds hm hr =>
        match kk, hr with
        | [], hr =>
          cases hr
          unfold Stop
          refine isi_list_list (s := { s₁ with heap := h16, toks := _ }) (N17.get hm) ?_
          k_steps
          unfold Stop
          refine len_as (k := 0) (s := { s₁ with heap := h16, toks := _ }) (N17.isList hm) rfl (by decide) ?_
          k_steps
          exact brk7 kok (by intro k' e; cases e) hkl F17 (by assumption) rfl rfl rfl
        | [k0], hr =>
          cases hr with
          | cons h1 h2 =>
          cases h2
          unfold Stop
          refine isi_list_list (s := { s₁ with heap := h16, toks := _ }) (N17.get hm) ?_
          k_steps
          unfold Stop
          refine len_as (k := 1) (s := { s₁ with heap := h16, toks := _ }) (N17.isList hm) rfl (by decide) ?_
          k_steps
          unfold Stop
          refine item_litK (s := { s₁ with heap := h16, toks := _ }) (N17.isList hm) (by decide) (by decide) rfl ?_ (by with_unfolding_all rfl)
          k_steps
          rename (Fr s₁.heap s₁.heap.objs.size _ _) => F18
          refine' wpost_go ⟨k0, _, (Nd.bra [k0]).txt, t15⟩ F18 (by assumption) (fun _ h => h) ?hk ?hp ?hm
          case hk =>
            repeat' (first | exact List.forall_mem_nil _ | refine List.forall_mem_cons.mpr ⟨?_, ?_⟩)
            all_goals exact rfl
          case hp =>
            have hc0 : k0.count + 0 + 1 ≤ 13 := kcnt
            have hd0 : max k0.depth 0 + 1 ≤ 4 := kdep
            refine ⟨h1, kok.1, by show k0.count ≤ 13; omega, by show k0.depth ≤ 4; omega, by show (Nd.bra [k0]).txt.length ≤ 400; omega, ?_⟩
            have e : (Nd.bra [k0]).txt = [32] ++ (40 :: (k0.txt ++ [41])) ++ [] := by simp [Nd.txt, Nd.txts, gap]
            show sop (tx (Nd.bra [k0]).txt) = _
            rw [e]
            exact sop_layer kok.1 (by simp [sp_facts]) (by simp)
          case hm =>
            show k0.depth < max k0.depth 0 + 1
            omega
        | k0 :: k1 :: kr, hr =>
          cases hr with
          | cons h1 h2 =>
          cases h2 with
          | @cons v1 vr _ _ h2 h3 =>
          have hvr : vr.length ≤ 13 := by
            have e1 := h3.length
            rw [Nd.dats_length] at e1
            have e2 := Nd.counts_ge kr
            have e3 : k0.count + (k1.count + Nd.counts kr) + 1 ≤ 13 := kcnt
            omega
          rename_i v0
          obtain ⟨kk, hkk, hk2, hk3⟩ : ∃ kk : Int, ((v0 :: v1 :: vr).toArray.size : Int) = kk ∧ 2 ≤ kk ∧ kk < 2 ^ 63 := ⟨_, rfl, by simp; omega, by simp; omega⟩
          unfold Stop
          refine isi_list_list (s := { s₁ with heap := h16, toks := _ }) (N17.get hm) ?_
          k_steps
          unfold Stop
          refine len_as (s := { s₁ with heap := h16, toks := _ }) (N17.isList hm) hkk hk3 ?_
          clear hkk
          k_steps
          · exact brk7 kok (by intro k' e; cases e) hkl F17 (by assumption) rfl rfl rfl
          · exfalso; omega
  clear F13 N13
  rintro s7 ⟨k7, tt7, kok7, kne7, kl7, h17, tk17, u17, rfl, F17, N17⟩
  refine tri_exec_via (fun s' => ∃ aF nF, LP s₁ [(Str.ofString "root", .ref aR), (Str.ofString "laid", .ref aL), (Str.ofString "text", .str (tx k7.txt) tt7), (Str.ofString "first", .ref aF)] ((aF, W.listOf #[] nF) :: led) s' ∧ ∀ p ∈ led, @Ne Nat p.1 aF) ?_ ?_
  · k_steps
    rename (Fr s₁.heap s₁.heap.objs.size _ _) => F18
    rename (News s₁.heap s₁.heap.objs.size _ _) => N18
    refine And.intro rfl ⟨_, 0, lp_of F18 N18 ?_, ?_⟩
    · repeat' (first | exact List.forall_mem_nil _ | refine List.forall_mem_cons.mpr ⟨?_, ?_⟩)
      all_goals exact rfl
    · first
        | exact fun p hp => Nat.ne_of_lt ((by assumption : ∀ p ∈ led, p.1 < _) p hp)
        | exact fun p hp => Nat.ne_of_lt (ktn_ltOf (by assumption) p hp)
  clear F17 N17
  rintro s8 ⟨aF, nF, ⟨h18, tk18, u18, rfl, F18, N18⟩, hneF⟩
  refine tri_exec_via (fun s' => ∃ nF' lF, lF.map (·.1) = once (l.map (·.1)) ∧ lF.length ≤ 36 ∧ (∀ p ∈ lF, PyData.strOk p.1 = true) ∧ LP s₁ [(Str.ofString "root", .ref aR), (Str.ofString "laid", .ref aL), (Str.ofString "text", .str (tx k7.txt) tt7), (Str.ofString "first", .ref aF)] ((aF, W.listOf (strValues lF).toArray nF') :: led) s') ?_ ?_
  · k_steps
    unfold Stop
    refine For_invVF F18 rfl rfl ?_
    k_steps
    unfold Stop
    refine' my_for (σ := LSt9) (ps := fun _ => [(Str.ofString "root", .ref aR), (Str.ofString "laid", .ref aL), (Str.ofString "text", .str (tx k7.txt) tt7), (Str.ofString "first", .ref aF)])
      (Led := fun (c : LSt9) => (aF, W.listOf (strValues c.kvs).toArray c.n) :: led) (P := fun (i : Nat) (c : LSt9) => c.kvs.map (·.1) = once ((l.take i).map (·.1)) ∧ c.kvs.length ≤ i ∧ ∀ p ∈ c.kvs, PyData.strOk p.1 = true) ⟨[], nF⟩ rfl F18 N18 (.tail _ mL) (fun _ h => h) ?hk ?hp ?ht ?hd
    case hk =>
      repeat' (first | exact List.forall_mem_nil _ | refine List.forall_mem_cons.mpr ⟨?_, ?_⟩)
      all_goals exact rfl
    case hp => exact ⟨rfl, Nat.le_refl _, fun p hp => by cases hp⟩
    case hd =>
      rintro ⟨kvs, n9⟩ u h19 tk19 ⟨hk1, hk2, hk3⟩ F19 N19
      have e36 : (strValues l).length = l.length := by simp [strValues]
      dsimp only at hk1 hk2 hk3
      rw [e36] at hk2
      rw [e36, List.take_length] at hk1
      exact And.intro rfl ⟨n9, kvs, hk1, Nat.le_trans hk2 hlen, hk3, h19, tk19, u, rfl, F19, fun q hq => N19 q (.tail _ hq)⟩
    case ht =>
      rintro i v ⟨kvs, n9⟩ u h19 tk19 I oI hvi ⟨hk1, hk2, hk3⟩ F19 N19 hneI
      obtain ⟨p, hpi, rfl⟩ := strValues_get hvi
      dsimp only at hk1 hk2 hk3 F19 N19 hneI
      have hiF : @Ne Nat aF I := hneI _ (.head _)
      have N20 : News s₁.heap s₁.heap.objs.size h19 ((aF, W.listOf (strValues kvs).toArray n9) :: (I, oI) :: led) := fun q hq => by
        rcases List.mem_cons.mp hq with rfl | hq
        · exact N19 _ (.tail _ (.tail _ (.head _)))
        · rcases List.mem_cons.mp hq with rfl | hq
          · exact N19 _ (.head _)
          · exact N19 _ (.tail _ (.tail _ (.tail _ hq)))
      clear N19 F18 N18
      k_steps
      unfold Stop
      have hpo : PyData.strOk p.1 = true := flat_strOk t hok p.1 (by rw [← hfl]; exact List.mem_map_of_mem (List.mem_of_getElem? hpi))
      refine notIn_strs N20 (.head _) hk3 hpo (Nat.lt_of_le_of_lt (Nat.le_of_ble_eq_true rfl : _ ≤ 200) (by decide)) (fun hin => ?_) fun hin => ?_
      · k_steps
        refine' fpost_go (⟨kvs, n9⟩ : LSt9) F19 N20 (.tail _ (.head _)) (.tail _ (.tail _ mL)) ?hl ?hn ?hk ?hp
        case hl => exact List.forall_mem_cons.mpr ⟨.head _, fun q hq => .tail _ (.tail _ hq)⟩
        case hn => exact hneI
        case hk =>
          repeat' (first | exact List.forall_mem_nil _ | refine List.forall_mem_cons.mpr ⟨?_, ?_⟩)
          all_goals exact rfl
        case hp => exact ⟨f9_same hpi hin hk1, Nat.le_succ_of_le hk2, hk3⟩
      · k_steps
        unfold Stop
        have hz9 : (strValues kvs).length < 16777216 := by
          have : i < l.length := (List.getElem?_eq_some_iff.mp hpi).1
          simp only [strValues, List.length_map]; omega
        have hU : Upd aF (W.listOf (strValues kvs).toArray n9) (W.listOf (strValues kvs ++ [Value.str p.1 p.2]).toArray (n9 + 1)) ((aF, W.listOf (strValues kvs).toArray n9) :: (I, oI) :: led) ((aF, W.listOf (strValues kvs ++ [Value.str p.1 p.2]).toArray (n9 + 1)) :: (I, oI) :: led) :=
          upd_at (pre := []) (post := (I, oI) :: led) (fun _ hq => by cases hq) (List.forall_mem_cons.mpr ⟨Ne.symm hiF, hneF⟩)
        refine app_K (s := { s₁ with heap := h19, toks := _ }) F19 N20 hU hz9 fun h20 F20 N21 => ?_
        k_steps
        refine' fpost_go (⟨kvs ++ [(p.1, p.2)], n9 + 1⟩ : LSt9) F20 N21 (.tail _ (.head _)) (.tail _ (.tail _ mL)) ?hl ?hn ?hk ?hp
        case hl =>
          have e : strValues (kvs ++ [(p.1, p.2)]) = strValues kvs ++ [Value.str p.1 p.2] := by simp [strValues]
          refine List.forall_mem_cons.mpr ⟨?_, fun q hq => .tail _ (.tail _ hq)⟩
          dsimp only
          rw [e]
          exact .head _
        case hn => exact List.forall_mem_cons.mpr ⟨hiF, fun q hq => hneI q (.tail _ hq)⟩
        case hk =>
          repeat' (first | exact List.forall_mem_nil _ | refine List.forall_mem_cons.mpr ⟨?_, ?_⟩)
          all_goals exact rfl
        case hp =>
          refine ⟨f9_more hpi hin hk1, ?_, fun q hq => ?_⟩
          · show (kvs ++ [(p.1, p.2)]).length ≤ i + 1
            rw [List.length_append]; simp; omega
          · rcases List.mem_append.mp hq with hq | hq
            · exact hk3 q hq
            · rw [List.mem_singleton.mp hq]; exact hpo
  clear F18 N18
  rintro s9 ⟨nF', lF, hlF, hlF2, hlF3, h21, tk21, u21, rfl, F21, N21⟩
  have hFV : FlatV h21 (.ref aR) t.flat 5 := flatV_of (fun q hq => (N21 q (.tail _ hq)).1) t _ 5 (by omega) hdL
  obtain ⟨vs21, b21, hq21, hf21⟩ : ∃ vs b, Sq h21 aR (List.toArray vs) b ∧ FlatVs h21 vs t.flat 4 := by
    cases hFV with
    | seq b h1 h2 => exact ⟨_, b, h1, h2⟩
  have hl21 : t.flat.length ≤ 1000 := by rw [← hfl, List.length_map]; omega
  refine tri_execs_cons ?_
  refine tri_Assign_Name ?_
  refine tri_Call_Name1 ?_
  refine wpAny_noRaise ?_
  k_steps
  refine tri_callWith_type1 ?_
  refine wpAny_noRaise ?_
  k_steps
  unfold Stop
  refine wpAny_call ?_
  refine flatL_ok w _ mg mb { s₁ with heap := h21, toks := _ } (KX.keeps F21.keep) (T.keeps F21.keep) hg 4 aR vs21 t.flat b21 hq21 hf21 hl21 _ (by k_dflt ktr_room) _ ?_
  intro I h22 tk22 g22 hk22 hlist
  dsimp only
  refine hlist _ R _ _ rfl (Nat.lt_of_le_of_lt (Nat.le_of_ble_eq_true rfl : _ ≤ 500) (by decide)) ?_
  intro S s'' l' c' hk'' hS hSz hl' hgens hos
  have F22 : Fr s₁.heap s₁.heap.objs.size s''.heap _ := F21.keeps hk''
  have hLt : s₁.heap.objs.size < h21.objs.size := F21.ns.lt
  have N22 : News s₁.heap s₁.heap.objs.size s''.heap ((S, W.listOf (strValues l').toArray c') :: (aF, W.listOf (strValues lF).toArray nF') :: led) := fun q hq => by
    rcases List.mem_cons.mp hq with rfl | hq
    · refine ⟨hS, ?_, Heap.get?_none_of_le ?_⟩
      · show @Ne Nat S s₁.heap.objs.size
        have : h21.objs.size ≤ S := hSz
        omega
      · have : h21.objs.size ≤ S := hSz
        show s₁.heap.objs.size ≤ S
        omega
    · exact (N21.grown hk'') q hq
  clear hlist hFV hq21 hf21 F21 N21
  obtain ⟨h23, g23, d23, tk23, o23⟩ := s''
  dsimp only at hk'' hS hgens hos F22 N22
  have htl7 : (tx k7.txt).length ≤ 332 := by rw [tx_len]; exact kl7
  refine wpAny_noRaise ?_
  k_steps
  refine tri_exec ?_
  k_steps
  unfold Stop
  have hT7 : Str.ofString " " ++ tx k7.txt ++ Str.ofString "\n" = tx (32 :: (k7.txt ++ [10])) := by
    have e1 : Str.ofString " " = tx [32] := by decide +kernel
    have e2 : Str.ofString "\n" = tx [10] := by decide +kernel
    rw [e1, e2, tx_append, tx_append]; simp
  refine wpAny_call ?_
  refine strip_ok w _ mg mb _ _ _ _ _ _ _ _ _ _ _ _ _ ?_ K0 (by assumption) KX (by assumption) T (Around.frames_deeper K0.stack) rfl rfl (by k_dflt ktr_room) ?_
  · rw [hT7, tx_len]; simp; omega
  rw [hT7, sop_stays kok7 kne7]
  intro h24 tk24 t24 F24 N24
  dsimp only
  k_steps
  · unfold Stop
    have hs7 : ∀ p ∈ l', PyData.strOk p.1 = true := fun p hp => flat_strOk t hok p.1 (by rw [← hl']; exact List.mem_map_of_mem hp)
    have hl7 : l'.length ≤ 36 := by
      have := congrArg List.length (hl'.trans hfl.symm)
      simp only [List.length_map] at this
      omega
    refine eq_strs (by assumption) (.head _) (.tail _ (.tail _ mL)) hs7 (hl'.trans hfl.symm) (Nat.lt_of_le_of_lt (Nat.le_of_ble_eq_true rfl : _ ≤ 200) (by decide)) ?_
    k_steps
    unfold Stop
    refine wpAny_call ?_
    refine un_ok w _ mg mb _ _ _ _ _ _ _ _ _ _ _ S l' c' (.head _) (by omega) K0 (by assumption) KX (by assumption) T (Around.frames_deeper K0.stack) rfl rfl (by k_dflt ktr_room) rfl ?_
    intro h25 tk25 aU lU cU F25 N25 hltU hlU
    dsimp only
    k_steps
    unfold Stop
    have hsU : ∀ p ∈ lU, PyData.strOk p.1 = true := fun p hp => by
      have h1 : p.1 ∈ lF.map (·.1) := by
        rw [hlF, hfl, ← hl', ← hlU]
        exact List.mem_map_of_mem hp
      obtain ⟨q, hq, e⟩ := List.mem_map.mp h1
      rw [← e]
      exact hlF3 q hq
    refine eq_strs N25 (.head _) (.tail _ (.tail _ (.head _))) hsU (by rw [hlU, hl', hlF, hfl]) (Nat.lt_of_le_of_lt (Nat.le_of_ble_eq_true rfl : _ ≤ 200) (by decide)) ?_
    k_steps
    refine ⟨.inl ⟨.bool true, .bool true, [], rfl, ?_, .bool true, ?_, ?_⟩, .of_keep fun b o e => F25.keep b o e, hos, ?_⟩
    · exact raisesW_false (by wrow_none_raised)
    · exact postW_of (by wrow_shape) (by wtm_val) (by w_fin)
    · exact unshared_nil
    · intro y hy
      obtain ⟨i, hi⟩ := Array.getElem?_of_mem hy
      rw [hgens i y hi]
      rfl
  · exact absurd (by assumption : (tx (32 :: (k7.txt ++ [10])) == Str.ofString " " ++ tx k7.txt ++ Str.ofString "\n") = false) (by rw [hT7]; simp))
end
end Mine
end

theorem PySem.Challenge.cw_bn5032_01_holds : PySem.Challenge.rw_bn5032_01.Holds :=
  Mine.top_holds
