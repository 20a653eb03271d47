import PyProof.Rows.All
import Wide.All
import OpenK.AllK
import Wide.FinOn
import PySem.Challenge.RW_bu5039_01
open PySem PySem.W PySem.Calls PyProof.Rows
set_option Elab.async false
set_option maxRecDepth 100000
set_option maxHeartbeats 8000000
set_option linter.all false
namespace Mine
/-- a guarded yield that the machine takes plainly: builtin proto.yield_from over a generator that nobody watches -/
def Soft (s : Shared) (t : Thread) : Prop :=
  ∃ v l k it rest kw fs b r, t.cur = .yield v true l k ∧ t.code = .builtin "proto.yield_from" ⟨it :: rest, kw⟩ ∧ splitAtGen t.stack = some (fs, b, r) ∧ fs.any Frame.guarded = false ∧ delegateShows s it = false
theorem Soft.same {s₁ s₂ : Shared} {t₁ t₂ : Thread} (hs : s₁.forget = s₂.forget) (ht : t₁.forget = t₂.forget) (h : Soft s₁ t₁) : Soft s₂ t₂ := by
  obtain ⟨v, l, k, it, rest, kw, fs, b, r, h1, h2, h3, h4, h5⟩ := h
  obtain ⟨cur, code, pos, stack⟩ := t₁
  obtain ⟨cur', code', pos', stack'⟩ := t₂
  simp only [Thread.forget, Thread.mk.injEq] at ht
  obtain ⟨rfl, rfl, rfl, hst⟩ := ht
  have e := splitAtGen_forgetAll stack
  rw [hst, splitAtGen_forgetAll, h3] at e
  cases hs' : splitAtGen stack' with
  | none => rw [hs'] at e; cases e
  | some x =>
    obtain ⟨fs', b', r'⟩ := x
    rw [hs'] at e
    simp only [Option.map_some, Option.some.injEq, Prod.mk.injEq] at e
    refine ⟨v, l, k, it, rest, kw, fs', b', r', h1, h2, hs', ?_, ?_⟩
    · rw [← any_guarded_forgetAll, e.1, any_guarded_forgetAll, h4]
    · have q := congrArg Shared.heap hs
      have : s₂.heap = s₁.heap := Eq.symm q
      revert h5
      cases it <;> simp only [delegateShows, this] <;> exact id
/-- one good step -/
def Gs (M : Model) (s : Shared) (t : Thread) (s' : Shared) (t' : Thread) : Prop :=
  stepK M.den M.prog M.w s t = .go s' t' ∧ t.refused = false ∧ (t.loud = false ∨ Soft s t)
inductive Path (M : Model) : Shared → Thread → Shared → Thread → Prop
  | refl {s t} : Path M s t s t
  | step {s t s₁ t₁ s' t'} : Gs M s t s₁ t₁ → Path M s₁ t₁ s' t' → Path M s t s' t'
theorem Path.trans {M : Model} {s t s₁ t₁ s' t'} (a : Path M s t s₁ t₁) (b : Path M s₁ t₁ s' t') : Path M s t s' t' := by
  induction a with
  | refl => exact b
  | step h _ ih => exact .step h (ih b)
theorem Path.one {M : Model} {s t s' t'} (h : Gs M s t s' t') : Path M s t s' t' := .step h .refl
theorem Path.life {M : Model} {s t s' t'} (a : Path M s t s' t') : s'.heap.life = s.heap.life := by
  induction a with
  | refl => rfl
  | @step s t s₁ t₁ s' t' h _ ih =>
    refine ih.trans ?_
    have e := stepK_forget M.den M.prog M.w s t
    rw [h.1] at e
    cases hs : PySem.step M.den M.prog M.w s t with
    | halt o x => rw [hs] at e; cases e
    | go s₂ t₂ =>
      rw [hs] at e
      simp only [Step.forget, Step.go.injEq] at e
      have q := congrArg Shared.heap e.1
      have q : s₁.heap = s₂.heap := q
      rw [q]
      exact step_life _ _ _ _ _ _ _ hs
section
variable (den : Code → Sem Fin) (prog : Program) (w : World)
theorem soft_special {s : Shared} {t : Thread} (h : Soft s t) : t.special = true := by
  obtain ⟨v, l, k, it, rest, kw, fs, b, r, h1, h2, h3, h4, h5⟩ := h
  simp [Thread.special, Thread.yieldsInsideHandler, h1]
theorem soft_lifeStep (others : List Value) {s : Shared} {t : Thread} (h : Soft s t) (hz : s.asleep) : lifeStep den prog w others s t = step den prog w s t := by
  have hsp := soft_special h
  obtain ⟨v, l, k, it, rest, kw, fs, b, r, h1, h2, h3, h4, h5⟩ := h
  obtain ⟨cur, code, pos, stack⟩ := t
  simp only at h1 h2 h3
  subst h1 h2
  have hct : collectorTurn? w.params others s ⟨.yield v true l k, .builtin "proto.yield_from" ⟨it :: rest, kw⟩, pos, stack⟩ = none := rfl
  have hcl : closingShows s fs (.builtin "proto.yield_from" ⟨it :: rest, kw⟩) true = false := by simp [closingShows, h4, h5]
  have hend : Thread.atItsEnd ⟨.yield v true l k, .builtin "proto.yield_from" ⟨it :: rest, kw⟩, pos, stack⟩ = false := rfl
  simp only [lifeStep, hsp, if_true, hct, h3, hcl, hend, Bool.false_and, Bool.false_eq_true, if_false, stepCounting, hz.2]
theorem soft_sstep {s : Shared} {t : Thread} (h : Soft s t) (hz : s.asleep) : sstep den prog w (.single s t) = (step den prog w s t).lift := by
  have hsp := soft_special h
  have hl := fun others => soft_lifeStep den prog w others h hz
  obtain ⟨v, l, k, it, rest, kw, fs, b, r, h1, h2, h3, h4, h5⟩ := h
  obtain ⟨cur, code, pos, stack⟩ := t
  simp only at h1 h2 h3
  subst h1 h2
  have hp : (Config.single s ⟨.yield v true l k, .builtin "proto.yield_from" ⟨it :: rest, kw⟩, pos, stack⟩).pick w = .ok (.run 0, .single s ⟨.yield v true l k, .builtin "proto.yield_from" ⟨it :: rest, kw⟩, pos, stack⟩) := by
    have a1 : (Config.single s ⟨.yield v true l k, .builtin "proto.yield_from" ⟨it :: rest, kw⟩, pos, stack⟩).collect? w.params = none := by
      simp [Config.collect?, Config.single, (nothing_to_collect _ _ _ s _ hz.1).1]
    have a2 : (Config.single s ⟨.yield v true l k, .builtin "proto.yield_from" ⟨it :: rest, kw⟩, pos, stack⟩).collectable = [] := by
      simp [Config.collectable, Config.single, (nothing_to_collect w.params _ _ s _ hz.1).2]
    have a3 : (Config.single s ⟨.yield v true l k, .builtin "proto.yield_from" ⟨it :: rest, kw⟩, pos, stack⟩).moves w.params.profile = [.run 0] := by
      simp [Config.moves, Config.single, movesFrom, Thread.moves, Thread.atomic, Thread.rests, Thread.tells]
    simp only [Config.pick, a1, a2, Config.pickThread, a3]
    cases w.params.lifetimes <;> simp
  simp only [sstep, hp, Config.move]
  simp [Config.run, Config.single, hl, others_single, Thread.finalizes]
  cases hs : step den prog w s ⟨.yield v true l k, .builtin "proto.yield_from" ⟨it :: rest, kw⟩, pos, stack⟩ <;> simp [Step.lift, Config.single]
end
theorem good_sstep {M : Model} {s s₁ s₂ : Shared} {t t₁ t₂ : Thread} (h : Gs M s t s₁ t₁) (hs : s₂.forget = s.forget) (ht : t₂.forget = t.forget) (hz : s₂.asleep) :
    ∃ s₃ t₃, sstep M.den M.prog M.w (.single s₂ t₂) = .go (.single s₃ t₃) ∧ s₃.forget = s₁.forget ∧ t₃.forget = t₁.forget ∧ s₃.asleep := by
  have e : (step M.den M.prog M.w s₂ t₂).forget = (stepK M.den M.prog M.w s t).forget := by
    rw [stepK_forget]; exact step_same _ _ _ hs ht
  rw [h.1] at e
  cases hst : step M.den M.prog M.w s₂ t₂ with
  | halt o x => rw [hst] at e; cases e
  | go s₃ t₃ =>
    rw [hst] at e
    simp only [Step.forget, Step.go.injEq] at e
    refine ⟨s₃, t₃, ?_, e.1, e.2, by simp only [Shared.asleep, step_life _ _ _ _ _ _ _ hst]; exact hz⟩
    have hl : sstep M.den M.prog M.w (.single s₂ t₂) = (step M.den M.prog M.w s₂ t₂).lift := by
      rcases h.2.2 with q | q
      · have hc : t.calm = true := by rw [Thread.calm_eq, q, h.2.1]; rfl
        have hc₂ : t₂.calm = true := by rw [← Thread.calm_forget, ht, Thread.calm_forget]; exact hc
        rcases sstep_single _ _ M.w s₂ t₂ hc₂ hz with r | r
        · exact r
        · rw [hst] at r; cases r
      · exact soft_sstep _ _ _ (q.same hs.symm ht.symm) hz
    rw [hl, hst]; rfl
theorem path_sched {M : Model} {r : Result} {s s' : Shared} {t t' : Thread} (h : Path M s t s' t') : ∀ {c : Code} {p : Pos}, t' = ⟨leafOf r, c, p, []⟩ → leftWithCleanup s'.gens = false →
    ∀ s₂ t₂, s₂.forget = s.forget → t₂.forget = t.forget → s₂.asleep → ∃ n s'', schedN M.den M.prog M.w n (.single s₂ t₂) = .halted (outcomeOf r) s'' ∧ s''.forget = s'.forget := by
  induction h with
  | @refl s t =>
    rintro c p rfl hg s₂ t₂ hs ht hz
    obtain ⟨cur, code, pos, stack⟩ := t₂
    simp only [Thread.forget, forgetAll_nil, Thread.mk.injEq] at ht
    obtain ⟨rfl, rfl, rfl, hst⟩ := ht
    obtain rfl : stack = [] := by cases stack with | nil => rfl | cons a b => cases hst
    have hg₂ : leftWithCleanup s₂.gens = false := by rw [leftWithCleanup_of_forget_eq hs, hg]
    have hstep : step M.den M.prog M.w s₂ ⟨leafOf r, code, pos, []⟩ = .halt (outcomeOf r) s₂ := by
      cases r <;> simp [leafOf, step, finish, hg₂, outcomeOf]
    have hc : Thread.calm ⟨leafOf r, code, pos, []⟩ = true := by cases r <;> rfl
    refine ⟨1, s₂, ?_, hs⟩
    rcases sstep_single M.den M.prog M.w s₂ _ hc hz with q | q
    · simp only [schedN, q, hstep, Step.lift]
    · rw [hstep] at q
      injection q with q1 _
      cases r <;> cases q1
  | @step s t s₁ t₁ s' t' h _ ih =>
    intro c p e hg s₂ t₂ hs ht hz
    obtain ⟨s₃, t₃, a, b, d, z⟩ := good_sstep h hs ht hz
    obtain ⟨n, s'', x, y⟩ := ih e hg s₃ t₃ b d z
    exact ⟨n + 1, s'', by simp only [schedN, a]; exact x, y⟩
theorem Gs.of {M : Model} {s s' : Shared} {t t' : Thread} (h : M.step s t = .go s' t') : Gs M s t s' t' := by
  have hl : t.loud = false := by
    cases q : t.loud with
    | false => rfl
    | true => rw [M.step_loud q] at h; cases h
  rw [M.step_quiet hl] at h
  refine ⟨h, ?_, .inl hl⟩
  cases q : t.refused with
  | false => rfl
  | true => obtain ⟨why, e⟩ := stepK_refused M.den M.prog M.w (s := s) q; rw [e] at h; cases h
/-- a goal that may be met later -/
def UpG (M : Model) (G : Shared → Thread → Prop) : Prop := ∀ s t s' t', Gs M s t s' t' → G s' t' → G s t
theorem up_path (M : Model) (Φ : Shared → Thread → Prop) : UpG M fun s t => ∃ s' t', Path M s t s' t' ∧ Φ s' t' :=
  fun _ _ _ _ h ⟨s', t', p, q⟩ => ⟨s', t', .step h p, q⟩
theorem UpG.by {M : Model} {G : Shared → Thread → Prop} (up : UpG M G) {s t s' t'} (h : M.step s t = .go s' t') (g : G s' t') : G s t := up _ _ _ _ (Gs.of h) g
theorem up_reach {M : Model} {G : Shared → Thread → Prop} (up : UpG M G) {base s t c p pre s' e} (h : Reach M base s t c p pre s' e) :
    (∀ t' c' p' pre', Exits e t' c' p' pre' → G s' ⟨t', c', p', pre' ++ base⟩) → G s ⟨t, c, p, pre ++ base⟩ := by
  induction h with
  | exit hx => intro k; exact k _ _ _ _ hx
  | step hs _ ih => intro k; exact up.by hs (ih k)
/-- the logic of trees over good steps -/
def wpL {α : Type} (M : Model) (A : Around) (t : Sem α) (Q : α → Shared → Prop) (E : Value → Shared → Prop) (s : Shared) : Prop :=
  ∀ G, UpG M G → ∀ (K : α → Sem PySem.Fin) (H : Value → Sem PySem.Fin) gd lv c base p, (Ctx.of c base).In A →
    (∀ a p' s', Q a s' → G s' ⟨K a, c, p', base⟩) → (∀ e p' s', E e s' → G s' ⟨H e, c, p', base⟩) → G s ⟨t.wrap K H gd lv, c, p, base⟩
def codeL (M : Model) (A : Around) (c : Code) (R : Result → Shared → Prop) (s : Shared) : Prop :=
  ∀ G, UpG M G → ∀ base p, (Ctx.of c base).Below A → (∀ r c' p' s', R r s' → G s' ⟨leafOf r, c', p', base⟩) → G s ⟨M.den c, c, p, base⟩
theorem fits_eq {Γ : Ctx} {st : List Frame} (h : Γ.Fits st) : Γ = Ctx.of Γ.code st := by
  obtain ⟨c, a, b, d, e⟩ := Γ
  obtain ⟨h1, h2, h3, h4⟩ := h
  simp only at h1 h2 h3 h4
  subst h1 h2 h3 h4
  rfl
theorem of_ret (c c' : Code) (k h g l p kp) (st : List Frame) : Ctx.of c' (.ret k h g l c p kp :: st) = (Ctx.of c st).enter c' h p :=
  (fits_eq ((Ctx.fits_of c st).enter c' k h g l p kp)).symm
theorem of_gen (c c' : Code) (g k l p) (st : List Frame) : Ctx.of c' (.gen g k l c p :: st) = (Ctx.of c st).wake c' p :=
  (fits_eq ((Ctx.fits_of c st).wake c' g k l p)).symm
section
variable {M : Model} {A : Around} {α β : Type} {E : Value → Shared → Prop} {s : Shared}
theorem up_wp {G : Shared → Thread → Prop} (up : UpG M G) {c : Code} {base : List Frame} (K : α → Sem PySem.Fin) (H : Value → Sem PySem.Fin) (gd : Bool → Bool) (lv : List Value → List Value) (t : Sem α) :
    ∀ {Q : α → Pos → Shared → Prop} {E : Value → Pos → Shared → Prop} {p : Pos} {s : Shared}, Sem.wp M (Ctx.of c base) t Q E p s →
    (∀ a p' s', Q a p' s' → G s' ⟨K a, c, p', base⟩) → (∀ e p' s', E e p' s' → G s' ⟨H e, c, p', base⟩) → G s ⟨t.wrap K H gd lv, c, p, base⟩ := by
  induction t with
  | pure a => intro Q E p s h hQ _; exact hQ a p s h
  | raise x => intro Q E p s h _ hE; exact hE x p s h
  | unsupported what => intro Q E p s h; exact h.elim
  | finish x => intro Q E p s h; exact h.elim
  | register a k => intro Q E p s h; exact h.elim
  | yield v g l k => intro Q E p s h; exact h.elim
  | fork c k => intro Q E p s h; exact h.elim
  | await a f d l k => intro Q E p s h; exact h.elim
  | rule tag k ih => intro Q E p s h hQ hE; exact up.by (step_rule ..) (ih () h hQ hE)
  | «at» p' k ih => intro Q E p s h hQ hE; exact up.by (step_at ..) (ih () h hQ hE)
  | load a part k ih => intro Q E p s h hQ hE; obtain ⟨o, ho, h⟩ := h; exact up.by (step_load _ _ _ _ _ _ _ ho) (ih o h hQ hE)
  | update a part f k ih => intro Q E p s h hQ hE; obtain ⟨ha, h⟩ := h; exact up.by (step_update _ _ _ _ _ _ _ _ ha) (ih () h hQ hE)
  | alloc o k ih => intro Q E p s h hQ hE; exact up.by (step_alloc ..) (ih _ h hQ hE)
  | loadIfAlive a k ih => intro Q E p s h hQ hE; exact up.by (step_loadIfAlive ..) (ih _ h hQ hE)
  | point l k ih => intro Q E p s h hQ hE; exact up.by (step_point ..) (ih () h hQ hE)
  | fresh k ih => intro Q E p s h hQ hE; exact up.by (step_fresh ..) (ih _ h hQ hE)
  | ask k ih => intro Q E p s h hQ hE; exact up.by (step_ask ..) (ih _ h hQ hE)
  | choose src n k ih => intro Q E p s h hQ hE; obtain ⟨hn, h⟩ := h; exact up.by (step_choose _ _ _ _ _ _ _ hn) (ih _ h hQ hE)
  | os q l k ih => intro Q E p s h hQ hE; exact up.by (step_os ..) (ih _ h hQ hE)
  | call c' h g l k ih =>
    intro Q E p s hw hQ hE
    obtain ⟨r, s₁, hret, hw⟩ := hw
    refine up.by (step_call ..) ?_
    have hr := runs_reach hret (.ret (fun x => (k x).wrap K H gd lv) h (gd g) (lv l) c p [] :: base) ((Ctx.fits_of c base).enter c' _ h _ _ p [])
    refine up_reach up (pre := []) hr ?_
    rintro _ _ _ _ ⟨rfl, rfl⟩
    exact up.by (step_leaf_ret ..) (ih r hw hQ hE)
  | handled own k ih =>
    intro Q E p s h hQ hE
    refine up.by (step_handled ..) ?_
    cases own
    · exact ih _ h hQ hE
    · exact ih _ h hQ hE
  | newGen c k ih => intro Q E p s h hQ hE; exact up.by (step_newGen ..) (ih _ h hQ hE)
  | genState g k ih => intro Q E p s h hQ hE; obtain ⟨st, hg, h⟩ := h; exact up.by (step_genState _ _ _ _ _ _ hg) (ih _ h hQ hE)
  | resume g r l k ih =>
    intro Q E p s h hQ hE
    obtain ⟨res, s₁, hwk, h⟩ := h
    have h' := ih res h hQ hE
    unfold Wakes at hwk
    cases hg : s.gens[g]? with
    | none => simp only [hg] at hwk
    | some gs =>
      simp only [hg] at hwk
      cases gs with
      | fresh c₁ =>
        cases r with
        | send v =>
          by_cases hv : v = .none
          · subst hv
            obtain ⟨e₁, s₂, h₁, hq, rfl, rfl⟩ := hwk
            refine up.by (step_resume_fresh _ _ _ _ _ _ _ hg) ?_
            refine up_reach up (pre := []) (runs_reach h₁ _ ((Ctx.fits_of c base).wake c₁ g _ _ p)) ?_
            intro _ _ _ _ hx
            exact up.by (step_exit_gen _ _ _ _ _ _ _ hx hq) h'
          · have : res = .justStarted ∧ s₁ = s := by cases v <;> first | exact absurd rfl hv | exact hwk
            obtain ⟨rfl, rfl⟩ := this
            exact up.by (step_resume_justStarted _ _ _ _ _ _ _ hg hv) h'
        | throw x => obtain ⟨rfl, rfl⟩ := hwk; exact up.by (step_resume_throwFresh _ _ _ _ _ _ _ _ hg) h'
      | suspended k₀ l₀ c₀ p₀ fs cl =>
        obtain ⟨e₁, s₂, h₁, hq, rfl, rfl⟩ := hwk
        refine up.by (step_resume_suspended _ _ _ _ _ _ _ _ hg) ?_
        refine up_reach up (runs_reach h₁ _ ((Ctx.fits_of c base).wake c₀ g _ _ p)) ?_
        intro _ _ _ _ hx
        exact up.by (step_exit_gen _ _ _ _ _ _ _ hx hq) h'
      | running => obtain ⟨rfl, rfl⟩ := hwk; exact up.by (step_resume_running _ _ _ _ _ _ _ _ hg) h'
      | finished => obtain ⟨rfl, rfl⟩ := hwk; exact up.by (step_resume_finished _ _ _ _ _ _ _ _ hg) h'
  | stack k ih => intro Q E p s h hQ hE; exact up.by (step_stack ..) (ih _ h hQ hE)
  | thread k ih => intro Q E p s h hQ hE; exact up.by (step_thread ..) (ih _ h hQ hE)
/-- all that the library knows holds here -/
theorem wpL_of {t : Sem α} {Q : α → Shared → Prop} (h : wpAny M A t Q E s) : wpL M A t Q E s :=
  fun _ up K H gd lv c base p hΓ hQ hE => up_wp up K H gd lv t (h _ p hΓ) hQ hE
theorem codeL_of {c : Code} {R : Result → Shared → Prop} (h : codeAny M A c R s) : codeL M A c R s := by
  intro G up base p hΓ k
  obtain ⟨r, s', hr, hR⟩ := h (Ctx.of c base) p rfl hΓ
  refine up_reach up (pre := []) (runs_reach hr base (Ctx.fits_of c base)) ?_
  rintro _ _ _ _ ⟨rfl, rfl⟩
  exact k _ _ _ _ hR
theorem wpL_mono {t : Sem α} {Q Q' : α → Shared → Prop} {E' : Value → Shared → Prop} (h : wpL M A t Q E s) (hQ : ∀ a s, Q a s → Q' a s) (hE : ∀ e s, E e s → E' e s) : wpL M A t Q' E' s :=
  fun G up K H gd lv c base p hΓ q e => h G up K H gd lv c base p hΓ (fun a p' s' h' => q a p' s' (hQ a s' h')) fun x p' s' h' => e x p' s' (hE x s' h')
theorem codeL_mono {c : Code} {R R' : Result → Shared → Prop} (h : codeL M A c R s) (hR : ∀ r s, R r s → R' r s) : codeL M A c R' s :=
  fun G up base p hΓ k => h G up base p hΓ fun r c' p' s' h' => k r c' p' s' (hR r s' h')
theorem wpL_pure {a : α} {Q : α → Shared → Prop} (h : Q a s) : wpL M A (pure a) Q E s := wpL_of (wpAny_pure h)
theorem wpL_throw {e : Value} {Q : α → Shared → Prop} (h : E e s) : wpL M A (throw e : Sem α) Q E s := wpL_of (wpAny_throw h)
theorem wpL_bind {m : Sem α} {f : α → Sem β} {Q : β → Shared → Prop} (h : wpL M A m (fun a s' => wpL M A (f a) Q E s') E s) : wpL M A (m >>= f) Q E s := by
  intro G up K H gd lv c base p hΓ hQ hE
  rw [Sem.bind_eq_wrap', Sem.wrap_wrap]
  exact h G up _ _ _ _ c base p hΓ (fun a p' s' h' => h' G up K H gd lv c base p' hΓ hQ hE) fun e p' s' h' => hE e p' s' h'
theorem wpL_tryCatch {m : Sem α} {k : Value → Sem α} {Q : α → Shared → Prop} (h : wpL M A m Q (fun e s' => wpL M A (k e) Q E s') s) : wpL M A (Sem.tryCatch m k) Q E s := by
  intro G up K H gd lv c base p hΓ hQ hE
  rw [Sem.tryCatch_eq_wrap, Sem.wrap_wrap]
  exact h G up _ _ _ _ c base p hΓ (fun a p' s' h' => hQ a p' s' h') fun e p' s' h' => h' G up K H gd lv c base p' hΓ hQ hE
theorem wpL_onRaise {m : Sem α} {k : Value → Sem Unit} {Q : α → Shared → Prop} (h : wpL M A m Q (fun e s' => wpL M A (k e) (fun _ s'' => E e s'') E s') s) : wpL M A (m.onRaise k) Q E s := by
  intro G up K H gd lv c base p hΓ hQ hE
  rw [Sem.onRaise_eq_wrap, Sem.wrap_wrap]
  refine h G up _ _ _ _ c base p hΓ (fun a p' s' h' => hQ a p' s' h') fun e p' s' h' => ?_
  show G s' ⟨((k e).bind fun _ => .raise e).wrap K H gd lv, c, p', base⟩
  rw [Sem.bind_eq_wrap, Sem.wrap_wrap]
  exact h' G up _ _ _ _ c base p' hΓ (fun a p' s' h' => hE e p' s' h') fun e p' s' h' => hE e p' s' h'
theorem wpL_attempt {m : Sem α} {Q : Except Value α → Shared → Prop} (h : wpL M A m (fun a => Q (.ok a)) (fun e => Q (.error e)) s) : wpL M A m.attempt Q E s := by
  unfold Sem.attempt
  refine wpL_tryCatch (α := Except Value α) (m := m.bind fun a => .pure (Except.ok a)) (k := fun e => .pure (Except.error e)) ?_
  refine wpL_bind (β := Except Value α) (m := m) (f := fun a => .pure (Except.ok a)) (wpL_mono h (fun a s' h' => wpL_pure h') fun e s' h' => wpL_pure h')
theorem wpL_keep {vs : List Value} {m : Sem α} {Q : α → Shared → Prop} (h : wpL M A m Q E s) : wpL M A (m.keep vs) Q E s := by
  intro G up K H gd lv c base p hΓ hQ hE
  rw [Sem.keep_eq_wrap, Sem.wrap_wrap]
  exact h G up _ _ _ _ c base p hΓ hQ hE
theorem wpL_holding {vs : List Value} {m : Sem α} {Q : α → Shared → Prop} (h : wpL M A m Q E s) : wpL M A (holding vs m) Q E s := by
  rw [holding_eq_keep]; exact wpL_keep h
theorem wpL_callNode {c' : Code} {h : Option Value} {g : Bool} {l : List Value} {k : Result → Sem α} {Q : α → Shared → Prop} (hc : codeL M (A.mark h) c' (fun r s' => wpL M A (k r) Q E s') s) (hnb : h ≠ some byPass) :
    wpL M A (.call c' h g l k) Q E s := by
  intro G up K H gd lv c base p hΓ hQ hE
  refine up.by (step_call ..) ?_
  refine hc G up _ p ?_ fun r c₁ p₁ s' h' => ?_
  · rw [of_ret]; exact hΓ.enter c' h p hnb
  · exact up.by (step_leaf_ret ..) (h' G up K H gd lv c base p hΓ hQ hE)
theorem wpL_run {c : Code} {h : Option Value} {Q : Flow → Shared → Prop}
    (hc : codeL M (A.mark h) c (fun r s' => match r with | .ok f => Q f s' | .error e => E e s') s) (hnb : h ≠ some byPass := by intro x; cases x) : wpL M A (run c h) Q E s :=
  wpL_callNode (codeL_mono hc fun r s' h' => by cases r with | ok f => exact wpL_pure h' | error e => exact wpL_throw h') hnb
theorem wpL_runValue {c : Code} {Q : Value → Shared → Prop} (hc : codeL M A c (fun r s' => match r with | .ok (.ret v) => Q v s' | .ok _ => False | .error e => E e s') s) : wpL M A (runValue c) Q E s := by
  unfold runValue
  refine wpL_bind (wpL_run (codeL_mono (show codeL M (A.mark none) c _ s from hc) fun r s' h' => ?_))
  cases r with
  | error e => exact h'
  | ok f => cases f with
    | ret v => exact wpL_pure h'
    | _ => exact h'.elim
theorem wpL_call {f : Value} {pos : List Value} {kw : List (Str × Value)} {Q : Value → Shared → Prop}
    (hc : codeL M A (.call f ⟨pos, kw⟩) (fun r s' => match r with | .ok (.ret v) => Q v s' | .ok _ => False | .error e => E e s') s) : wpL M A (call f pos kw) Q E s := wpL_runValue hc
theorem codeL_of_tree {c : Code} {R : Result → Shared → Prop}
    (h : wpL M (A.under c) (M.den c) (fun fin s' => match fin with | .done f => R (.ok f) s' | .again c' => c'.quiet = true ∧ codeL M A c' R s') (fun e s' => R (.error e) s') s) : codeL M A c R s := by
  intro G up base p hΓ k
  have e : M.den c = (M.den c).wrap .pure .raise id id := by
    have : (M.den c).bind .pure = (M.den c) := by
      generalize M.den c = t
      induction t <;> simp only [Sem.bind, *]
    rw [← Sem.bind_eq_wrap, this]
  rw [e]
  refine h G up _ _ _ _ c base p hΓ.in (fun fin p' s' h' => ?_) fun x p' s' h' => k (.error x) _ _ _ h'
  cases fin with
  | done f => exact k (.ok f) _ _ _ h'
  | again c' => exact up.by (step_again _ _ _ _ _ _ h'.1) (h'.2 G up base p' hΓ k)
end
/-- what a generator promises (mid: up to a yield, fin: up to its end) and what it asks of its consumer (rel: between a yield and the next resumption) -/
structure Prot where
  rel : Shared → Shared → Prop
  mid : Shared → Shared → Prop
  fin : Shared → Shared → Prop
def Plain1 (s : Shared) (c : Code) (b : Bool) : Prop := b = true → ∃ it rest kw, c = .builtin "proto.yield_from" ⟨it :: rest, kw⟩ ∧ delegateShows s it = false
/-- a generator's run from here: yields vs, one after the other, then returns None -/
def Lead (M : Model) (A : Around) (P : Prot) : List Value → Shared → Code → Sem PySem.Fin → List Frame → Shared → Prop
  | [] => fun s₀ c t fs s => ∀ G, UpG M G → ∀ base p, (Ctx.of c base).Woken A → (∀ s' c' p', P.fin s₀ s' → G s' ⟨.pure (.done (.ret .none)), c', p', base⟩) → G s ⟨t, c, p, fs ++ base⟩
  | v :: vs => fun s₀ c t fs s => ∀ G, UpG M G → ∀ base p, (Ctx.of c base).Woken A →
      (∀ s' b l k c' p' fs', splitAtGen fs' = none → fs'.any Frame.guarded = false → Plain1 s' c' b → P.mid s₀ s' → (∀ s'', P.rel s' s'' → Lead M A P vs s'' c' (k (.send .none)) fs' s'') → G s' ⟨.yield v b l k, c', p', fs' ++ base⟩) →
      G s ⟨t, c, p, fs ++ base⟩
def Stop (M : Model) (A : Around) (P : Prot) (G : Shared → Thread → Prop) (base : List Frame) (s₀ : Shared) : List Value → Prop
  | [] => ∀ s' c' p', P.fin s₀ s' → G s' ⟨.pure (.done (.ret .none)), c', p', base⟩
  | v :: vs => ∀ s' b l k c' p' fs', splitAtGen fs' = none → fs'.any Frame.guarded = false → Plain1 s' c' b → P.mid s₀ s' → (∀ s'', P.rel s' s'' → Lead M A P vs s'' c' (k (.send .none)) fs' s'') → G s' ⟨.yield v b l k, c', p', fs' ++ base⟩
theorem lead_iff {M : Model} {A : Around} {P : Prot} {vs : List Value} {s₀ c t fs s} : Lead M A P vs s₀ c t fs s ↔ ∀ G, UpG M G → ∀ base p, (Ctx.of c base).Woken A → Stop M A P G base s₀ vs → G s ⟨t, c, p, fs ++ base⟩ := by
  cases vs <;> rfl
theorem woken_ctx {A : Around} {c : Code} {base : List Frame} (h : (Ctx.of c base).Woken A) (c' : Code) : (Ctx.of c' base).Woken A := h.goto c'
section
variable {M : Model} {A : Around} {P : Prot} {vs : List Value} {s₀ s : Shared} {c : Code} {fs : List Frame}
theorem lead_wrap {α : Type} {m : Sem α} {K : α → Sem PySem.Fin} {H : Value → Sem PySem.Fin} {gd lv}
    (h : wpL M (A.over c fs) m (fun a s' => Lead M A P vs s₀ c (K a) fs s') (fun x s' => Lead M A P vs s₀ c (H x) fs s') s) : Lead M A P vs s₀ c (m.wrap K H gd lv) fs s := by
  rw [lead_iff]
  intro G up base p hΓ k
  refine h G up K H gd lv c (fs ++ base) p ?_ (fun a p' s' h' => lead_iff.mp h' G up base p' hΓ k) fun x p' s' h' => lead_iff.mp h' G up base p' hΓ k
  rw [Ctx.of_append]; exact hΓ.over fs
theorem lead_bind {α : Type} {m : Sem α} {K : α → Sem PySem.Fin}
    (h : wpL M (A.over c fs) m (fun a s' => Lead M A P vs s₀ c (K a) fs s') (fun x s' => Lead M A P vs s₀ c (.raise x) fs s') s) : Lead M A P vs s₀ c (m >>= K) fs s := by
  rw [Sem.bind_eq_wrap']; exact lead_wrap h
theorem lead_at {p' : Pos} {k : Unit → Sem PySem.Fin} (h : Lead M A P vs s₀ c (k ()) fs s) : Lead M A P vs s₀ c (.at p' k) fs s :=
  lead_wrap (m := standAt p') (K := k) (H := .raise) (gd := id) (lv := id) (wpL_of (wpAny_standAt h))
theorem lead_point {l : List Value} {k : Unit → Sem PySem.Fin} (h : Lead M A P vs s₀ c (k ()) fs s) : Lead M A P vs s₀ c (.point l k) fs s :=
  lead_wrap (m := point) (K := k) (H := .raise) (gd := id) (lv := fun _ => l) (wpL_of (wpAny_point h))
theorem lead_rule {tag : String} {k : Unit → Sem PySem.Fin} (h : Lead M A P vs s₀ c (k ()) fs s) : Lead M A P vs s₀ c (.rule tag k) fs s :=
  lead_wrap (m := rule tag) (K := k) (H := .raise) (gd := id) (lv := id) (wpL_of (wpAny_rule h))
theorem lead_call {c' : Code} {h g l} {k : Result → Sem PySem.Fin} (hc : ∀ p, Lead M A P vs s₀ c' (M.den c') (.ret k h g l c p [] :: fs) s) : Lead M A P vs s₀ c (.call c' h g l k) fs s := by
  rw [lead_iff]
  intro G up base p hΓ st
  exact up.by (step_call ..) (lead_iff.mp (hc p) G up base p (woken_ctx hΓ c') st)
theorem lead_leaf {k h g l c₁ p₁ kp} (r : Result) (hk : Lead M A P vs s₀ c₁ (k r) fs s) : Lead M A P vs s₀ c (leafOf r) (.ret k h g l c₁ p₁ kp :: fs) s := by
  rw [lead_iff]
  intro G up base p hΓ st
  exact up.by (step_leaf_ret ..) (lead_iff.mp hk G up base p₁ (woken_ctx hΓ c₁) st)
theorem lead_again {c' : Code} (hq : c'.quiet = true) (hc : Lead M A P vs s₀ c' (M.den c') fs s) : Lead M A P vs s₀ c (.pure (.again c')) fs s := by
  rw [lead_iff]
  intro G up base p hΓ st
  exact up.by (step_again _ _ _ _ _ _ hq) (lead_iff.mp hc G up base p (woken_ctx hΓ c') st)
theorem lead_end (h : P.fin s₀ s) : Lead M A P [] s₀ c (.pure (.done (.ret .none))) [] s := fun _ _ _ _ _ k => k _ _ _ h
theorem lead_yield {v b l} {k : Resume → Sem PySem.Fin} (hfs : splitAtGen fs = none) (hfg : fs.any Frame.guarded = false) (hp : Plain1 s c b) (hm : P.mid s₀ s)
    (h : ∀ s'', P.rel s s'' → Lead M A P vs s'' c (k (.send .none)) fs s'') : Lead M A P (v :: vs) s₀ c (.yield v b l k) fs s := by
  intro G up base p _ st
  exact st s b l k c p fs hfs hfg hp hm h
end
/-- where a generator that has not ended stands -/
def GoesL (M : Model) (A : Around) (P : Prot) (vs : List Value) (gs : GenState) (s : Shared) : Prop :=
  match gs with
  | .fresh c => Lead M A P vs s c (M.den c) [] s
  | .suspended k _ c _ fs _ => Lead M A P vs s c (k (.send .none)) fs s
  | _ => False
theorem gs_yield {M : Model} {s : Shared} {v : Value} {b : Bool} {l : List Value} {k : Resume → Sem PySem.Fin} {c' : Code} {p' : Pos} {fs : List Frame} {g : Nat} {k₀ : GenResult → Sem PySem.Fin} {l₀ : List Value} {c₀ : Code} {p₀ : Pos} {base : List Frame}
    (hfs : splitAtGen fs = none) (hfg : fs.any Frame.guarded = false) (hp : Plain1 s c' b) :
    Gs M s ⟨.yield v b l k, c', p', fs ++ .gen g k₀ l₀ c₀ p₀ :: base⟩ (s.setGen g (.suspended k l c' p' fs (b || fs.any Frame.guarded))) ⟨k₀ (.yielded v), c₀, p₀, base⟩ := by
  have hs : splitAtGen (fs ++ .gen g k₀ l₀ c₀ p₀ :: base) = some (fs, (g, k₀, c₀, p₀), base) := by rw [splitAtGen_append_none _ hfs, splitAtGen_gen]; simp
  refine ⟨by simp only [stepK, PySem.step, hs, Shared.setGen], rfl, ?_⟩
  cases b with
  | false => left; rw [Thread.loud_yield v false l k c' p' hs, hfg]; rfl
  | true =>
    right
    obtain ⟨it, rest, kw, e, hd⟩ := hp rfl
    exact ⟨v, l, k, it, rest, kw, fs, _, base, rfl, e, hs, hfg, hd⟩
section
variable {M : Model} {A : Around} {P : Prot} {E : Value → Shared → Prop} {s : Shared} {α : Type} {Q : α → Shared → Prop} {g : Nat} {gs : GenState} {l : List Value} {k : GenResult → Sem α}
theorem wpL_resume_last (hg : s.gens[g]? = some gs) (hgo : GoesL M A P [] gs (s.setGen g .running))
    (h : ∀ s₁, P.fin (s.setGen g .running) s₁ → wpL M A (k (.returned .none)) Q E (s₁.setGen g .finished)) : wpL M A (.resume g (.send .none) l k) Q E s := by
  intro G up K H gd lv c base p hΓ hQ hE
  have fin : ∀ (c₁ : Code) (s' : Shared) (c' : Code) (p' : Pos), P.fin (s.setGen g .running) s' → G s' ⟨.pure (.done (.ret .none)), c', p', .gen g (fun x => (k x).wrap K H gd lv) (lv l) c p :: base⟩ := fun c₁ s' c' p' hf =>
    up.by (step_leaf_gen (M := M) s' c' p' base (.ok (.ret .none)) g _ (lv l) c p) (h s' hf G up K H gd lv c base p hΓ hQ hE)
  cases gs with
  | fresh c₁ =>
    refine up.by (step_resume_fresh _ _ _ _ _ _ _ hg) ?_
    exact hgo G up (.gen g _ _ c p :: base) p (by rw [of_gen]; exact hΓ.wake c₁ p) fun s' c' p' hf => fin c₁ s' c' p' hf
  | suspended k₀ l₀ c₀ p₀ fs₀ cl =>
    refine up.by (step_resume_suspended _ _ _ _ _ _ _ _ hg) ?_
    exact hgo G up (.gen g _ _ c p :: base) p₀ (by rw [of_gen]; exact hΓ.wake c₀ p) fun s' c' p' hf => fin c₀ s' c' p' hf
  | running => exact hgo.elim
  | finished => exact hgo.elim
theorem wpL_resume_next {v : Value} {vs : List Value} (hg : s.gens[g]? = some gs) (hgo : GoesL M A P (v :: vs) gs (s.setGen g .running))
    (h : ∀ s₁ gs', P.mid (s.setGen g .running) s₁ → (∀ s'', P.rel s₁ s'' → GoesL M A P vs gs' s'') → wpL M A (k (.yielded v)) Q E (s₁.setGen g gs')) : wpL M A (.resume g (.send .none) l k) Q E s := by
  intro G up K H gd lv c base p hΓ hQ hE
  have fin : ∀ (s' : Shared) (b : Bool) (l' : List Value) (k' : Resume → Sem PySem.Fin) (c' : Code) (p' : Pos) (fs' : List Frame), splitAtGen fs' = none → fs'.any Frame.guarded = false → Plain1 s' c' b → P.mid (s.setGen g .running) s' →
      (∀ s'', P.rel s' s'' → Lead M A P vs s'' c' (k' (.send .none)) fs' s'') → G s' ⟨.yield v b l' k', c', p', fs' ++ .gen g (fun x => (k x).wrap K H gd lv) (lv l) c p :: base⟩ := fun s' b l' k' c' p' fs' a1 a2 a3 a4 a5 =>
    up _ _ _ _ (gs_yield a1 a2 a3) (h s' (.suspended k' l' c' p' fs' (b || fs'.any Frame.guarded)) a4 a5 G up K H gd lv c base p hΓ hQ hE)
  cases gs with
  | fresh c₁ =>
    refine up.by (step_resume_fresh _ _ _ _ _ _ _ hg) ?_
    exact hgo G up (.gen g _ _ c p :: base) p (by rw [of_gen]; exact hΓ.wake c₁ p) fin
  | suspended k₀ l₀ c₀ p₀ fs₀ cl =>
    refine up.by (step_resume_suspended _ _ _ _ _ _ _ _ hg) ?_
    exact hgo G up (.gen g _ _ c p :: base) p₀ (by rw [of_gen]; exact hΓ.wake c₀ p) fin
  | running => exact hgo.elim
  | finished => exact hgo.elim
end
/-- a generator object, awake; asleep under a delegator -/
def GenAt (h : Heap) (a : Addr) (g : Nat) : Prop := ∃ o nm qn, h.get? a = some o ∧ o.cls = .type "generator" ∧ o.data = .fields #[.int g 0, nm, qn] ∧ (o.slots = #[] ∨ o.slots = #[some (.int 0 0)])
def GenAsleep (h : Heap) (a : Addr) (g : Nat) : Prop := ∃ o nm qn, h.get? a = some o ∧ o.cls = .type "generator" ∧ o.data = .fields #[.int g 0, nm, qn] ∧ o.slots = #[some (.int 1 0)]
theorem GenAt.of {h a g} (x : h.IsGen a g) : GenAt h a g := by
  obtain ⟨o, nm, qn, h1, h2, h3, h4⟩ := x
  exact ⟨o, nm, qn, h1, h2, h3, .inl h4⟩
theorem GenAt.typeIs {s : Shared} {a g} (x : GenAt s.heap a g) : s.TypeIs (.ref a) "generator" := let ⟨o, _, _, ho, hc, _⟩ := x; ⟨o, ho, hc⟩
theorem GenAt.same {h h' : Heap} {a g} (x : GenAt h a g) (e : h'.get? a = h.get? a) : GenAt h' a g := let ⟨o, nm, qn, ho, r⟩ := x; ⟨o, nm, qn, e.trans ho, r⟩
theorem GenAsleep.same {h h' : Heap} {a g} (x : GenAsleep h a g) (e : h'.get? a = h.get? a) : GenAsleep h' a g := let ⟨o, nm, qn, ho, r⟩ := x; ⟨o, nm, qn, e.trans ho, r⟩
section
variable {M : Model} {A : Around} {E : Value → Shared → Prop} {s : Shared} {α : Type}
theorem wpL_weaken {A' : Around} {t : Sem α} {Q : α → Shared → Prop} (hA : ∀ Γ : Ctx, Γ.In A' → Γ.In A) (h : wpL M A t Q E s) : wpL M A' t Q E s :=
  fun G up K H gd lv c base p hΓ q e => h G up K H gd lv c base p (hA _ hΓ) q e
theorem wpAny_genNumber' {a : Addr} {g : Nat} {Q : Nat → Shared → Prop} (hg : GenAt s.heap a g) (h : Q g s) : wpAny M A (Builtin.Generator.genNumber (.ref a)) Q E s := by
  obtain ⟨o, nm, qn, ho, _, hd, hsl⟩ := hg
  unfold Builtin.Generator.genNumber
  refine wpAny_bind (wpAny_load ho ?_)
  rcases hsl with hsl | hsl
  · rw [hsl, hd]
    show wpAny M A (pure ((g : Int).toNat)) Q E s
    rw [Int.toNat_natCast]; exact wpAny_pure h
  · rw [hsl, hd]
    show wpAny M A (pure ((g : Int).toNat)) Q E s
    rw [Int.toNat_natCast]; exact wpAny_pure h
theorem slotL {self : Value} {T : String} {name : Str} {id : String} {args : List Value} {kw : List (Str × Value)} {Q : Option Value → Shared → Prop} (hT : s.TypeIs self T) (h : Slot T name id)
    (hc : wpL M A (call (.builtin id) (self :: args) kw) (fun v => Q (some v)) E s) : wpL M A (callSpecial? self name args kw) Q E s := by
  simp only [callSpecial?]
  refine wpL_bind (wpL_of (wpAny_specialOf hT h.lookup ?_))
  simp only [h.bind]
  exact wpL_holding (wpL_bind (wpL_pure (wpL_bind (wpL_mono hc (fun v s' h' => wpL_pure h') fun _ _ h' => h'))))
end
section
variable {prog : Program} {w : World} {A : Around} {E : Value → Shared → Prop} {s : Shared} {P : Prot}
theorem call_builtinL {id : String} {args : Args} {b : Builtin} {R : Result → Shared → Prop} (hq : plainId id = true) (hb : entryFor table id = some b)
    (h : wpL (model prog w) A.in1 (checkBuiltinCall id args) (fun _ s₁ => wpL (model prog w) A.in1 (b args)
      (fun fin s' => match fin with | .done f => R (.ok f) s' | .again c' => c'.quiet = true ∧ codeL (model prog w) A c' R s') (fun e s' => R (.error e) s') s₁)
      (fun e s' => R (.error e) s') s) : codeL (model prog w) A (.call (.builtin id) args) R s := by
  refine codeL_of_tree ?_
  show wpL _ A.in1 (do checkBuiltinCall id args; again (.builtin id args)) _ _ s
  refine wpL_bind (wpL_mono h (fun _ s₁ h₁ => wpL_pure (And.intro (plainId_quiet hq args) (codeL_of_tree ?_))) fun _ _ h' => h')
  rw [Around.under_plainId hq args]
  show wpL _ _ (match entryFor table id with | some b => b args | none => unsupported ((withoutEnding? id "#data").getD id)) _ _ s₁
  rw [hb]; exact h₁
theorem entryL {T : String} {name : Str} {id : String} {b : Builtin} {self : Value} {rest : List Value} {Q : Value → Shared → Prop} (h : Slot T name id) (hT : s.TypeIs self T) (hb : entryFor table id = some b)
    (hc : wpL (model prog w) A.in1 (b ⟨self :: rest, []⟩) (fun fin s' => ∃ v, fin = .done (.ret v) ∧ Q v s') E s) (ha : argsOk id ⟨self :: rest, []⟩) : wpL (model prog w) A (call (.builtin id) (self :: rest)) Q E s := by
  refine wpL_call (call_builtinL h.plain hb (wpL_of (h.check _ _ _ _ _ _ _ _ hT ha (wpL_mono hc (fun fin s' h' => ?_) fun _ _ h' => h'))))
  obtain ⟨v, rfl, hv⟩ := h'; exact hv
/-- the next of a generator that yields once more -/
theorem next_some {a : Addr} {g : Nat} {gs : GenState} {v : Value} {vs : List Value} {Q : Option Value → Shared → Prop} (hl : s.heap.NoLimit) (hroom : A.depth < recursionLimit)
    (hg : GenAt s.heap a g) (hgs : s.gens[g]? = some gs) (hgo : GoesL (model prog w) A.in1 P (v :: vs) gs (s.setGen g .running))
    (h : ∀ s₁ gs', P.mid (s.setGen g .running) s₁ → (∀ s'', P.rel s₁ s'' → GoesL (model prog w) A.in1 P vs gs' s'') → Q (some v) (s₁.setGen g gs')) :
    wpL (model prog w) A (callSpecial? (.ref a) (Str.ofString "__next__")) Q E s := by
  refine slotL hg.typeIs slot_gen_next (entryL slot_gen_next hg.typeIs entry_gen_next ?_ (args_gen_next _))
  show wpL _ _ (Builtin.Generator.genWake (.ref a) (.send .none)) _ _ s
  unfold Builtin.Generator.genWake
  refine wpL_bind (wpL_of (wpAny_holding (wpAny_genNumber' hg ?_)))
  refine wpL_bind (wpL_of (wpAny_genState hgs ?_))
  cases gs with
  | running => exact hgo.elim
  | finished => exact hgo.elim
  | _ =>
    refine wpL_bind (wpL_of (wpAny_roomToWake hl hroom ?_))
    show wpL _ _ (.resume g (.send .none) [] _) _ _ s
    refine wpL_resume_next hgs hgo fun s₁ gs' hm hr => ?_
    exact wpL_pure ⟨v, rfl, h s₁ gs' hm hr⟩
/-- the next of a generator that is at its end -/
theorem next_none {a : Addr} {g : Nat} {gs : GenState} {Q : Option Value → Shared → Prop} (hh : A.handled = none) (hl : s.heap.NoLimit) (hroom : A.depth < recursionLimit)
    (hg : GenAt s.heap a g) (hgs : s.gens[g]? = some gs) (hgo : GoesL (model prog w) A.in1 P [] gs (s.setGen g .running))
    (h : ∀ s₁ e o h' tk, P.fin (s.setGen g .running) s₁ → s₁.heap.StaysIn h' → h'.get? e = some o → o.cls = .type "StopIteration" → o.data = .fields (#[.ref s₁.heap.objs.size, .none, .none, .none, .bool false, .none] ++ ownMembersOf (.type "StopIteration") []) →
      E (.ref e) { s₁.setGen g .finished with heap := h', toks := tk }) :
    wpL (model prog w) A (callSpecial? (.ref a) (Str.ofString "__next__")) Q E s := by
  refine slotL hg.typeIs slot_gen_next (entryL slot_gen_next hg.typeIs entry_gen_next ?_ (args_gen_next _))
  show wpL _ _ (Builtin.Generator.genWake (.ref a) (.send .none)) _ _ s
  unfold Builtin.Generator.genWake
  refine wpL_bind (wpL_of (wpAny_holding (wpAny_genNumber' hg ?_)))
  refine wpL_bind (wpL_of (wpAny_genState hgs ?_))
  cases gs with
  | running => exact hgo.elim
  | finished => exact hgo.elim
  | _ =>
    refine wpL_bind (wpL_of (wpAny_roomToWake hl hroom ?_))
    show wpL _ _ (.resume g (.send .none) [] _) _ _ s
    refine wpL_resume_last hgs hgo fun s₁ hf => ?_
    show wpL _ _ (newExc (.type "StopIteration") [] >>= _) _ _ _
    refine wpL_of ?_
    refine wpAny_bind ?_
    simp only [newExc, newTuple]
    refine wpAny_bind (wpAny_newObj_type ?_ (by size_fits))
    refine wpAny_bind (m := firstArgMember _ _) (wpAny_of_eq (a := Value.none) (by first | rfl | (simp only [firstArgMember]; rfl)) ?_)
    refine wpAny_newObj_type ?_ (by size_fits)
    simp only [raiseNew]
    refine wpAny_bind (wpAny_bind (wpAny_handled ?_))
    rw [show A.in1.handled = none from hh]
    refine wpAny_throw ?_
    refine h s₁ _ _ _ _ hf (fun b o hb => Heap.get?_push_of_some _ (Heap.get?_push_of_some _ hb)) (Heap.get?_push_size _ rfl) rfl rfl
end
/-- what every run leaves as it was: the watched set; and a heap never shrinks -/
def Grew (s s' : Shared) : Prop := s'.heap.life = s.heap.life ∧ s.heap.objs.size ≤ s'.heap.objs.size
theorem Grew.refl (s : Shared) : Grew s s := ⟨rfl, Nat.le_refl _⟩
theorem Grew.trans {s s' s'' : Shared} (a : Grew s s') (b : Grew s' s'') : Grew s s'' := ⟨b.1.trans a.1, Nat.le_trans a.2 b.2⟩
theorem update_size (h : Heap) (a : Addr) (f : Obj → Obj) : (h.update a f).objs.size = h.objs.size := by cases h; simp [Heap.update]
theorem gs_grew {M : Model} {s s' : Shared} {t t' : Thread} (h : Gs M s t s' t') : Grew s s' := by
  refine ⟨(Path.one h).life, ?_⟩
  have e := stepK_forget M.den M.prog M.w s t
  rw [h.1] at e
  cases hs : PySem.step M.den M.prog M.w s t with
  | halt o x => rw [hs] at e; cases e
  | go s₂ t₂ =>
    rw [hs] at e
    simp only [Step.forget, Step.go.injEq] at e
    have q := congrArg Shared.heap e.1
    have q : s'.heap = s₂.heap := q
    rw [q, step_heap _ _ _ _ _ _ _ hs]
    split
    · rw [update_size]; exact Nat.le_refl _
    · rw [Heap.size_push]; exact Nat.le_succ _
    · exact Nat.le_refl _
section
variable {M : Model} {A : Around} {E : Value → Shared → Prop} {s : Shared} {α : Type}
theorem wpL_life {t : Sem α} {Q : α → Shared → Prop} (h : wpL M A t Q E s) : wpL M A t (fun a s' => Q a s' ∧ Grew s s') (fun e s' => E e s' ∧ Grew s s') s := by
  intro G up K H gd lv c base p hΓ q e
  exact h (fun s' t' => Grew s s' → G s' t') (fun s₁ t₁ s₂ t₂ hg k hl => up _ _ _ _ hg (k (hl.trans (gs_grew hg)))) K H gd lv c base p hΓ
    (fun a p' s' hq hl => q a p' s' ⟨hq, hl⟩) (fun x p' s' hq hl => e x p' s' ⟨hq, hl⟩) (Grew.refl s)
theorem lead_weaken {A' : Around} {P : Prot} (hA : ∀ Γ : Ctx, Γ.Woken A' → Γ.Woken A) : ∀ (vs : List Value) (s₀ : Shared) (c : Code) (t : Sem PySem.Fin) (fs : List Frame) (s : Shared), Lead M A P vs s₀ c t fs s → Lead M A' P vs s₀ c t fs s
  | [], s₀, c, t, fs, s, h => fun G up base p hΓ k => h G up base p (hA _ hΓ) k
  | v :: vs, s₀, c, t, fs, s, h => fun G up base p hΓ k => h G up base p (hA _ hΓ) fun s' b l k' c' p' fs' a1 a2 a3 a4 a5 => k s' b l k' c' p' fs' a1 a2 a3 a4 fun s'' hr => lead_weaken hA vs s'' c' _ fs' s'' (a5 s'' hr)
theorem goes_weaken {A' : Around} {P : Prot} {vs : List Value} {gs : GenState} (hA : ∀ Γ : Ctx, Γ.Woken A' → Γ.Woken A) (h : GoesL M A P vs gs s) : GoesL M A' P vs gs s := by
  cases gs with
  | fresh c => exact lead_weaken hA _ _ _ _ _ _ h
  | suspended k l c p fs cl => exact lead_weaken hA _ _ _ _ _ _ h
  | running => exact h
  | finished => exact h
end
structure GP where
  a : Addr
  g : Nat
  hid : Addr → Prop
def Mid (x : GP) (s s' : Shared) : Prop :=
  (∀ b o, s.heap.get? b = some o → (b < x.a ∨ x.hid b) → s'.heap.get? b = some o) ∧ (∀ i, i < x.g → s'.gens[i]? = s.gens[i]?) ∧ s.gens.size ≤ s'.gens.size ∧ s'.os = s.os ∧ s'.drawn = s.drawn ∧ Grew s s'
def AllFin (g : Nat) (s : Shared) : Prop := ∀ i z, g < i → s.gens[i]? = some z → z = .finished
def Rel (x : GP) (s s' : Shared) : Prop :=
  (∀ b o, s.heap.get? b = some o → ¬ x.hid b → s'.heap.get? b = some o) ∧ (∀ i, x.g < i → s'.gens[i]? = s.gens[i]?) ∧ Grew s s' ∧ s.gens.size ≤ s'.gens.size
def GP.prot (x : GP) : Prot := ⟨Rel x, Mid x, fun s s' => Mid x s s' ∧ AllFin x.g s'⟩
theorem Mid.refl (x : GP) (s : Shared) : Mid x s s := ⟨fun _ _ e _ => e, fun _ _ => rfl, Nat.le_refl _, rfl, rfl, Grew.refl s⟩
theorem Mid.trans {x : GP} {s s' s'' : Shared} (a : Mid x s s') (b : Mid x s' s'') : Mid x s s'' :=
  ⟨fun c o e h => b.1 c o (a.1 c o e h) h, fun i h => (b.2.1 i h).trans (a.2.1 i h), Nat.le_trans a.2.2.1 b.2.2.1, b.2.2.2.1.trans a.2.2.2.1, b.2.2.2.2.1.trans a.2.2.2.2.1, a.2.2.2.2.2.trans b.2.2.2.2.2⟩
theorem setGen_get {s : Shared} {g i : Nat} {z : GenState} (h : i ≠ g) : (s.setGen g z).gens[i]? = s.gens[i]? := by
  simp only [Shared.setGen, Array.getElem?_setIfInBounds, Ne.symm h, if_false]
theorem setGen_self {s : Shared} {g : Nat} {z : GenState} (h : g < s.gens.size) : (s.setGen g z).gens[g]? = some z := by
  simp only [Shared.setGen, Array.getElem?_setIfInBounds, if_true, h]
theorem setGen_size {s : Shared} {g : Nat} {z : GenState} : (s.setGen g z).gens.size = s.gens.size := by simp [Shared.setGen]
theorem Mid.setGen {x : GP} {s s' : Shared} {g : Nat} {z : GenState} (h : Mid x s s') (hg : x.g ≤ g) : Mid x s (s'.setGen g z) :=
  ⟨h.1, fun i hi => by rw [setGen_get (by omega)]; exact h.2.1 i hi, by rw [setGen_size]; exact h.2.2.1, h.2.2.2.1, h.2.2.2.2.1, h.2.2.2.2.2⟩
theorem nolimit_at {h h' : Heap} (x : h.NoLimit) (k : ∀ o, h.get? cStatics = some o → h'.get? cStatics = some o) : h'.NoLimit :=
  let ⟨mc, ⟨o, es, ep, ho, r⟩, q⟩ := x; ⟨mc, ⟨o, es, ep, k _ ho, r⟩, q⟩
section
variable {M : Model} {A : Around} {E : Value → Shared → Prop} {s : Shared}
def sleepFn (n : Int) (o : Obj) : Obj := { o with slots := (o.slots ++ Array.replicate (0 + 1 - o.slots.size) none).setIfInBounds 0 (some (rawInt n)) }
theorem slept_on {it : Addr} {g : Nat} {Q : Unit → Shared → Prop} (hg : GenAt s.heap it g) (h : GenAsleep (s.heap.update it (sleepFn 1)) it g → Q () { s with heap := s.heap.update it (sleepFn 1) }) :
    wpAny M A (Builtin.Generator.sleptOver (.ref it) true) Q E s := by
  obtain ⟨o, nm, qn, ho, hc, hd, hsl⟩ := hg
  unfold Builtin.Generator.sleptOver
  refine wpAny_bind (wpAny_load ho ?_)
  rw [hc]
  have key : GenAsleep (s.heap.update it (sleepFn 1)) it g := by
    refine ⟨sleepFn 1 o, nm, qn, Heap.get?_update_self _ ho (Obj.isFreed_of_fields hd), hc, hd, ?_⟩
    rcases hsl with hsl | hsl <;> (unfold sleepFn; rw [hsl]; rfl)
  rcases hsl with hsl | hsl
  · rw [hsl]
    exact wpAny_updatePart ho (h key)
  · rw [hsl]
    exact wpAny_updatePart ho (h key)
theorem slept_off {it : Addr} {g : Nat} {Q : Unit → Shared → Prop} (hg : GenAsleep s.heap it g) (h : GenAt (s.heap.update it (sleepFn 0)) it g → Q () { s with heap := s.heap.update it (sleepFn 0) }) :
    wpAny M A (Builtin.Generator.sleptOver (.ref it) false) Q E s := by
  obtain ⟨o, nm, qn, ho, hc, hd, hsl⟩ := hg
  unfold Builtin.Generator.sleptOver
  refine wpAny_bind (wpAny_load ho ?_)
  rw [hc]
  have key : GenAt (s.heap.update it (sleepFn 0)) it g := by
    refine ⟨sleepFn 0 o, nm, qn, Heap.get?_update_self _ ho (Obj.isFreed_of_fields hd), hc, hd, .inr ?_⟩
    unfold sleepFn; rw [hsl]; rfl
  rw [hsl]
  exact wpAny_updatePart ho (h key)
end
theorem close_of_gen : typeLookup (.type "generator") "close" = pure (some (.builtin "generator.close")) := by rw [typeLookup_type, builtinLookup_eq_fast]; kernel_rfl
theorem entry_yf : entryFor table "proto.yield_from" = some Builtin.«proto.yield_from» := entryFor_of_fast (by kernel_rfl)
theorem plain_yf : plainId "proto.yield_from" = true := by decide +kernel
section
variable {prog : Program} {w : World}
abbrev yfCode (it : Addr) : Code := .builtin "proto.yield_from" ⟨[.ref it, .bool false, .none], []⟩
/-- from where a delegation began to a later place: what is the outer generator's own is as it was -/
structure OwnK (x : GP) (lim it : Nat) (gl : Nat) (σ s : Shared) : Prop where
  heap : ∀ b o, σ.heap.get? b = some o → ¬ x.hid b → b < lim → b ≠ it → s.heap.get? b = some o
  gens : ∀ i, x.g < i → i < gl → s.gens[i]? = σ.gens[i]?
  grew : Grew σ s
theorem sub_stop : isSubtype (.type "StopIteration") (.type "StopIteration") = pure true := isSubtype_stop
theorem typ_stop : typeOf (.type "StopIteration") = pure (.type "type") := by kernel_rfl
theorem den_builtin {id : String} {args : Args} {b : Builtin} (hb : entryFor table id = some b) : (model prog w).den (.builtin id args) = b args := by
  show (match entryFor table id with | some b => b args | none => unsupported ((withoutEnding? id "#data").getD id)) = _
  rw [hb]
theorem yf_den (it : Addr) : (model prog w).den (yfCode it) = Builtin.«proto.yield_from» ⟨[.ref it, .bool false, .none], []⟩ := den_builtin entry_yf
theorem lead_yf {x y : GP} {A A₁ : Around} {it : Addr} {k : Result → Sem PySem.Fin} {l : List Value} {c : Code} {p : Pos} {kp : List Value} {fs : List Frame} {ws : List Value} {σ : Shared}
    (hA : ∀ Γ : Ctx, Γ.In (A.over (yfCode it) (.ret k none false l c p kp :: fs)) → Γ.In A₁) (hh : A₁.handled = none) (hroom : A₁.depth < recursionLimit)
    (hfs : splitAtGen fs = none) (hfg : fs.any Frame.guarded = false) (hxy : x.g < y.g) (hxa : x.a ≤ y.a) (hxi : x.a ≤ it) (hid : ∀ b, y.hid b ↔ (x.hid b ∨ b = it)) (hni : ¬ x.hid it)
    (hl : σ.heap.NoLimit) (hcs : ¬ x.hid cStatics) (hcl : cStatics < y.a) (hci : cStatics ≠ it) (hlife : σ.heap.life.registered = [])
    (hfin : ∀ i z, x.g < i → i < y.g → σ.gens[i]? = some z → z = .finished)
    (hk : ∀ s₀ s, Mid x s₀ s → OwnK x y.a it y.g σ s → AllFin x.g s → y.g < s.gens.size → Lead (model prog w) A x.prot ws s₀ c (k (.ok (.ret .none))) fs s) :
    ∀ (vs : List Value) (gs : GenState) (s₀ s : Shared), Mid x s₀ s → OwnK x y.a it y.g σ s → GenAt s.heap it y.g → s.gens[y.g]? = some gs → GoesL (model prog w) A₁.in1 y.prot vs gs (s.setGen y.g .running) →
      Lead (model prog w) A x.prot (vs ++ ws) s₀ (yfCode it) ((model prog w).den (yfCode it)) (.ret k none false l c p kp :: fs) s := by
  intro vs
  induction vs with
  | nil =>
    intro gs s₀ s hm ho hg hgs hgo
    have hgl : y.g < s.gens.size := by
      cases Nat.lt_or_ge y.g s.gens.size with
      | inl q => exact q
      | inr q => rw [Array.getElem?_eq_none q] at hgs; cases hgs
    have hl' : s.heap.NoLimit := nolimit_at hl fun o e => ho.heap _ _ e hcs hcl hci
    rw [yf_den]
    unfold Builtin.«proto.yield_from»
    dsimp only
    refine lead_bind (wpL_pure ?_)
    simp only [Bool.false_eq_true, if_false, beq_self_eq_true, if_true]
    refine lead_bind (wpL_weaken hA (wpL_attempt (wpL_holding (wpL_bind (wpL_of (wpAny_rule (wpL_bind (wpL_mono (wpL_life (next_none (E := fun e s' => ∃ s₁ e' o h' tk, e = .ref e' ∧ s' = { s₁.setGen y.g .finished with heap := h', toks := tk } ∧ y.prot.fin (s.setGen y.g .running) s₁ ∧ s₁.heap.StaysIn h' ∧ h'.get? e' = some o ∧ o.cls = .type "StopIteration" ∧
      o.data = .fields (#[.ref s₁.heap.objs.size, .none, .none, .none, .bool false, .none] ++ ownMembersOf (.type "StopIteration") []))
      (Q := fun _ _ => False) hh hl' hroom hg hgs hgo fun s₁ e o h' tk a1 a2 a3 a4 a5 => ⟨s₁, e, o, h', tk, rfl, rfl, a1, a2, a3, a4, a5⟩)) (fun _ _ q => q.1.elim) ?_))))))))
    rintro e s' ⟨⟨s₁, e', o, h', tk, rfl, rfl, hf, hst, he, hc, hd⟩, hlf⟩
    dsimp only
    refine lead_bind (wpL_of ?_)
    unfold Builtin.Generator.endsTheTurnAsAValue Builtin.Generator.isStopAndMetaclass
    refine wpAny_bind (wpAny_bind (wpAny_typeOf (T := "StopIteration") ⟨o, he, hc⟩ ?_))
    dsimp only
    refine wpAny_bind (wpAny_of_eq sub_stop (wpAny_bind ?_))
    refine wpAny_of_eq (a := .type "type") typ_stop (wpAny_pure ?_)
    simp only [Bool.false_eq_true, if_false]
    refine wpAny_pure ?_
    simp only [if_true]
    refine lead_bind (wpL_of (wpAny_rule ?_))
    refine lead_bind (wpL_of (wpAny_field he hd (x := .none) rfl ?_))
    show Lead _ A x.prot _ s₀ (yfCode it) (leafOf (.ok (.ret .none))) _ _
    refine lead_leaf _ (hk _ _ ?_ ?_ ?_ (by show y.g < (s₁.setGen y.g .finished).gens.size; rw [setGen_size]; have := hf.1.2.2.1; rw [setGen_size] at this; omega))
    · obtain ⟨hm', hf'⟩ := hf
      have q := hm'.setGen (z := .finished) (Nat.le_refl y.g)
      refine ⟨fun b o e hb => hst _ _ (hm'.1 b o (hm.1 b o e hb) ?_), fun i hi => ?_, ?_, hm'.2.2.2.1.trans hm.2.2.2.1, hm'.2.2.2.2.1.trans hm.2.2.2.2.1, hm.2.2.2.2.2.trans hlf⟩
      · rcases hb with hb | hb
        · exact .inl (Nat.lt_of_lt_of_le hb hxa)
        · exact .inr ((hid b).mpr (.inl hb))
      · refine ((q.2.1 i (by omega)).trans (setGen_get (by omega))).trans (hm.2.1 i hi)
      · have := q.2.2.1
        rw [setGen_size] at this
        exact Nat.le_trans hm.2.2.1 this
    · obtain ⟨hm', hf'⟩ := hf
      have q := hm'.setGen (z := .finished) (Nat.le_refl y.g)
      refine ⟨fun b o e h1 h2 h3 => hst _ _ (hm'.1 b o (ho.heap b o e h1 h2 h3) (.inl h2)), fun i h1 h2 => ?_, ho.grew.trans hlf⟩
      exact ((q.2.1 i h2).trans (setGen_get (by omega))).trans (ho.gens i h1 h2)
    · obtain ⟨hm', hf'⟩ := hf
      intro i z h1 h2
      have h2 : (s₁.setGen y.g .finished).gens[i]? = some z := h2
      have q := hm'.setGen (z := .finished) (Nat.le_refl y.g)
      rcases Nat.lt_trichotomy i y.g with h3 | h3 | h3
      · exact hfin i z h1 h3 ((ho.gens i h1 h3).symm.trans ((((q.2.1 i h3).trans (setGen_get (by omega))).symm).trans h2))
      · subst h3
        have : y.g < s₁.gens.size := by have := hm'.2.2.1; rw [setGen_size] at this; omega
        rw [setGen_self this] at h2
        exact (Option.some.inj h2).symm
      · rw [setGen_get (by omega)] at h2
        exact hf' i z h3 h2
  | cons v vs ih =>
    intro gs s₀ s hm ho hg hgs hgo
    have hgl : y.g < s.gens.size := by
      cases Nat.lt_or_ge y.g s.gens.size with
      | inl q => exact q
      | inr q => rw [Array.getElem?_eq_none q] at hgs; cases hgs
    have hl' : s.heap.NoLimit := nolimit_at hl fun o e => ho.heap _ _ e hcs hcl hci
    rw [yf_den]
    unfold Builtin.«proto.yield_from»
    dsimp only
    refine lead_bind (wpL_pure ?_)
    simp only [Bool.false_eq_true, if_false, beq_self_eq_true, if_true]
    refine lead_bind (wpL_weaken hA (wpL_attempt (wpL_holding (wpL_bind (wpL_of (wpAny_rule (wpL_bind (wpL_mono (next_some (Q := fun r s' => ∃ s₁ gs', r = some v ∧ s' = s₁.setGen y.g gs' ∧ Mid y (s.setGen y.g .running) s₁ ∧ ∀ s'', Rel y s₁ s'' → GoesL (model prog w) A₁.in1 y.prot vs gs' s'')
      (E := fun _ _ => False) hl' hroom hg hgs hgo fun s₁ gs' a1 a2 => ⟨s₁, gs', rfl, rfl, a1, a2⟩) ?_ (fun _ _ q => q.elim)))))))))
    rintro r s' ⟨s₁, gs', rfl, rfl, hm', hr⟩
    refine wpL_pure ?_
    dsimp only
    have hgl₁ : y.g < s₁.gens.size := by have := hm'.2.2.1; rw [setGen_size] at this; omega
    have q := hm'.setGen (z := gs') (Nat.le_refl y.g)
    have hgit : ∀ o, s.heap.get? it = some o → s₁.heap.get? it = some o := fun o e => hm'.1 it o e (.inr ((hid it).mpr (.inr rfl)))
    have hg₁ : GenAt (s₁.setGen y.g gs').heap it y.g := by
      obtain ⟨o, nm, qn, e, r⟩ := hg
      exact ⟨o, nm, qn, hgit o e, r⟩
    refine lead_bind (wpL_of (wpAny_typeOf hg₁.typeIs ?_))
    dsimp only
    refine lead_bind (wpL_of (wpAny_of_eq close_of_gen ?_))
    refine lead_bind (wpL_pure ?_)
    refine lead_bind (wpL_of (slept_on hg₁ fun hsl => ?_))
    show Lead _ A x.prot (v :: (vs ++ ws)) s₀ (yfCode it) (.yield v true [] _) _ _
    have g₁ : Grew s { s₁.setGen y.g gs' with heap := s₁.heap.update it (sleepFn 1) } := ⟨hm'.2.2.2.2.2.1, by show _ ≤ (s₁.heap.update it (sleepFn 1)).objs.size; rw [update_size]; exact hm'.2.2.2.2.2.2⟩
    have m1 : Mid x s₀ { s₁.setGen y.g gs' with heap := s₁.heap.update it (sleepFn 1) } := by
      refine ⟨fun b o e hb => ?_, fun i hi => ?_, ?_, hm'.2.2.2.1.trans hm.2.2.2.1, hm'.2.2.2.2.1.trans hm.2.2.2.2.1, hm.2.2.2.2.2.trans g₁⟩
      · have hne : it ≠ b := by
          rintro rfl
          rcases hb with hb | hb
          · exact absurd hb (Nat.not_lt.mpr hxi)
          · exact hni hb
        rw [Heap.get?_update_other _ _ hne]
        refine hm'.1 b o (hm.1 b o e hb) ?_
        rcases hb with hb | hb
        · exact .inl (Nat.lt_of_lt_of_le hb hxa)
        · exact .inr ((hid b).mpr (.inl hb))
      · exact ((q.2.1 i (by omega)).trans (setGen_get (by omega))).trans (hm.2.1 i hi)
      · have := q.2.2.1
        rw [setGen_size] at this
        exact Nat.le_trans hm.2.2.1 this
    refine lead_yield ?_ ?_ ?_ m1 ?_
    · show (splitAtGen fs).map _ = none
      rw [hfs]; rfl
    · show (false || fs.any Frame.guarded) = false
      rw [hfg]; rfl
    · intro _
      refine ⟨.ref it, _, _, rfl, ?_⟩
      obtain ⟨o, nm, qn, e, hc, hd, hs⟩ := hsl
      show (match (s₁.heap.update it (sleepFn 1)).get? it with | some o => _ | none => false) = false
      rw [show (s₁.heap.update it (sleepFn 1)).get? it = some o from e]
      have hn : o.genNumber? = some y.g := by
        unfold Obj.genNumber?
        rw [hc, hd]
        show some ((y.g : Int).toNat) = some y.g
        rw [Int.toNat_natCast]
      simp only [hn]
      show (s₁.heap.life.registered.contains it) = false
      have : s₁.heap.life = σ.heap.life := hm'.2.2.2.2.2.1.trans ho.grew.1
      rw [this, hlife]; rfl
    · rintro s₂ ⟨r1, r2, r3, r4⟩
      have hsl₂ : GenAsleep s₂.heap it y.g := by
        obtain ⟨o, nm, qn, e, r⟩ := hsl
        exact ⟨o, nm, qn, r1 it o e hni, r⟩
      show Lead _ A x.prot (vs ++ ws) s₂ (yfCode it) (Builtin.Generator.sleptOver (.ref it) false >>= _) _ s₂
      refine lead_bind (wpL_of (slept_off hsl₂ fun hg₂ => ?_))
      dsimp only
      refine lead_bind (wpL_of (wpAny_of_eq (a := Value.none) rfl ?_))
      show Lead _ A x.prot (vs ++ ws) s₂ (yfCode it) (.pure (.again (yfCode it))) _ _
      have u1 : ∀ b o, s₁.heap.get? b = some o → ¬ x.hid b → b ≠ it → (s₂.heap.update it (sleepFn 0)).get? b = some o := fun b o e h1 h2 => by
        rw [Heap.get?_update_other _ _ (Ne.symm h2)]
        refine r1 b o ?_ h1
        show (s₁.heap.update it (sleepFn 1)).get? b = some o
        rw [Heap.get?_update_other _ _ (Ne.symm h2)]; exact e
      have g₂ : Grew s₂ { s₂ with heap := s₂.heap.update it (sleepFn 0) } := ⟨rfl, by show _ ≤ (s₂.heap.update it (sleepFn 0)).objs.size; rw [update_size]; exact Nat.le_refl _⟩
      refine lead_again (plainId_quiet plain_yf _) (ih gs' s₂ _ ?_ ?_ hg₂ ?_ ?_)
      · refine ⟨fun b o e hb => ?_, fun i hi => rfl, Nat.le_refl _, rfl, rfl, g₂⟩
        have hne : it ≠ b := by
          rintro rfl
          rcases hb with hb | hb
          · exact absurd hb (Nat.not_lt.mpr hxi)
          · exact hni hb
        show (s₂.heap.update it (sleepFn 0)).get? b = some o
        rw [Heap.get?_update_other _ _ hne]; exact e
      · refine ⟨fun b o e h1 h2 h3 => u1 b o (hm'.1 b o (ho.heap b o e h1 h2 h3) (.inl h2)) h1 h3, fun i h1 h2 => ?_, ((ho.grew.trans g₁).trans r3).trans g₂⟩
        exact (((r2 i h1).trans (q.2.1 i h2)).trans (setGen_get (by omega))).trans (ho.gens i h1 h2)
      · exact (r2 y.g hxy).trans (setGen_self hgl₁)
      · refine hr _ ⟨fun b o e hb => ?_, fun i hi => ?_, ?_, ?_⟩
        · exact u1 b o e (fun z => hb ((hid b).mpr (.inl z))) fun z => hb ((hid b).mpr (.inr z))
        · rw [setGen_get (by omega)]
          exact (r2 i (by omega)).trans (setGen_get (by omega))
        · have a : Grew s₁ { s₁.setGen y.g gs' with heap := s₁.heap.update it (sleepFn 1) } := ⟨rfl, by show _ ≤ (s₁.heap.update it (sleepFn 1)).objs.size; rw [update_size]; exact Nat.le_refl _⟩
          exact (a.trans r3).trans g₂
        · rw [setGen_size]
          rw [show ({ s₁.setGen y.g gs' with heap := s₁.heap.update it (sleepFn 1) } : Shared).gens.size = s₁.gens.size from setGen_size] at r4
          exact r4
end
section
variable {prog : Program} {w : World} {A : Around} {P : Prot} {vs : List Value} {s₀ s : Shared} {c : Code} {fs : List Frame} {env : Env}
  {K : Flow → Sem PySem.Fin} {H : Value → Sem PySem.Fin} {gd : Bool → Bool} {lv : List Value → List Value}
theorem lead_func {body : List Stmt}
    (h : ∀ H', Lead (model prog w) A P vs s₀ (.func body env) ((execs body env).wrap (fun f => .pure (.done (.ret (match f with | .ret v => v | _ => .none)))) H' id id) fs s) :
    Lead (model prog w) A P vs s₀ (.func body env) ((model prog w).den (.func body env)) fs s := by
  show Lead _ A P vs s₀ (.func body env) (.point [] fun _ => ((execs body env).onRaise (leaving env)) >>= _) fs s
  refine lead_point ?_
  rw [Sem.onRaise_eq_wrap, Sem.bind_eq_wrap', Sem.wrap_wrap]
  rw [Sem.wrap_congr (execs body env) _ _ (K' := fun f => .pure (.done (.ret (match f with | .ret v => v | _ => .none)))) (fun f => by cases f <;> rfl) (fun e => rfl)]
  exact h _
theorem lead_execs_nil (h : Lead (model prog w) A P vs s₀ c (K .next) fs s) : Lead (model prog w) A P vs s₀ c ((execs [] env).wrap K H gd lv) fs s := h
theorem lead_execs_cons {st : Stmt} {rest : List Stmt}
    (h : Lead (model prog w) A P vs s₀ c ((exec st env).wrap (fun f => match f with | .next => (execs rest env).wrap K H gd lv | f => K f) H gd lv) fs s) :
    Lead (model prog w) A P vs s₀ c ((execs (st :: rest) env).wrap K H gd lv) fs s := by rw [execs_cons_wrap]; exact h
theorem lead_Expr_Yield {v : Value} {e : Expr} {ypos pos : Pos} (hfs : splitAtGen fs = none) (hgd : gd false = false) (hfg : fs.any Frame.guarded = false)
    (h : wpL (model prog w) (A.over c fs) (eval e env) (fun u s' => u = v ∧ P.mid s₀ s' ∧ ∀ s'', P.rel s' s'' → Lead (model prog w) A P vs s'' c (K .next) fs s'') (fun _ _ => False) s)
    (hco : env.scope.isCoroutine = false) (hi : interactive env = false) :
    Lead (model prog w) A P (v :: vs) s₀ c ((exec (.Expr (.Yield (some e) ypos) pos) env).wrap K H gd lv) fs s := by
  rw [exec_Expr env _ pos hi rfl]
  show Lead _ A P _ s₀ c (.at pos fun _ => ((eval e env >>= fun v => (standAt ypos >>= fun _ => yieldOut env v)) >>= fun x => dropValue (.Yield (some e) ypos) pos x).wrap K H gd lv) fs s
  have hy : ∀ v, yieldOut env v = yieldValue v := fun v => by simp only [yieldOut, hco, Bool.false_eq_true, if_false]
  simp only [hy]
  refine lead_at ?_
  rw [Sem.bind_eq_wrap', Sem.bind_eq_wrap', Sem.wrap_wrap, Sem.wrap_wrap]
  refine lead_wrap (wpL_mono h (fun u s' h' => ?_) fun _ _ x => x.elim)
  obtain ⟨rfl, hm, hr⟩ := h'
  refine lead_at ?_
  show Lead _ A P (u :: vs) s₀ c (.yield u (gd false) _ _) fs s'
  refine lead_yield hfs hfg (fun q => by rw [hgd] at q; cases q) hm fun s'' h'' => ?_
  exact hr s'' h''
theorem lead_Expr_YieldFrom {e : Expr} {ypos pos : Pos} (hgd : gd false = false)
    (h : wpL (model prog w) (A.over c fs) (eval e env) (fun u s' => ∃ it g, u = .ref it ∧ s'.heap.IsGen it g ∧
      ∀ p k' l', (k' (.ok (.ret .none)) = K .next) → Lead (model prog w) A P vs s₀ (yfCode it) ((model prog w).den (yfCode it)) (.ret k' none false l' c p [] :: fs) s') (fun _ _ => False) s)
    (hi : interactive env = false) :
    Lead (model prog w) A P vs s₀ c ((exec (.Expr (.YieldFrom e ypos) pos) env).wrap K H gd lv) fs s := by
  rw [exec_Expr env _ pos hi rfl]
  show Lead _ A P _ s₀ c (.at pos fun _ => ((eval e env >>= fun v => (standAt ypos >>= fun _ => yieldFrom env v)) >>= fun x => dropValue (.YieldFrom e ypos) pos x).wrap K H gd lv) fs s
  refine lead_at ?_
  rw [Sem.bind_eq_wrap', Sem.bind_eq_wrap', Sem.wrap_wrap, Sem.wrap_wrap]
  refine lead_wrap (wpL_mono h (fun u s' h' => ?_) fun _ _ x => x.elim)
  obtain ⟨it, g, rfl, hg, h'⟩ := h'
  refine lead_at ?_
  unfold yieldFrom
  show Lead _ A P _ s₀ c (Sem.wrap _ _ _ _ (typeOf (.ref it) >>= _)) fs s'
  rw [Sem.bind_eq_wrap', Sem.wrap_wrap]
  refine lead_wrap (wpL_of (wpAny_typeOf hg.typeIs ?_))
  rw [if_neg (by decide)]
  show Lead _ A P _ s₀ c (Sem.wrap _ _ _ _ (holding [Value.ref it] (pyIter (Value.ref it)) >>= _)) fs s'
  rw [Sem.bind_eq_wrap', Sem.wrap_wrap]
  refine lead_wrap (wpL_of (wpAny_holding (wpAny_pyIter_gen hg ?_)))
  unfold runValue
  rw [Sem.bind_eq_wrap', Sem.wrap_wrap]
  show Lead _ A P _ s₀ c (.call (yfCode it) none (gd false) _ _) fs s'
  rw [hgd]
  exact lead_call fun p => h' p _ _ rfl
theorem lead_For {target iter : Expr} {body : List Stmt} {pos : Pos} (hgd : gd false = false)
    (h : wpL (model prog w) (A.over c fs) (eval iter env) (fun x s' => wpL (model prog w) (A.over c fs) (pyIter x) (fun it s'' => ∀ p k' l', (∀ f, k' (.ok f) = K f) →
      Lead (model prog w) A P vs s₀ (.forLoop target it body [] env) ((model prog w).den (.forLoop target it body [] env)) (.ret k' none false l' c p [] :: fs) s'') (fun _ _ => False) s') (fun _ _ => False) s)
    (hs : ∀ x, foldedSetIterable iter env x = pure x) : Lead (model prog w) A P vs s₀ c ((exec (.For target iter body [] pos) env).wrap K H gd lv) fs s := by
  show Lead _ A P vs s₀ c ((standAt pos >>= fun _ => (eval iter env >>= fun x => foldedSetIterable iter env x >>= fun x => standAt iter.pos >>= fun _ => holding [x] (pyIter x) >>= fun it => runOwn (.forLoop target it body [] env) env)).wrap K H gd lv) fs s
  refine lead_at ?_
  show Lead _ A P vs s₀ c (Sem.wrap _ _ _ _ (eval iter env >>= _)) fs s
  rw [Sem.bind_eq_wrap', Sem.wrap_wrap]
  refine lead_wrap (wpL_mono h (fun x s' h' => ?_) fun _ _ q => q.elim)
  simp only [hs]
  refine lead_at ?_
  show Lead _ A P vs s₀ c (Sem.wrap _ _ _ _ (holding [x] (pyIter x) >>= _)) fs s'
  rw [Sem.bind_eq_wrap', Sem.wrap_wrap]
  refine lead_wrap (wpL_holding (wpL_mono h' (fun it s'' h'' => ?_) fun _ _ q => q.elim))
  show Lead _ A P vs s₀ c (.call (.forLoop target it body [] env) none (gd false) _ _) fs s''
  rw [hgd]
  exact lead_call fun p => h'' p _ _ fun f => rfl
theorem lead_forLoop {target : Expr} {it : Value} {body : List Stmt}
    (h : wpL (model prog w) (A.over (.forLoop target it body [] env) fs) (pyNext it) (fun o s' => match o with
      | none => Lead (model prog w) A P vs s₀ (.block [] env) (.pure (.done .next)) fs s'
      | some v => wpL (model prog w) (A.over (.forLoop target it body [] env) fs) (letOwnedTupleGo target it v) (fun _ s₁ => wpL (model prog w) (A.over (.forLoop target it body [] env) fs) (assign target env v) (fun _ s'' => ∀ H',
          Lead (model prog w) A P vs s₀ (.forLoop target it body [] env) ((execs body env).wrap (fun f => match f with
            | .next | .cont => .pure (.again (.forLoop target it body [] env))
            | .brk => .pure (.done .next)
            | .ret v => .pure (.done (.ret v))) H' id id) fs s'') (fun _ _ => False) s₁) (fun _ _ => False) s') (fun _ _ => False) s) :
    Lead (model prog w) A P vs s₀ (.forLoop target it body [] env) ((model prog w).den (.forLoop target it body [] env)) fs s := by
  show Lead _ A P vs s₀ _ ((forTurn target it body [] env).onRaise _) fs s
  unfold forTurn
  rw [Sem.onRaise_eq_wrap]
  refine lead_at ?_
  show Lead _ A P vs s₀ _ (Sem.wrap _ _ _ _ ((pyNext it).onRaise _ >>= _)) fs s
  rw [Sem.bind_eq_wrap', Sem.wrap_wrap, Sem.onRaise_eq_wrap, Sem.wrap_wrap]
  refine lead_wrap (wpL_mono h (fun o s' h' => ?_) fun _ _ q => q.elim)
  cases o with
  | none =>
    show Lead _ A P vs s₀ _ (.pure (.again (.block [] env))) fs s'
    exact lead_again rfl h'
  | some v =>
    show Lead _ A P vs s₀ _ (Sem.wrap _ _ _ _ (letOwnedTupleGo target it v >>= _)) fs s'
    rw [Sem.bind_eq_wrap', Sem.wrap_wrap]
    refine lead_wrap (wpL_mono h' (fun _ s₁ h₁ => ?_) fun _ _ q => q.elim)
    rw [Sem.bind_eq_wrap', Sem.wrap_wrap]
    refine lead_wrap (wpL_mono h₁ (fun _ s₂ h₂ => ?_) fun _ _ q => q.elim)
    rw [Sem.bind_eq_wrap', Sem.wrap_wrap]
    rw [Sem.wrap_congr (execs body env) _ _ (K' := fun f => match f with
            | .next | .cont => .pure (.again (.forLoop target it body [] env))
            | .brk => .pure (.done .next)
            | .ret v => .pure (.done (.ret v))) (fun f => by cases f <;> rfl) (fun e => rfl)]
    exact h₂ _
end
section
variable {prog : Program} {w : World} {A : Around} {s : Shared} {P : Prot}
theorem pyNext_some {E : Value → Shared → Prop} {a : Addr} {g : Nat} {gs : GenState} {v : Value} {vs : List Value} {Q : Option Value → Shared → Prop} (hl : s.heap.NoLimit) (hroom : A.depth < recursionLimit)
    (hg : GenAt s.heap a g) (hgs : s.gens[g]? = some gs) (hgo : GoesL (model prog w) A.in1 P (v :: vs) gs (s.setGen g .running))
    (h : ∀ s₁ gs', P.mid (s.setGen g .running) s₁ → (∀ s'', P.rel s₁ s'' → GoesL (model prog w) A.in1 P vs gs' s'') → Q (some v) (s₁.setGen g gs')) :
    wpL (model prog w) A (pyNext (.ref a)) Q E s := by
  unfold pyNext
  refine wpL_bind (wpL_attempt (next_some hl hroom hg hgs hgo fun s₁ gs' hm hr => ?_))
  exact wpL_pure (h s₁ gs' hm hr)
theorem pyNext_none {E : Value → Shared → Prop} {a : Addr} {g : Nat} {gs : GenState} {Q : Option Value → Shared → Prop} (hh : A.handled = none) (hl : s.heap.NoLimit) (hroom : A.depth < recursionLimit)
    (hg : GenAt s.heap a g) (hgs : s.gens[g]? = some gs) (hgo : GoesL (model prog w) A.in1 P [] gs (s.setGen g .running))
    (h : ∀ s₁ h' tk, P.fin (s.setGen g .running) s₁ → s₁.heap.StaysIn h' → Q none { s₁.setGen g .finished with heap := h', toks := tk }) : wpL (model prog w) A (pyNext (.ref a)) Q E s := by
  unfold pyNext
  refine wpL_bind (wpL_attempt (wpL_mono (next_none (E := fun e s' => ∃ s₁ e' o h' tk, e = .ref e' ∧ s' = { s₁.setGen g .finished with heap := h', toks := tk } ∧ P.fin (s.setGen g .running) s₁ ∧ s₁.heap.StaysIn h' ∧ h'.get? e' = some o ∧ o.cls = .type "StopIteration")
      (Q := fun _ _ => False) hh hl hroom hg hgs hgo fun s₁ e o h' tk a1 a2 a3 a4 a5 => ⟨s₁, e, o, h', tk, rfl, rfl, a1, a2, a3, a4⟩) (fun _ _ q => q.elim) ?_))
  rintro e s' ⟨s₁, e', o, h', tk, rfl, rfl, hf, hst, he, hc⟩
  refine wpL_bind (wpL_of (wpAny_isInstance (T := "StopIteration") (b := true) ⟨o, he, hc⟩ isSubtype_stop ?_))
  exact wpL_pure (h s₁ h' tk hf hst)
end

inductive All2 {α β : Type} (F : α → β → Prop) : List α → List β → Prop
  | nil : All2 F [] []
  | cons {a b l m} : F a b → All2 F l m → All2 F (a :: l) (b :: m)
section
variable {prog : Program} {w : World} {A : Around}
theorem comp_loopL {x : GP} {it D : Addr} {elt iter : Expr} {nm : Str} {px : Pos} {scope : Scope} {pos : Pos} {cenv : Env} {σ : Shared} {Ok : Value → Prop} {F : Value → Value → Prop} {R : Result → Shared → Prop}
    (hh : A.handled = none) (hroom : A.depth < recursionLimit) (hD : x.hid D) (hC : x.hid cenv.locals) (hI : x.hid it) (hDC : D ≠ cenv.locals) (hoff : ∀ b, x.hid b → x.a ≤ b) (hIC : it ≠ cenv.locals) (hID : it ≠ D)
    (hx : cenv.kindOf nm = some .local) (hp : (cenv.scope.kind == .class || (cenv.scope.kind == .module && cenv.locals != cenv.globals)) = false) (hl : σ.heap.NoLimit) (hcs : cStatics < x.a)
    (helt : ∀ v s m, Ok v → s.heap.Ns cenv.locals m → m nm = some v → (∀ b o, σ.heap.get? b = some o → b < x.a → s.heap.get? b = some o) → wpAny (model prog w) A (eval elt cenv) (fun y s' => F v y ∧ Keeps s s') (fun _ _ => False) s) :
    ∀ (vs : List Value) (ys : Array Value) (gs : GenState) (s : Shared) (m : Str → Option Value), (∀ v ∈ vs, Ok v) → ys.size + vs.length ≤ sizeLine → s.heap.PlainList D ys → s.heap.Ns cenv.locals m → GenAt s.heap it x.g → s.gens[x.g]? = some gs →
      GoesL (model prog w) A.in1 x.prot vs gs (s.setGen x.g .running) → Mid ⟨x.a, x.g, fun _ => False⟩ σ s →
      (∀ s' zs m', All2 F vs zs → s'.heap.PlainList D (ys ++ zs.toArray) → s'.heap.Ns cenv.locals m' → Mid ⟨x.a, x.g, fun _ => False⟩ σ s' → AllFin x.g s' → s'.gens[x.g]? = some .finished → R (.ok .next) s') →
      codeL (model prog w) A (.compLoop (.ListComp elt [⟨.Name nm px, iter, [], 0⟩] scope pos) 0 (.ref it) (.ref D) cenv) R s := by
  intro vs
  induction vs with
  | nil =>
    intro ys gs s m _ _ hy hn hg hgs hgo hm hR
    have hl' : s.heap.NoLimit := nolimit_at hl fun o e => hm.1 _ _ e (.inl hcs)
    have hgl : x.g < s.gens.size := by
      cases Nat.lt_or_ge x.g s.gens.size with
      | inl q => exact q
      | inr q => rw [Array.getElem?_eq_none q] at hgs; cases hgs
    refine codeL_of_tree ?_
    rw [Around.under_of_weight rfl rfl]
    show wpL _ A ((compTurn (.ListComp elt [⟨.Name nm px, iter, [], 0⟩] scope pos) 0 (.ref it) (.ref D) cenv).onRaise _) _ _ s
    refine wpL_onRaise ?_
    rw [compTurn_list1]
    refine wpL_bind (wpL_of (wpAny_standAt (wpL_bind ?_)))
    refine wpL_mono (wpL_life (pyNext_none (E := fun _ _ => False) (Q := fun o s' => o = none ∧ ∃ s₁ h' tk, s' = { s₁.setGen x.g .finished with heap := h', toks := tk } ∧ x.prot.fin (s.setGen x.g .running) s₁ ∧ s₁.heap.StaysIn h') hh hl' hroom hg hgs hgo fun s₁ h' tk a b => ⟨rfl, s₁, h', tk, rfl, a, b⟩)) ?_ (fun _ _ q => q.1.elim)
    rintro o s' ⟨⟨rfl, s₁, h', tk, rfl, ⟨hm', hf⟩, hst⟩, hg'⟩
    refine wpL_pure ?_
    have q := hm'.setGen (z := .finished) (Nat.le_refl x.g)
    have up : ∀ b o, s.heap.get? b = some o → (b < x.a ∨ x.hid b) → h'.get? b = some o := fun b o e hb => hst b o (hm'.1 b o e hb)
    have hz : x.g < s₁.gens.size := by have := hm'.2.2.1; rw [setGen_size] at this; omega
    refine hR _ [] m .nil ?_ ?_ ?_ ?_ (setGen_self hz)
    · rw [show ys ++ ([] : List Value).toArray = ys by simp]
      exact hy.at fun o e => up _ o e (.inr hD)
    · exact hn.at' fun o e => up _ o e (.inr hC)
    · refine ⟨fun b o e hb => ?_, fun i hi => (q.2.1 i hi).trans ((setGen_get (Nat.ne_of_lt hi)).trans (hm.2.1 i hi)), ?_, hm'.2.2.2.1.trans hm.2.2.2.1, hm'.2.2.2.2.1.trans hm.2.2.2.2.1, hm.2.2.2.2.2.trans hg'⟩
      · rcases hb with hb | hb
        · exact up b o (hm.1 b o e (.inl hb)) (.inl hb)
        · exact hb.elim
      · have := q.2.2.1
        rw [setGen_size] at this
        exact Nat.le_trans hm.2.2.1 this
    · intro i z h1 h2
      have h2 : (s₁.setGen x.g .finished).gens[i]? = some z := h2
      rw [setGen_get (by omega)] at h2
      exact hf i z h1 h2
  | cons v vs ih =>
    intro ys gs s m hok hsz hy hn hg hgs hgo hm hR
    have hl' : s.heap.NoLimit := nolimit_at hl fun o e => hm.1 _ _ e (.inl hcs)
    have hgl : x.g < s.gens.size := by
      cases Nat.lt_or_ge x.g s.gens.size with
      | inl q => exact q
      | inr q => rw [Array.getElem?_eq_none q] at hgs; cases hgs
    refine codeL_of_tree ?_
    rw [Around.under_of_weight rfl rfl]
    show wpL _ A ((compTurn (.ListComp elt [⟨.Name nm px, iter, [], 0⟩] scope pos) 0 (.ref it) (.ref D) cenv).onRaise _) _ _ s
    refine wpL_onRaise ?_
    rw [compTurn_list1]
    refine wpL_bind (wpL_of (wpAny_standAt (wpL_bind ?_)))
    refine wpL_mono (pyNext_some (E := fun _ _ => False) (Q := fun o s' => ∃ s₁ gs', o = some v ∧ s' = s₁.setGen x.g gs' ∧ Mid x (s.setGen x.g .running) s₁ ∧ ∀ s'', Rel x s₁ s'' → GoesL (model prog w) A.in1 x.prot vs gs' s'') hl' hroom hg hgs hgo fun s₁ gs' a b => ⟨s₁, gs', rfl, rfl, a, b⟩) ?_ (fun _ _ q => q.elim)
    rintro o s' ⟨s₁, gs', rfl, rfl, hm', hgo'⟩
    have q := hm'.setGen (z := gs') (Nat.le_refl x.g)
    have hz : x.g < s₁.gens.size := by have := hm'.2.2.1; rw [setGen_size] at this; omega
    have hn₁ : s₁.heap.Ns cenv.locals m := hn.at' fun o e => hm'.1 _ o e (.inr hC)
    have hy₁ : s₁.heap.PlainList D ys := hy.at fun o e => hm'.1 _ o e (.inr hD)
    have hg₁ : GenAt s₁.heap it x.g := let ⟨o, a, b, e, r⟩ := hg; ⟨o, a, b, hm'.1 _ o e (.inr hI), r⟩
    refine wpL_bind (wpL_of (wpAny_of_eq rfl ?_))
    refine wpL_bind (wpL_mono (wpL_life (wpL_of (wpAny_assign_Name (Q := fun _ s' => ∃ h₂ tk, s' = { s₁.setGen x.g gs' with heap := h₂, toks := tk } ∧ h₂.Ns cenv.locals (fun y => if y = nm then some v else m y) ∧ Heap.SameBut cenv.locals s₁.heap h₂) (E := fun _ _ => False)
      (wpAny_storeName_local hx (s := s₁.setGen x.g gs') hn₁ (fun h₂ hn hs => ⟨h₂, _, rfl, hn, hs⟩) hp)))) ?_ fun _ _ q => q.1.elim)
    rintro _ s' ⟨⟨h₂, tk₂, rfl, hn₂, hs₂⟩, hgr₂⟩
    have low₁ : ∀ b o, σ.heap.get? b = some o → b < x.a → s₁.heap.get? b = some o := fun b o e hb => hm'.1 b o (hm.1 b o e (.inl hb)) (.inl hb)
    have offC : ∀ b, b < x.a → b ≠ cenv.locals := fun b hb => by rintro rfl; exact absurd hb (Nat.not_lt.mpr (hoff _ hC))
    have offD : ∀ b, b < x.a → b ≠ D := fun b hb => by rintro rfl; exact absurd hb (Nat.not_lt.mpr (hoff _ hD))
    refine wpL_bind (wpL_bind (wpL_mono (wpL_life (wpL_of (helt v _ _ (hok v (List.mem_cons_self ..)) hn₂ (if_pos rfl) fun b o e hb => hs₂.extBut b o (offC b hb) (low₁ b o e hb)))) ?_ fun _ _ q => q.1.elim))
    rintro y s₃ ⟨⟨hF, h₃, tk₃, rfl, hk₃⟩, hgr₃⟩
    have hy₃ : h₃.PlainList D ys := hy₁.at fun o e => hk₃ _ _ (hs₂.extBut _ o hDC e)
    refine wpL_bind (wpL_mono (wpL_life (wpL_of (wpAny_list_append_plain (E := fun _ _ => False) (Q := fun _ s' => ∃ h₄, s' = { s₁.setGen x.g gs' with heap := h₄, toks := tk₃ } ∧ h₄.PlainList D (ys.push y) ∧ Heap.SameBut D h₃ h₄) (hsz := by simp only [List.length_cons] at hsz; omega)
      (s := { s₁.setGen x.g gs' with heap := h₃, toks := tk₃ }) hy₃ fun h₄ a b => ⟨h₄, rfl, a, b⟩))) ?_ fun _ _ q => q.1.elim)
    rintro _ s₄ ⟨⟨h₄, rfl, hy₄, hs₄⟩, hgr₄⟩
    refine wpL_pure (wpL_pure (And.intro rfl ?_))
    have up : ∀ b o, s₁.heap.get? b = some o → b ≠ D → b ≠ cenv.locals → h₄.get? b = some o := fun b o e h1 h2 => hs₄.extBut b o h1 (hk₃ b o (hs₂.extBut b o h2 e))
    have gr : Grew s₁ { s₁.setGen x.g gs' with heap := h₄, toks := tk₃ } := ((Grew.trans (s' := s₁.setGen x.g gs') ⟨rfl, Nat.le_refl _⟩ hgr₂).trans hgr₃).trans hgr₄
    refine ih (ys.push y) gs' _ (fun y => if y = nm then some v else m y) (fun v' h' => hok v' (List.mem_cons_of_mem _ h')) (by simp only [List.length_cons, Array.size_push] at hsz ⊢; omega) hy₄ (hn₂.at' fun o e => hs₄.extBut _ o (Ne.symm hDC) (hk₃ _ o e))
      (let ⟨o, a, b, e, r⟩ := hg₁; ⟨o, a, b, up _ o e hID hIC, r⟩) (setGen_self hz) ?_ ?_ ?_
    · refine hgo' _ ⟨fun b o e hb => up b o e (fun z => hb (z ▸ hD)) fun z => hb (z ▸ hC), fun i hi => ?_, gr, ?_⟩
      · rw [setGen_get (by omega)]; exact setGen_get (by omega)
      · rw [setGen_size]; exact Nat.le_of_eq setGen_size.symm
    · refine ⟨fun b o e hb => ?_, fun i hi => (q.2.1 i hi).trans ((setGen_get (Nat.ne_of_lt hi)).trans (hm.2.1 i hi)), ?_, hm'.2.2.2.1.trans hm.2.2.2.1, hm'.2.2.2.2.1.trans hm.2.2.2.2.1, (hm.2.2.2.2.2.trans hm'.2.2.2.2.2).trans gr⟩
      · rcases hb with hb | hb
        · exact up b o (low₁ b o e hb) (offD b hb) (offC b hb)
        · exact hb.elim
      · have := q.2.2.1
        rw [setGen_size] at this
        exact Nat.le_trans hm.2.2.1 this
    · intro s' zs m' h1 h2
      refine hR s' (y :: zs) m' (.cons hF h1) ?_
      have : ys ++ (y :: zs).toArray = ys.push y ++ zs.toArray := by simp
      rw [this]; exact h2
end
section
variable {prog : Program} {w : World} {A : Around} {env : Env} {s : Shared}
theorem compStartL {R : Result → Shared → Prop} {elt target iter ifs rest scope pos it acc}
    (h0 : codeL (model prog w) A (.compLoop (.ListComp elt (⟨target, iter, ifs, 0⟩ :: rest) scope pos) 0 it acc env) R s)
    (h : wpL (model prog w) A (pyIter it) (fun it' s' => codeL (model prog w) A (.compLoop (.ListComp elt (⟨target, iter, ifs, 0⟩ :: rest) scope pos) 0 it' acc env) R s') (fun _ _ => False) s) :
    codeL (model prog w) A (.compStart (.ListComp elt (⟨target, iter, ifs, 0⟩ :: rest) scope pos) 0 it acc env) R s := by
  refine codeL_of_tree ?_
  rw [Around.under_of_weight rfl rfl]
  show wpL _ A ((compStart (.ListComp elt (⟨target, iter, ifs, 0⟩ :: rest) scope pos) 0 it acc env).onRaise (fun x => do noteFrame x env; standAt theWindowsPlace)) _ _ s
  refine wpL_onRaise ?_
  unfold compStart
  show wpL _ _ (ask >>= _) _ _ s
  refine wpL_bind (wpL_of (wpAny_askSetting ?_))
  split
  · first
      | exact wpL_bind (wpL_pure (wpL_pure (And.intro rfl h0)))
      | exact wpL_pure (And.intro rfl h0)
  · first
      | exact wpL_bind (wpL_of (wpAny_rule (wpL_bind (wpL_of (wpAny_standAt (wpL_bind (wpL_mono h (fun it' s' h' => wpL_pure (And.intro rfl h')) fun _ _ x => x.elim)))))))
      | (refine wpL_bind (wpL_of (wpAny_rule ?_)); show wpL _ _ (standAt iter.pos >>= _) _ _ s; exact wpL_bind (wpL_of (wpAny_standAt (wpL_bind (wpL_mono h (fun it' s' h' => wpL_pure (And.intro rfl h')) fun _ _ x => x.elim)))))
def compPostL (M : Model) (A : Around) (use : Option (Value → Sem Unit)) (Q : Value → Shared → Prop) (acc : Value) (C : Addr) (r : Result) (s' : Shared) : Prop :=
  match r, use with
  | .ok _, none => ∃ m, s'.heap.Ns C m ∧ ∀ h', Heap.SameBut C s'.heap h' → Q acc { s' with heap := h' }
  | .ok _, some u => wpL M A (u acc) (fun _ s'' => ∃ m, s''.heap.Ns C m ∧ ∀ h', Heap.SameBut C s''.heap h' → Q .none { s'' with heap := h' }) (fun _ _ => False) s'
  | .error _, _ => False
theorem comprehensionL {e : Expr} {scope : Scope} {pos : Pos} {newAcc first : Sem Value} {g : Comprehension} {gs : List Comprehension} {cl : List (Str × Addr)} {use : Option (Value → Sem Unit)} {Q : Value → Shared → Prop}
    (hcl : clausesOf e = g :: gs) (hs : ∀ x, foldedSetIterable g.iter env x = pure x) (hclos : closureFor scope env = pure cl)
    (hkind : scope.kind = .function) (hnames : ∀ x ∈ scope.names, x.2 = .local → scope.names.lookup x.1 = some .local)
    (h : wpL (model prog w) A first (fun x s₁ => wpL (model prog w) A (pyIter x) (fun it s₂ => wpL (model prog w) A newAcc (fun acc s₃ =>
      wpL (model prog w) A (newFunctionEnv scope env.globals cl [] env.qual none .none (some env)) (fun cenv s₄ =>
        codeL (model prog w) A (.compStart e 0 it acc { cenv with scope := relabel scope env }) (compPostL (model prog w) A use Q acc cenv.locals) s₄) (fun _ _ => False) s₃) (fun _ _ => False) s₂) (fun _ _ => False) s₁) (fun _ _ => False) s) :
    wpL (model prog w) A (comprehension e scope env pos newAcc false first use) Q (fun _ _ => False) s := by
  unfold comprehension
  rw [hclos, hcl]
  refine wpL_bind (wpL_mono h (fun x s₁ h₁ => wpL_bind (wpL_of (wpAny_standAt (wpL_bind (wpL_of (wpAny_of_eq (hs x) (wpL_bind (wpL_holding (wpL_mono h₁ (fun it s₂ h₂ => ?_) fun _ _ h' => h'))))))))) fun _ _ h' => h')
  have rest : ∀ (k : PUnit → Sem Value) (c : Prop) [Decidable c] (p : Pos), wpL (model prog w) A (k ()) Q (fun _ _ => False) s₂ → wpL (model prog w) A (if c then (standAt p >>= k) else k ()) Q (fun _ _ => False) s₂ := by
    intro k c _ p hk
    split
    · exact wpL_bind (wpL_of (wpAny_standAt hk))
    · exact hk
  refine rest _ _ _ ?_
  refine wpL_bind (wpL_mono h₂ (fun acc s₃ h₃ => wpL_bind (wpL_pure (wpL_bind (wpL_mono h₃ (fun cenv s₄ h₄ => ?_) fun _ _ h' => h')))) fun _ _ h' => h')
  dsimp only
  have hv : ∀ x ∈ (scope.names.filter fun x => (x.2 == .local || x.2 == .cell) && x.1 != (".0" : Str)).reverse, x.2 = .local →
      Env.kindOf { cenv with scope := relabel scope env } x.1 = some .local := fun x hx hl => lookup_relabel_local (hnames x (List.mem_filter.mp (List.mem_reverse.mp hx)).1 hl)
  have hv' : ∀ x ∈ (scope.names.filter fun x => (x.2 == .local || x.2 == .cell) && x.1 != (".0" : Str)).reverse.drop 1 ++ (scope.names.filter fun x => (x.2 == .local || x.2 == .cell) && x.1 != (".0" : Str)).reverse.take 1,
      x.2 = .local → Env.kindOf { cenv with scope := relabel scope env } x.1 = some .local := fun x hx hl => by
    rcases List.mem_append.mp hx with h1 | h1
    · exact hv x (List.mem_of_mem_drop h1) hl
    · exact hv x (List.mem_of_mem_take h1) hl
  refine wpL_holding (wpL_bind (wpL_attempt (wpL_holding (wpL_run (codeL_mono (show codeL _ (A.mark none) _ _ _ from h₄) fun r s' hr => ?_)))))
  cases r with
  | ok f =>
    cases use with
    | none =>
      obtain ⟨m, hn, hr⟩ := hr
      exact wpL_bind (wpL_holding (wpL_of (wpAny_comp_letGo (cenv := { cenv with scope := relabel scope env }) hkind _ s' m hv hn fun h' m' _ hs' => wpL_pure (hr h' hs'))))
    | some u =>
      refine wpL_bind (wpL_of (wpAny_rule (wpL_bind (wpL_holding (wpL_mono hr (fun _ s'' hr' => ?_) fun _ _ h' => h')))))
      obtain ⟨m, hn, hr'⟩ := hr'
      exact wpL_bind (wpL_of (wpAny_comp_letGo (cenv := { cenv with scope := relabel scope env }) hkind _ s'' m hv' hn fun h' m' _ hs' => wpL_pure (hr' h' hs')))
  | error x => cases use <;> exact hr.elim
end
section
variable {prog : Program} {w : World} {A : Around} {env : Env}
theorem comp_blockL {elt iter : Expr} {nm : Str} {px : Pos} {scope : Scope} {cl : List (Str × Addr)} {pos : Pos} {s₂ : Shared} {it g a : Nat} {vs : List Value} {gs : GenState} {Ok : Value → Prop} {F : Value → Value → Prop} {RR : Value → Addr → Result → Shared → Prop}
    (hh : A.handled = none) (hroom : A.depth < recursionLimit) (hcell : ∀ y ∈ scope.names, y.2 ≠ .cell) (hkind : scope.kind = .function) (hx : scope.names.lookup nm = some .local)
    (hl : s₂.heap.NoLimit) (ha : a ≤ s₂.heap.objs.size) (hit : a ≤ it) (hg : s₂.heap.IsGen it g) (hgs : s₂.gens[g]? = some gs) (hcs : cStatics < a)
    (hgoes : ∀ (D C : Addr) (s' : Shared), D < s'.heap.objs.size → C < s'.heap.objs.size → s₂.heap.objs.size ≤ D → s₂.heap.objs.size ≤ C → s₂.heap.StaysIn s'.heap → s'.gens = (s₂.setGen g .running).gens → Grew s₂ s' → GoesL (model prog w) A.in1 (GP.prot ⟨a, g, fun b => b = D ∨ b = C ∨ b = it⟩) vs gs s')
    (hok : ∀ v ∈ vs, Ok v) (hsz : vs.length ≤ sizeLine)
    (helt : ∀ C v s m, s₂.heap.objs.size ≤ C → Ok v → s.heap.Ns C m → m nm = some v → (∀ b o, s₂.heap.get? b = some o → b < a → s.heap.get? b = some o) → wpAny (model prog w) A (eval elt (compEnvC scope cl C env)) (fun y s' => F v y ∧ Keeps s s') (fun _ _ => False) s)
    (hRR : ∀ (D C : Addr) (s' : Shared) zs m', s₂.heap.get? D = none → s₂.heap.get? C = none → D ≠ C → All2 F vs zs → s'.heap.PlainList D zs.toArray → s'.heap.Ns C m' → Mid ⟨a, g, fun _ => False⟩ s₂ s' → AllFin g s' → s'.gens[g]? = some .finished → RR (.ref D) C (.ok .next) s') :
    wpL (model prog w) A (newList []) (fun acc s₃ => wpL (model prog w) A (newFunctionEnv scope env.globals cl [] env.qual none .none (some env)) (fun cenv s₄ =>
      codeL (model prog w) A (.compStart (.ListComp elt [⟨.Name nm px, iter, [], 0⟩] scope pos) 0 (.ref it) acc { cenv with scope := relabel scope env }) (RR acc cenv.locals) s₄) (fun _ _ => False) s₃) (fun _ _ => False) s₂ := by
  refine wpL_of (wpAny_newObj_type ?_)
  generalize hH2 : s₂.heap.push { cls := .type "list", dict := none, data := .seq ([] : List Value).toArray } = H2
  refine wpL_mono (wpL_life (wpL_of (wpAny_newFunctionEnv (E := fun _ _ => False) (s := { s₂ with heap := H2 }) (Q := fun cenv s₄ => ∃ h₁ tk, cenv = newEnv scope H2.objs.size env.globals cl env.qual none .none (some env) env.builtins ∧ s₄ = { s₂ with heap := h₁, toks := tk } ∧ h₁.Ns H2.objs.size (fun x => ([] : List (Str × Value)).reverse.lookup x) ∧
      Heap.SameBut H2.objs.size (H2.push { cls := .type (if (some env).isSome then "dict" else "frame"), data := .dict #[] }) h₁) hcell (by intro y hy; simp at hy) (fun h₁ hns₁ hsb₁ => ⟨h₁, _, rfl, rfl, hns₁, hsb₁⟩) hkind))) ?_ fun _ _ q => q.1.elim
  rintro cenv s₄ ⟨⟨h₁, tk, rfl, rfl, hns₁, hsb₁⟩, hgr⟩
  have hC : H2.objs.size = s₂.heap.objs.size + 1 := by rw [← hH2, Heap.size_push]
  have hDC : s₂.heap.objs.size ≠ H2.objs.size := by rw [hC]; exact Nat.ne_of_lt (Nat.lt_succ_self _)
  have below : ∀ b, b < s₂.heap.objs.size → b ≠ H2.objs.size ∧ b ≠ s₂.heap.objs.size := fun b hb => ⟨by rw [hC]; exact Nat.ne_of_lt (Nat.lt_succ_of_lt hb), Nat.ne_of_lt hb⟩
  have old : ∀ b o, s₂.heap.get? b = some o → h₁.get? b = some o := fun b o e => hsb₁.extBut b o (below b (Heap.lt_size e)).1 (Heap.get?_push_of_some _ (hH2 ▸ Heap.get?_push_of_some _ e))
  have hacc : h₁.PlainList s₂.heap.objs.size #[] := ⟨_, hsb₁.extBut _ _ hDC (Heap.get?_push_of_some _ (hH2 ▸ Heap.get?_push_size _ rfl))⟩
  have fresh : ∀ a, s₂.heap.objs.size ≤ a → s₂.heap.get? a = none := fun a ha => by
    cases e : s₂.heap.get? a with
    | none => rfl
    | some o' => exact absurd (Heap.lt_size e) (Nat.not_lt.mpr ha)
  have hlt : it < s₂.heap.objs.size := by obtain ⟨o, _, _, e, _⟩ := hg; exact Heap.lt_size e
  have gr₁ : Grew s₂ { s₂ with heap := h₁, toks := tk } := by
    refine Grew.trans (s' := { s₂ with heap := H2 }) ⟨?_, ?_⟩ hgr
    · show H2.life = s₂.heap.life
      rw [← hH2]; exact Heap.life_push _ _
    · show s₂.heap.objs.size ≤ H2.objs.size
      rw [hC]; exact Nat.le_succ _
  have hlC : H2.objs.size < h₁.objs.size := by obtain ⟨o, _, _, e, _⟩ := hns₁; exact Heap.lt_size e
  have loop : codeL (model prog w) A (.compLoop (.ListComp elt [⟨.Name nm px, iter, [], 0⟩] scope pos) 0 (.ref it) (.ref s₂.heap.objs.size) (compEnvC scope cl H2.objs.size env)) (RR (.ref s₂.heap.objs.size) H2.objs.size) { s₂ with heap := h₁, toks := tk } := by
    refine comp_loopL (x := ⟨a, g, fun b => b = s₂.heap.objs.size ∨ b = H2.objs.size ∨ b = it⟩) (σ := s₂) (Ok := Ok) (F := F) (cenv := compEnvC scope cl H2.objs.size env) hh hroom (.inl rfl) (.inr (.inl rfl)) (.inr (.inr rfl)) hDC ?_ (below it hlt).1 (below it hlt).2
      (lookup_relabel_local hx) (by simp [compEnvC, relabel, hkind]) hl hcs (fun v s m h1 h2 h3 h4 => helt _ v s m (by rw [hC]; exact Nat.le_succ _) h1 h2 h3 h4) vs #[] gs _ _ hok (by simpa using hsz) hacc hns₁ (GenAt.of (hg.keeps old)) hgs ?_ ?_ ?_
    · rintro b (rfl | rfl | rfl)
      · exact ha
      · rw [hC]; exact Nat.le_succ_of_le ha
      · exact hit
    · exact hgoes _ _ _ (by show s₂.heap.objs.size < h₁.objs.size; rw [hC] at hlC; exact Nat.lt_of_succ_lt hlC) hlC (Nat.le_refl _) (by rw [hC]; exact Nat.le_succ _) old rfl gr₁
    · exact ⟨fun b o e _ => old b o e, fun _ _ => rfl, Nat.le_refl _, rfl, rfl, gr₁⟩
    · intro s' zs m' h1 h2 h3 h4 h5 h6
      refine hRR _ _ s' zs m' (fresh _ (Nat.le_refl _)) (fresh _ (by rw [hC]; exact Nat.le_succ _)) hDC h1 ?_ h3 h4 h5 h6
      rw [show (#[] : Array Value) ++ zs.toArray = zs.toArray by simp] at h2
      exact h2
  exact compStartL loop (wpL_of (wpAny_pyIter_gen (hg.keeps old) loop))
end
/-- all that a comprehension over a generator's values needs, where the generator has just been made -/
structure GenReady (prog : Program) (w : World) (A : Around) (env : Env) (scope : Scope) (cl : List (Str × Addr)) (nm : Str) (elt : Expr) (s₂ : Shared) (it g a : Nat) (vs : List Value) (Ok : Value → Prop) (F : Value → Value → Prop) : Prop where
  hl : s₂.heap.NoLimit
  ha : a ≤ s₂.heap.objs.size
  hit : a ≤ it
  hg : s₂.heap.IsGen it g
  hgs : ∃ gs, s₂.gens[g]? = some gs ∧ ∀ (D C : Addr) (s' : Shared), D < s'.heap.objs.size → C < s'.heap.objs.size → s₂.heap.objs.size ≤ D → s₂.heap.objs.size ≤ C → s₂.heap.StaysIn s'.heap → s'.gens = (s₂.setGen g .running).gens → Grew s₂ s' →
    GoesL (model prog w) A.in1 (GP.prot ⟨a, g, fun b => b = D ∨ b = C ∨ b = it⟩) vs gs s'
  hcs : cStatics < a
  hok : ∀ v ∈ vs, Ok v
  hsz : vs.length ≤ sizeLine
  helt : ∀ C v s m, s₂.heap.objs.size ≤ C → Ok v → s.heap.Ns C m → m nm = some v → (∀ b o, s₂.heap.get? b = some o → b < a → s.heap.get? b = some o) → wpAny (model prog w) A (eval elt (compEnvC scope cl C env)) (fun y s' => F v y ∧ Keeps s s') (fun _ _ => False) s
/-- how a comprehension over a generator leaves the state -/
structure After (a g : Nat) (skip : Addr → Prop) (σ s : Shared) : Prop where
  heap : ∀ b o, σ.heap.get? b = some o → b < a → ¬ skip b → s.heap.get? b = some o
  gens : ∀ i, i < g → s.gens[i]? = σ.gens[i]?
  fin : ∀ i z, g ≤ i → s.gens[i]? = some z → z = .finished
  os : s.os = σ.os
  drawn : s.drawn = σ.drawn
theorem After.of {a g : Nat} {σ s : Shared} (m : Mid ⟨a, g, fun _ => False⟩ σ s) (f : AllFin g s) (e : s.gens[g]? = some .finished) : After a g (fun _ => False) σ s :=
  ⟨fun b o h1 h2 _ => m.1 b o h1 (.inl h2), m.2.1, fun i z h1 h2 => by
    rcases Nat.lt_or_eq_of_le h1 with q | rfl
    · exact f i z q h2
    · rw [e] at h2; exact (Option.some.inj h2).symm, m.2.2.2.1, m.2.2.2.2.1⟩
section
variable {prog : Program} {w : World} {A : Around} {env : Env}
theorem eval_compL {elt iter : Expr} {nm : Str} {px : Pos} {scope : Scope} {cl : List (Str × Addr)} {pos : Pos} {s : Shared} {Ok : Value → Prop} {F : Value → Value → Prop} {Q : Value → Shared → Prop}
    (hh : A.handled = none) (hroom : A.depth < recursionLimit) (hclos : closureFor scope env = pure cl) (hcell : ∀ y ∈ scope.names, y.2 ≠ .cell) (hkind : scope.kind = .function)
    (hnames : ∀ y ∈ scope.names, y.2 = .local → scope.names.lookup y.1 = some .local) (hx : scope.names.lookup nm = some .local) (hs : ∀ x, foldedSetIterable iter env x = pure x)
    (h : wpL (model prog w) A (eval iter env) (fun xv s₂ => ∃ it g a vs, xv = .ref it ∧ GenReady prog w A env scope cl nm elt s₂ it g a vs Ok F ∧
      ∀ D s' zs, s₂.heap.get? D = none → All2 F vs zs → s'.heap.PlainList D zs.toArray → After a g (fun _ => False) s₂ s' → Q (.ref D) s') (fun _ _ => False) s) :
    wpL (model prog w) A (eval (.ListComp elt [⟨.Name nm px, iter, [], 0⟩] scope pos) env) Q (fun _ _ => False) s := by
  rw [eval_ListComp]
  refine comprehensionL (use := none) rfl hs hclos hkind hnames (wpL_mono h (fun xv s₂ h₂ => ?_) fun _ _ e => e)
  obtain ⟨it, g, a, vs, rfl, r, hQ⟩ := h₂
  obtain ⟨gs, hgs, hgoes⟩ := r.hgs
  refine wpL_of (wpAny_pyIter_gen r.hg ?_)
  refine comp_blockL (RR := fun acc C => compPostL (model prog w) A none Q acc C) hh hroom hcell hkind hx r.hl r.ha r.hit r.hg hgs r.hcs hgoes r.hok r.hsz r.helt ?_
  intro D C s' zs m' hD hC hDC hF hp hn hm hf he
  refine ⟨m', hn, fun h' hs' => hQ D _ zs hD hF (hp.extBut hs'.extBut hDC) ?_⟩
  have A₁ := After.of hm hf he
  refine ⟨fun b o e hb hn => hs'.extBut b o ?_ (A₁.heap b o e hb hn), A₁.gens, A₁.fin, A₁.os, A₁.drawn⟩
  rintro rfl; rw [hC] at e; cases e
theorem assign_compL {elt iter : Expr} {nm y : Str} {px py : Pos} {scope : Scope} {cl : List (Str × Addr)} {pos spos : Pos} {s : Shared} {Ok : Value → Prop} {F : Value → Value → Prop} {Q : Flow → Shared → Prop}
    (hh : A.handled = none) (hroom : A.depth < recursionLimit) (hsw : swapsWith (.ListComp elt [⟨.Name nm px, iter, [], 0⟩] scope pos) (some (.Name y py)) spos.line env = pure true)
    (hclos : closureFor scope env = pure cl) (hcell : ∀ y ∈ scope.names, y.2 ≠ .cell) (hkind : scope.kind = .function)
    (hnames : ∀ y ∈ scope.names, y.2 = .local → scope.names.lookup y.1 = some .local) (hx : scope.names.lookup nm = some .local) (hs : ∀ x, foldedSetIterable iter env x = pure x)
    (hy : env.kindOf y = some .local) (hp : (env.scope.kind == .class || (env.scope.kind == .module && env.locals != env.globals)) = false)
    (h : wpL (model prog w) A (eval iter env) (fun xv s₂ => ∃ it g a vs m, xv = .ref it ∧ GenReady prog w A env scope cl nm elt s₂ it g a vs Ok F ∧ s₂.heap.Ns env.locals m ∧ env.locals < a ∧
      ∀ D s' zs, s₂.heap.get? D = none → All2 F vs zs → s'.heap.PlainList D zs.toArray → After a g (fun b => b = env.locals) s₂ s' → s'.heap.Ns env.locals (fun z => if z = y then some (.ref D) else m z) → Q .next s') (fun _ _ => False) s) :
    wpL (model prog w) A (exec (.Assign [.Name y py] (.ListComp elt [⟨.Name nm px, iter, [], 0⟩] scope pos) spos) env) Q (fun _ _ => False) s := by
  rw [exec_Assign_Name_used _ _ _ _ hsw]
  refine wpL_bind (wpL_of (wpAny_standAt (wpL_bind ?_)))
  show wpL _ A (do let _ ← comprehension (.ListComp elt [⟨.Name nm px, iter, [], 0⟩] scope pos) scope env _ (newList []) false (eval iter env) (some (assign (.Name y py) env))) _ _ s
  refine wpL_bind (wpL_mono (comprehensionL (use := some (assign (.Name y py) env)) (Q := fun _ s' => Q .next s') rfl hs hclos hkind hnames (wpL_mono h (fun xv s₂ h₂ => ?_) fun _ _ e => e)) (fun _ s' hq => wpL_pure (wpL_pure hq)) fun _ _ e => e)
  obtain ⟨it, g, a, vs, m, rfl, r, hn, hLa, hQ⟩ := h₂
  obtain ⟨gs, hgs, hgoes⟩ := r.hgs
  refine wpL_of (wpAny_pyIter_gen r.hg ?_)
  refine comp_blockL (RR := fun acc C => compPostL (model prog w) A (some (assign (.Name y py) env)) (fun _ s' => Q .next s') acc C) hh hroom hcell hkind hx r.hl r.ha r.hit r.hg hgs r.hcs hgoes r.hok r.hsz r.helt ?_
  intro D C s' zs m' hD hC hDC hF hp' hnC hm hf he
  have A₁ := After.of hm hf he
  have hLC : env.locals ≠ C := by rintro rfl; obtain ⟨o, _, _, ho, _⟩ := hn; rw [hC] at ho; cases ho
  have hLD : env.locals ≠ D := by rintro rfl; obtain ⟨o, _, _, ho, _⟩ := hn; rw [hD] at ho; cases ho
  show wpL _ A (assign (.Name y py) env (.ref D)) _ _ _
  refine wpL_of (wpAny_assign_Name (wpAny_storeName_local hy (hn.at' fun o e => A₁.heap _ o e hLa id) (fun h₂ hn₂ hs₂ => ?_) hp))
  refine ⟨m', hnC.sameBut hs₂ (Ne.symm hLC), fun h₃ hs₃ => ?_⟩
  refine hQ D _ zs hD hF ((hp'.extBut hs₂.extBut (Ne.symm hLD)).extBut hs₃.extBut hDC) ⟨fun b o e hb hne => hs₃.extBut b o ?_ (hs₂.extBut b o hne (A₁.heap b o e hb id)), A₁.gens, A₁.fin, A₁.os, A₁.drawn⟩ (hn₂.sameBut hs₃ hLC)
  rintro rfl; rw [hC] at e; cases e
end
abbrev WalkL (q : Program) (loose : List Str) (XP : (Str → Option Value) → Heap → Prop) (YP : World → Heap → Prop) (r : RowW) (d : DefRec) (kwd : List (Str × Expr)) (run : Value → List Value → Sem Value) : Prop :=
  ∀ (w : World) (s₀ s₁ : Shared) (mg mb : Str → Option Value), Ground q loose r.records XP w s₀ mg mb s₁.heap → YP w s₁.heap → ∀ (a : Addr) (o : Obj) (pm cd doc dV kV : Value), s₁.heap.get? a = some o →
    o.data = .func { Calls.docDef d.name d.params d.body d.scope pm cd doc with defaults := dV, kwdefaults := kV } → s₁.heap.CodeRec cd d.name → Dflts mg s₁.heap d.params kwd dV kV → mg d.name = some (.ref a) → s₁.gens = #[] →
    ∀ (args : List WData) (vals : List Value) (as : List Addr), r.claim.pre args = true → WData.layableAll args = true → ReadsAllW r.records (classAt s₀.heap) s₁.heap vals args as → WellAll w.params s₁.heap vals args → (∀ a ∈ as, (a == sysModules) = false) → s₁.heap.life.registered = [] →
      wpL (model r.prog w) callerA (run (.ref a) vals) (fun v s' => GoodWG r.claim (classAt s₀.heap) (ExcName.means s₀.heap) args s₁ (.ok (.ret v)) { s' with gens := #[] } ∧ leftWithCleanup s'.gens = false) (fun _ _ => False) s₁
theorem wrap_self {α : Type} (t : Sem α) : t = t.wrap .pure .raise id id := by
  have : t.bind .pure = t := by induction t <;> simp only [Sem.bind, *]
  rw [← Sem.bind_eq_wrap, this]
theorem thread_endsL {prog : Program} {w : World} {t : Sem PySem.Fin} {s : Shared} {R : Result → Shared → Prop} (hreg : s.asleep)
    (h : wpL (model prog w) callerA t (fun fin s' => ∃ f, fin = .done f ∧ (R (.ok f) s' ∧ leftWithCleanup s'.gens = false)) (fun _ _ => False) s) :
    ∃ n r s' s'', schedN (denote table) prog w n (.single s ⟨t, .builtin "claim.caller" {}, default, []⟩) = .halted (outcomeOf r) s' ∧ s'.forget = s''.forget ∧ R r s'' ∧ s''.heap.life = s.heap.life := by
  have e := wrap_self t
  have key := h (fun s₁ t₁ => ∃ s' t', Path (model prog w) s₁ t₁ s' t' ∧ ∃ f c p, t' = ⟨.pure (.done f), c, p, []⟩ ∧ R (.ok f) s' ∧ leftWithCleanup s'.gens = false) (up_path _ _) .pure .raise id id (.builtin "claim.caller" {}) [] default ?_ ?_ fun _ _ _ q => q.elim
  · rw [← e] at key
    obtain ⟨s', t', hp, f, c, p, rfl, hR, hl⟩ := key
    obtain ⟨n, s'', a, b⟩ := path_sched (M := model prog w) (r := .ok f) hp (c := c) (p := p) rfl hl s _ rfl rfl hreg
    exact ⟨n, .ok f, s'', s', a, b, hR, hp.life⟩
  · exact caller_in
  · rintro a p' s' ⟨f, rfl, hR, hl⟩
    exact ⟨s', _, .refl, f, _, p', rfl, hR, hl⟩

theorem callFrom_L {c : ClaimW} {tree : List Value → Sem PySem.Fin} {w : World} {s : Shared} {free : Addr → Prop} {gens : Prop} {kept : Heap → Prop} (hz : s.asleep) (hgens : s.gens = #[])
    (hspec : ∀ args, c.pre args = true → WData.layableAll args = true → ∀ ord : List DictEntry → List DictEntry, (∀ l, (ord l).Perm l) →
      ∃ vs s₁, layAllW c.records (classAt s.heap) w.params ord args s = some (vs, s₁) ∧
        wpL (model c.prog w) callerA (tree vs) (fun fin s' => ∃ f, fin = .done f ∧ ((c.Ends s args vs s₁ (.ok f) s' ∧ s'.os = s.os ∧ kept s'.heap) ∧ leftWithCleanup s'.gens = false)) (fun _ _ => False) s₁) :
    c.CallFrom (fun vs => ⟨tree vs, .builtin "claim.caller" {}, default, []⟩) w free gens kept s := by
  intro args hpre hlay ord hord
  obtain ⟨vs, s₁, hlaid, hcode⟩ := hspec args hpre hlay ord hord
  have hal := layAllW_rest _ _ _ hlaid
  obtain ⟨k, r, s', s'', hsched, hfo, ⟨hcase, hos, hkp⟩, hlf⟩ := thread_endsL (prog := c.prog) (w := w) (t := tree vs) (s := s₁) (R := fun r s' => c.Ends s args vs s₁ r s' ∧ s'.os = s.os ∧ kept s'.heap) (Shared.asleep_of_life hal.2.2.2 hz) hcode
  obtain ⟨eh, _, _, eo, _⟩ := Shared.forget_eq hfo
  have hcase := hcase.congr eh
  have hkp : kept s'.heap := by rw [eh]; exact hkp
  rw [← eo] at hos
  have hlife : s'.heap.life = s.heap.life := (congrArg Heap.life eh).trans (hlf.trans hal.2.2.2)
  refine ⟨vs, s₁, hlaid, k, _, s', hsched, ?_, (fun _ i x hx => by rw [hgens] at hx; simp at hx), hkp, by rw [hlife], Shared.rest_eq hos⟩
  rcases hcase with ⟨v, rfl, d1, d2, d3, d4, d5⟩ | ⟨e, ob, cls, rfl, d1, d2, d3, d4, d5⟩
  · exact .inl ⟨v, rfl, d1, d2, d3, fun b o y _ => d4 b o y, d5⟩
  · exact .inr ⟨e, ob, cls, rfl, d1, d2, d3, d4, fun b o y _ => d5 b o y⟩
theorem open_anyL {r : RowW} {run : Value → List Value → Sem Value} {tree : List Value → Sem PySem.Fin} {q : Program} {loose defs kps : List Str} {writes : Bool} {Xt : Shared → Bool} {XP : (Str → Option Value) → Heap → Prop} {α : Type} {Yf : Shared → α} {Ya : World → α} {YP : World → Heap → Prop} {N : Nat}
    (left : LeftO r.prog q loose Xt Yf Ya N) (hY : ∀ w s, Yf s = Ya w → YP w s.heap) (hYk : ∀ w h h', YP w h → (∀ b o, h.get? b = some o → h'.get? b = some o) → YP w h') (hX : ∀ s, Xt s = true → XP (s.heap.nsMap mainGlobals) s.heap) (hXk : ∀ mg h h', XP mg h → (∀ b o, h.get? b = some o → h'.get? b = some o) → XP mg h')
    (hRf : ∀ s, Xt s = true → RecFacts r.records s.heap) (hwr : (!writes || r.records.isEmpty) = true) (ok : (chainsOk q && opensWell r.prog && (frees r && r.within.isEmpty)) = true) (hb : r.prog.bare) (hw : r.promised)
    (ht : ∀ vs (w : World) (s : Shared) mg f (Q : PySem.Fin → Shared → Prop), s.heap.Ns mainGlobals mg → mg r.name = some f → wpL (model r.prog w) callerA (run f vs) (fun v s' => Q (.done (.ret v)) s') (fun _ _ => False) s → wpL (model r.prog w) callerA (tree vs) Q (fun _ _ => False) s)
    (pin : ∀ w s, s.heap.isNs mainGlobals = true → Ground q loose [] XP w s (s.heap.nsMap mainGlobals) (s.heap.nsMap builtinsNs) s.heap → ∀ n ∈ defs, isTheDefsW r.prog s.heap n)
    (call : ∀ (w : World) (s₀ s₁ : Shared) (mg mb : Str → Option Value), Ground q loose r.records XP w s₀ mg mb s₁.heap → YP w s₁.heap → ∀ (args : List WData) (vs : List Value) (as : List Addr),
      r.claim.pre args = true → WData.layableAll args = true → Laid r.records w s₀ s₁ args vs as → sysModules < s₀.heap.objs.size → s₁.heap.life.registered = [] → ∃ f, mg r.name = some f ∧
        wpL (model r.prog w) callerA (run f vs) (fun v s' => GoodWG r.claim (classAt s₀.heap) (ExcName.means s₀.heap) args s₁ (.ok (.ret v)) { s' with gens := #[] } ∧ leftWithCleanup s'.gens = false)
          (fun _ _ => False) s₁) : r.claim.HoldsOpenBy (fun vs => ⟨tree vs, .builtin "claim.caller" {}, default, []⟩) defs kps writes := by
  obtain ⟨ok, k5⟩ := Bool.and_eq_true_iff.mp ok
  obtain ⟨hch, o1⟩ := Bool.and_eq_true_iff.mp ok
  obtain ⟨k5, k6⟩ := Bool.and_eq_true_iff.mp k5
  obtain ⟨hsame, hu, ha, hap, hm⟩ := frees_parts k5
  refine ⟨⟨hb, o1, by show r.makers.map _ = []; rw [hm]; rfl⟩, hw.witness, fun w => ⟨(left.behind hX hch w).1, fun s' hs' => ?_⟩⟩
  obtain ⟨s₀, hf, hg0, s, hT, hz, hgens, hg, G00, y⟩ := (left.behind (XP := fun mg h => XP mg h ∧ RecFacts r.records h) (fun s hs => ⟨hX s hs, hRf s hs⟩) hch w).2 s' hs'
  have G0 : Ground q loose [] XP w s (s.heap.nsMap mainGlobals) (s.heap.nsMap builtinsNs) s.heap := ⟨G00.T, G00.B, G00.D, G00.TE, G00.TD, G00.W, G00.X.1, G00.cls, G00.has, G00.apart, G00.once, G00.K⟩
  have RF := G00.X.2
  have hT' := hT
  refine ⟨s₀, hf, hg0, s, hT, pin w s hg G0, RF.1, RF.2.1, ?_⟩
  have hgens : s.gens = #[] := Array.eq_empty_of_size_eq_zero (beq_iff_eq.mp hgens)
  have G : Ground q loose r.records XP w s _ _ s.heap := RF.ground G0
  refine callFrom_L (c := r.claim) hz hgens fun args hpre hlay ord hord => ?_
  obtain ⟨⟨vs, s₁⟩, hlaid⟩ := Option.isSome_iff_exists.mp (layAllW_isSome (P := w.params) (ord := ord) G.has args r.args s (pre_splitW hpre).1)
  have keeps := layAllW_keeps _ _ _ hlaid
  have hal := layAllW_rest _ _ _ hlaid
  obtain ⟨as, hrd, hin, hold⟩ := reads_layAllW hord _ _ _ hlaid hlay s₁.heap (fun _ _ e => e)
  have L : Laid r.records w s s₁ args vs as := ⟨⟨ord, hord, hlaid⟩, hrd, hin, hold, keeps, hal.1.trans hgens, hal.2.2.1⟩
  have G₁ := G.keeps hXk keeps
  obtain ⟨f, hf, h⟩ := call w s s₁ _ _ G₁ (hYk _ _ _ (hY w s y) keeps) args vs as hpre hlay L G.low (by rw [hal.2.2.2]; exact hz.1)
  have hi := ident_freeW hu ha hap
  have hwi : r.claim.within = [] := List.isEmpty_iff.mp k6
  exact ⟨vs, s₁, hlaid, ht vs w s₁ _ f _ G₁.T.g hf (wpL_mono h (fun v s' g => ⟨_, rfl, have z := g.1.laid (c := r.claim) hsame hwi hi L; ⟨⟨z.1.congr rfl, z.2.1, fun q => ⟨namesKept_of hT' hg kps keeps g.1.2.1.old, noTable hwr q⟩⟩, g.2⟩⟩) fun _ _ x => x)⟩
theorem holds_openL {r : OpenRow} {q : Program} {loose : List Str} {Xt : Shared → Bool} {XP : (Str → Option Value) → Heap → Prop} {α : Type} {Yf : Shared → α} {Ya : World → α} {YP : World → Heap → Prop} {d : DefRec} {kwd : List (Str × Expr)} {N : Nat}
    (left : LeftO r.prog q loose Xt Yf Ya N) (hY : ∀ w s, Yf s = Ya w → YP w s.heap) (hYk : ∀ w h h', YP w h → (∀ b o, h.get? b = some o → h'.get? b = some o) → YP w h')
    (hX : ∀ s, Xt s = true → XP (s.heap.nsMap mainGlobals) s.heap) (hXk : ∀ mg h h', XP mg h → (∀ b o, h.get? b = some o → h'.get? b = some o) → XP mg h')
    (hdef : defOf q r.name = some (d, kwd)) (hp : r.prog.theDef r.name = some (d.params, d.body, d.scope)) (hk : kwWritten? d.params.kwonlyargs d.params.kw_defaults = some kwd) (hRf : ∀ s, Xt s = true → RecFacts r.records s.heap) (hwr : (!r.writes || r.records.isEmpty) = true)
    (k1 : r.wellSaid = true) (ok : (chainsOk q && opensWell r.prog && (frees r.toRowW && r.within.isEmpty)) = true) (hb : r.prog.bare) (hw : r.toRowW.promised)
    (call : WalkL q loose XP YP r.toRowW d kwd fun f vs => PySem.call f vs) : r.Holds := by
  refine ⟨k1, hw, open_anyL (r := r.toRowW) (run := fun f vs => PySem.call f vs) (tree := fun vs => do match ← nsGet mainNs r.name with
      | some f => do ret (← PySem.call f vs)
      | none => unsupported "claim.caller:no-such-global") left hY hYk hX hXk hRf hwr ok hb hw
    (fun vs w s mg f Q hg hf h => wpL_bind (wpL_of (wpAny_nsGet hg (by rw [hf]; exact wpL_bind (wpL_mono h (fun _ _ x => wpL_pure x) fun _ _ x => x)))))
    (fun w s hg G n hn => ?_) fun w s₀ s₁ mg mb G Y args vs as hpre hlay L low reg => ?_⟩
  · obtain rfl : n = r.name := by split at hn <;> simp_all
    exact pinned_of_view hg G hdef hp hk
  · obtain ⟨a, o, pm, cd, doc, dV, kV, h1, h2, h3, h4, h5⟩ := G.fn hdef
    exact ⟨.ref a, h1, call w s₀ s₁ mg mb G Y a o pm cd doc dV kV h2 h3 h4 h5 (defOf_name hdef ▸ h1) L.gens args vs as hpre hlay L.reads L.well (L.low low) reg⟩
section
variable {prog : Program} {w : World} {A : Around} {s : Shared}
theorem funcL {body env} {R : Result → Shared → Prop} (h : wpL (model prog w) (A.deeper env) (execs body env) (fun f s' => R (.ok (.ret (match f with | .ret v => v | _ => .none))) s') (fun _ _ => False) s) : codeL (model prog w) A (.func body env) R s := by
  refine codeL_of_tree ?_
  show wpL _ (A.deeper env) (do point; match ← (execs body env).onRaise (leaving env) with | .ret v => ret v | _ => ret .none) _ _ s
  refine wpL_bind (wpL_of (wpAny_point (wpL_bind (wpL_onRaise (wpL_mono h (fun f s' h' => ?_) fun _ _ h' => h'.elim)))))
  cases f <;> exact wpL_pure h'
theorem call_defL {R : Result → Shared → Prop} {a : Addr} {o : Obj} {fd : FuncData} {body : List Stmt} {args : Args} {binds : List (Str × Value)}
    (hroom : A.depth < recursionLimit) (ho : s.heap.get? a = some o) (hdata : o.data = .func fd) (hlim : s.heap.NoLimit) (hcd : s.heap.CodeRec fd.code fd.qualname) (hbody : fd.body = .stmts body) (hbind : BindsTo s fd args binds)
    (hcell : ∀ x ∈ fd.scope.names, x.2 ≠ .cell) (hloc : ∀ x ∈ binds, fd.scope.names.lookup x.1 = some .local)
    (h : ∀ h₀, h₀.Ns s.heap.objs.size (fun x => binds.reverse.lookup x) → (∀ b o, s.heap.get? b = some o → h₀.get? b = some o) →
      wpL (model prog w) (A.deeper (callEnv fd s.heap.objs.size a)) (execs body (callEnv fd s.heap.objs.size a)) (fun f s' => R (.ok (.ret (match f with | .ret v => v | _ => .none))) s') (fun _ _ => False) { s with heap := h₀, toks := s.toks + binds.length })
    (hco : fd.scope.isCoroutine = false) (hgen : fd.scope.isGenerator = false) (hk : fd.scope.kind = .function) : codeL (model prog w) A (.call (.ref a) args) R s := by
  refine codeL_of_tree ?_
  show wpL _ A.in1 (callAny (.ref a) args) _ _ s
  simp only [callAny]
  refine wpL_bind (wpL_of (wpAny_load ho ?_))
  obtain ⟨c, oc, vs, tq, hc, hoc, hdc, hq⟩ := hcd
  simp only [hdata, callFunction, hco, hgen, hbody, hc]
  refine wpL_bind (m := field (.ref c) 1) (wpL_of (wpAny_field hoc hdc hq (wpL_bind (wpL_pure ?_))))
  refine wpL_bind (wpL_of (hbind _ _ _ _ ?_))
  refine wpL_bind (wpL_of (wpAny_newFunctionEnv hcell hloc (fun h₀ hns₀ hsb₀ => ?_) hk))
  refine wpL_bind (wpL_of (wpAny_enterFrame (hlim.fresh _ hsb₀) hroom ?_))
  refine wpL_pure (And.intro rfl ?_)
  rw [← hc]
  exact funcL (h h₀ hns₀ fun b o e => hsb₀.extBut b o (Nat.ne_of_lt (Heap.lt_size e)) (Heap.get?_push_of_some _ e))
theorem execsL_cons {st : Stmt} {rest : List Stmt} {env : Env} {Q : Flow → Shared → Prop} (h : wpL (model prog w) A (exec st env) (fun f s' => match f with | .next => wpL (model prog w) A (execs rest env) Q (fun _ _ => False) s' | f => Q f s') (fun _ _ => False) s) :
    wpL (model prog w) A (execs (st :: rest) env) Q (fun _ _ => False) s := by
  rw [execs_cons]
  refine wpL_bind (wpL_mono h (fun f s' h' => ?_) fun _ _ q => q)
  cases f with
  | next => exact h'
  | _ => exact wpL_pure h'
/-- a stretch of statements that the library walks -/
theorem execsL_app {xs ys : List Stmt} {env : Env} {Q : Flow → Shared → Prop} (h : wpL (model prog w) A (execs xs env) (fun f s' => match f with | .next => wpL (model prog w) A (execs ys env) Q (fun _ _ => False) s' | f => Q f s') (fun _ _ => False) s) :
    wpL (model prog w) A (execs (xs ++ ys) env) Q (fun _ _ => False) s := by
  have e : execs (xs ++ ys) env = execs xs env >>= fun f => match f with | .next => execs ys env | f => pure f := by
    clear h
    induction xs with
    | nil => rfl
    | cons x xs ih =>
      rw [List.cons_append, execs_cons, execs_cons, ih]
      show Sem.bind _ _ = Sem.bind (Sem.bind _ _) _
      rw [Sem.bind_eq_wrap, Sem.bind_eq_wrap, Sem.bind_eq_wrap, Sem.wrap_wrap]
      refine Sem.wrap_congr _ _ _ (fun f => ?_) fun _ => rfl
      cases f with
      | next => exact Sem.bind_eq_wrap _ _
      | _ => rfl
  rw [e]
  refine wpL_bind (wpL_mono h (fun f s' h' => ?_) fun _ _ q => q)
  cases f with
  | next => exact h'
  | _ => exact wpL_pure h'
end
section
variable {prog : Program} {w : World} {A : Around} {s : Shared} {env : Env}
theorem ifL {test : Expr} {body orelse : List Stmt} {pos : Pos} {Q : Flow → Shared → Prop}
    (h : wpL (model prog w) A (isTrue test env (eval test env)) (fun b s' => if b then wpL (model prog w) A (execs body env) Q (fun _ _ => False) s' else wpL (model prog w) A (execs orelse env) Q (fun _ _ => False) s') (fun _ _ => False) s) :
    wpL (model prog w) A (exec (.If test body orelse pos) env) Q (fun _ _ => False) s := by
  show wpL _ A (do standAt pos; if ← isTrue test env (eval test env) then execs body env else execs orelse env) _ _ s
  refine wpL_bind (wpL_of (wpAny_standAt (wpL_bind (wpL_mono h (fun b s' h' => ?_) fun _ _ q => q))))
  cases b with
  | true => exact h'
  | false => exact h'
theorem orL_nil {Q : Bool → Shared → Prop} (h : Q false s) : wpL (model prog w) A (allTrue .Or [] env) Q (fun _ _ => False) s := wpL_pure h
theorem orL_cons {x : Expr} {rest : List Expr} {Q : Bool → Shared → Prop}
    (h : wpL (model prog w) A (isTrue x env (eval x env)) (fun b s₁ => if b then Q true s₁ else wpL (model prog w) A (allTrue .Or rest env) Q (fun _ _ => False) s₁) (fun _ _ => False) s) : wpL (model prog w) A (allTrue .Or (x :: rest) env) Q (fun _ _ => False) s := by
  show wpL _ A (do match BoolOp.Or, ← isTrue x env (eval x env) with | .And, false => pure false | .Or, true => pure true | _, _ => allTrue .Or rest env) Q _ s
  refine wpL_bind (wpL_mono h (fun b s₁ h₁ => ?_) fun _ _ q => q)
  cases b with
  | true => exact wpL_pure h₁
  | false => exact h₁
theorem isTrueL_BoolOp {op : BoolOp} {values : List Expr} {pos : Pos} {whole : Sem Value} {Q : Bool → Shared → Prop} (h : wpL (model prog w) A (allTrue op values env) Q (fun _ _ => False) s) :
    wpL (model prog w) A (isTrue (.BoolOp op values pos) env whole) Q (fun _ _ => False) s := h
theorem isTrueL_Compare1 {l op r pos whole} {Q : Bool → Shared → Prop}
    (h : wpL (model prog w) A (eval l env) (fun a s₁ => wpAny (model prog w) A (eval r env) (fun b s₂ => wpAny (model prog w) A (compareOp op a b)
      (fun c s₃ => wpAny (model prog w) A (truthy c) Q (fun _ _ => False) s₃) (fun _ _ => False) s₂) (fun _ _ => False) s₁) (fun _ _ => False) s)
    (hm : behindInMarks op r = false := by with_unfolding_all rfl) : wpL (model prog w) A (isTrue (.Compare l [op] [r] pos) env whole) Q (fun _ _ => False) s := by
  rw [isTrue_Compare1, markedBehindIn_of_false hm]
  refine wpL_bind (wpL_mono h (fun a s₁ h₁ => wpL_of ?_) fun _ _ q => q)
  refine wpAny_bind (wpAny_holding (wpAny_mono h₁ (fun b s₂ h₂ => wpAny_bind (wpAny_standAt (wpAny_bind ?_))) fun _ _ q => q))
  intro Γ p hΓ
  rw [Sem.wp_operate]
  exact Sem.wp_mono _ Γ _ (fun c p₃ s₃ h₃ => wpAny_holding (vs := [c]) h₃) (fun _ _ _ q => q) _ _ (h₂ Γ p hΓ)
end
/-- the head's last step, for a walk in the own logic; in this namespace the head's tactic finds it under the library's short name -/
theorem PySem.W.holds_open {r : OpenRow} {q : Program} {loose : List Str} {Xt : Shared → Bool} {XP : (Str → Option Value) → Heap → Prop} {α : Type} {Yf : Shared → α} {Ya : World → α} {YP : World → Heap → Prop} {d : DefRec} {kwd : List (Str × Expr)} {N : Nat}
    (left : LeftO r.prog q loose Xt Yf Ya N) (hY : ∀ w s, Yf s = Ya w → YP w s.heap) (hYk : ∀ w h h', YP w h → (∀ b o, h.get? b = some o → h'.get? b = some o) → YP w h')
    (hX : ∀ s, Xt s = true → XP (s.heap.nsMap mainGlobals) s.heap) (hXk : ∀ mg h h', XP mg h → (∀ b o, h.get? b = some o → h'.get? b = some o) → XP mg h')
    (hdef : defOf q r.name = some (d, kwd)) (hp : r.prog.theDef r.name = some (d.params, d.body, d.scope)) (hk : kwWritten? d.params.kwonlyargs d.params.kw_defaults = some kwd) (hRf : ∀ s, Xt s = true → RecFacts r.records s.heap) (hwr : (!r.writes || r.records.isEmpty) = true)
    (k1 : r.wellSaid = true) (ok : (chainsOk q && opensWell r.prog && (frees r.toRowW && r.within.isEmpty)) = true) (hb : r.prog.bare) (hw : r.toRowW.promised)
    (call : WalkL q loose XP YP r.toRowW d kwd fun f vs => _root_.PySem.call f vs) : r.Holds :=
  holds_openL left hY hYk hX hXk hdef hp hk hRf hwr k1 ok hb hw call
open_top hd for PySem.Challenge.rw_bu5039_01
theorem fill_all : (PySem.Challenge.rw_bu5039_01 = PySem.Challenge.rw_bu5039_01 ∧ Mine.hd.heap_39 = Mine.hd.heap_39) := by
  w_top off
  k_fill
  exact ⟨rfl, rfl⟩
abbrev PG : Program := PySem.Challenge.pw_bu5039_01
abbrev Ar (dp un : Nat) (outer : List Env) : Around := { handled := none, depth := dp, frames := some outer, guards := some [], units := un }
/-- the ground: what every call of the law's stands on -/
structure Gd (w : World) (H₀ : Heap) (mean : ExcName → Option Value) (mg mb : Str → Option Value) : Prop where
  X : (Mine.hd.heap_39 w.params).In H₀
  T : Top Mine.hd.view_39 (looseW Mine.hd.view_39 [Str.ofString "Base", Str.ofString "Node", Str.ofString "Leaf"]) mean mg mb H₀
/-- an object whose own dict reads as a -/
def Inst (h : Heap) (x C : Addr) (a : Str → Option Value) : Prop :=
  ∃ dx es n, h.get? x = some (instObj C dx) ∧ h.get? dx = some (dictOf es n) ∧ ∀ nm, getL nm es = some (a nm)
theorem Inst.keeps {h h' x C a} (i : Inst h x C a) (k : h.StaysIn h') : Inst h' x C a := by
  obtain ⟨dx, es, n, h1, h2, h3⟩ := i
  exact ⟨dx, es, n, k _ _ h1, k _ _ h2, h3⟩
/-- a list of the call's own -/
def LAt (H₀ h : Heap) (l : Addr) (vs : List Value) : Prop := ∃ n, h.get? l = some (listOf vs.toArray n) ∧ H₀.get? l = none
theorem LAt.keeps {H₀ h h' l vs} (i : LAt H₀ h l vs) (k : h.StaysIn h') : LAt H₀ h' l vs := by
  obtain ⟨n, h1, h2⟩ := i
  exact ⟨n, k _ _ h1, h2⟩
theorem Inst.ne_list {h x C a l vs n} (i : Inst h x C a) (hl : h.get? l = some (listOf vs n)) : x ≠ l := by
  obtain ⟨dx, es, k, h1, h2, h3⟩ := i
  rintro rfl
  rw [h1] at hl
  cases hl
theorem ledger1 {H₀ h : Heap} {l : Addr} {vs : List Value} {n : Nat} (e1 : h.get? l = some (listOf vs.toArray n)) (e2 : H₀.get? l = none) : ∀ q ∈ [(l, listOf vs.toArray n)], h.get? q.1 = some q.2 ∧ H₀.get? q.1 = none :=
  List.forall_mem_cons.mpr ⟨⟨e1, e2⟩, List.forall_mem_nil _⟩
theorem ledger1c {l : Addr} {n : Nat} (vs : List Value) : ∀ q ∈ [(l, listOf vs.toArray n)], q.2.cls = .type "list" := List.forall_mem_cons.mpr ⟨rfl, List.forall_mem_nil _⟩
/-- hidden lists leave an object as it was -/
theorem Inst.hide {h x C a} {news : List (Addr × Obj)} (i : Inst h x C a) (hn : ∀ p ∈ news, h.get? p.1 = some p.2) (hc : ∀ p ∈ news, p.2.cls = .type "list") : Inst (hideAll h (news.map (·.1))) x C a := by
  obtain ⟨dx, es, k, h1, h2, h3⟩ := i
  refine ⟨dx, es, k, hideAll_get _ h1 fun q => ?_, hideAll_get _ h2 fun q => ?_, h3⟩
  · obtain ⟨p, hp, rfl⟩ := List.mem_map.mp q
    have e := hn p hp
    rw [h1] at e
    have := hc p hp
    rw [← Option.some.inj e] at this
    cases this
  · obtain ⟨p, hp, rfl⟩ := List.mem_map.mp q
    have e := hn p hp
    rw [h2] at e
    have := hc p hp
    rw [← Option.some.inj e] at this
    exact absurd this (by show ¬ (Value.type "dict" = Value.type "list"); decide)
/-- what a call that only reads gives: a value, on a heap that has only grown -/
def Gives (w : World) (A : Around) (c : Code) (s : Shared) (V : Value → Heap → Prop) : Prop :=
  ∀ R : Result → Shared → Prop, (∀ v h' tk', V v h' → s.heap.StaysIn h' → R (.ok (.ret v)) { s with heap := h', toks := tk' }) → codeAny (model PG w) A c R s
theorem Gives.mono {w A c s V V'} (x : Gives w A c s V) (h : ∀ v h', V v h' → V' v h') : Gives w A c s V' := fun R k => x R fun v h' tk' hv st => k v h' tk' (h v h' hv) st
/-- the same of any tree -/
def GivesT {α : Type} (w : World) (A : Around) (t : Sem α) (s : Shared) (V : α → Heap → Prop) : Prop :=
  ∀ (Q : α → Shared → Prop) (E : Value → Shared → Prop), (∀ v h' tk', V v h' → s.heap.StaysIn h' → Q v { s with heap := h', toks := tk' }) → wpAny (model PG w) A t Q E s
theorem Gives.call {w A f args s V} (x : Gives w A (.call f ⟨args, []⟩) s V) : GivesT w A (call f args) s V := fun Q E k => wpAny_call (x _ fun v h' tk' hv st => k v h' tk' hv st)
theorem GivesT.mono {α : Type} {w A s} {t : Sem α} {V V'} (x : GivesT w A t s V) (h : ∀ v h', V v h' → V' v h') : GivesT w A t s V' := fun Q E k => x Q E fun v h' tk' hv st => k v h' tk' (h v h' hv) st
section
variable {prog : Program} {w : World} {A : Around} {E : Value → Shared → Prop} {s : Shared} {K : Frag} {x C L : Addr} {g H₀ : Heap} {m : Str → Option Value} {name : Str} {v : Value} {a : Str → Option Value} {expr : Bool} {Q : Value → Shared → Prop}
theorem attr_own {attr : Option Value} (F : Fr g L s.heap m) (X : K.In g) (I : Inst g x C a) (hl : a name = some v) (hg : plainGet K C name = true) (hh : hasDictIn K C = true)
    (ha : findIn K (.ref C) name = some attr) (hn : noGet K attr = true) (hv : handedIn v = true) (h : Q v { s with toks := s.toks + 1 }) :
    wpAny (model prog w) A (getAttr (.ref x) name expr) Q E s := by
  obtain ⟨dx, es, n, h1, h2, h3⟩ := I.keeps F.keep
  exact get_value (od := some (dictOf es n)) (X.keeps F.keep) ⟨h1, rfl, rfl, h2⟩ (plainGet_of hg).1 (findObj_own hh ha hn ((lookIn_dict name es n).trans ((h3 name).trans (congrArg some hl)))) hv h
theorem attr_cls {c : Value} (F : Fr g L s.heap m) (X : K.In g) (I : Inst g x C a) (hl : a name = none) (hg : plainGet K C name = true) (hh : hasDictIn K C = true)
    (ha : findIn K (.ref C) name = some (some c)) (hn : specialIn K c "__get__" = some none) (hv : handedIn c = true) (hc : copiedNames.contains name = false) (h : Q c { s with toks := s.toks + 1 }) :
    wpAny (model prog w) A (getAttr (.ref x) name expr) Q E s := by
  obtain ⟨dx, es, n, h1, h2, h3⟩ := I.keeps F.keep
  exact get_value (od := some (dictOf es n)) (X.keeps F.keep) ⟨h1, rfl, rfl, h2⟩ (plainGet_of hg).1 (findObj_cls hh ha hn hv hc ((lookIn_dict name es n).trans ((h3 name).trans (congrArg some hl)))) hv h
theorem attr_prop {p fget : Addr} {rest : List Value} {V : Value → Heap → Prop} (X : K.In s.heap) (I : Inst s.heap x C a) (hg : plainGet K C name = true) (hh : hasDictIn K C = true)
    (ha : findIn K (.ref C) name = some (some (.ref p))) (hn : specialIn K (.ref p) "__get__" = some (some (.builtin "property.__get__"))) (ht : takesIn K (.ref p) = some true) (hp : recIn K p "property" = some (.ref fget :: rest))
    (h : Gives w A.in1 (.call (.ref fget) ⟨[.ref x], []⟩) { s with toks := s.toks + 1 } V)
    (hv : ∀ v h', V v h' → handedIn v = true) : GivesT w A (getAttr (.ref x) name expr) s V := by
  intro Q E k
  obtain ⟨dx, es, n, h1, h2, h3⟩ := I
  have X' := X
  refine get_bind (od := some (dictOf es n)) X' ⟨h1, rfl, rfl, h2⟩ (plainGet_of hg).1 (findObj_data (by obtain ⟨cd, hc, _⟩ := any_some hh; rw [hc]; rfl) ha hn ht) (plainGet_of hg).2 (wpAny_call (prop_get (s := { s with toks := s.toks + 1 }) X' hp ?_))
  exact h _ fun v h' tk' hv' st => handed_on (hv v h' hv') (k v h' tk' hv' st)
theorem meth_own {pl : Sem Bool} {Q : Value × List Value → Shared → Prop} {f : Addr} (F : Fr g L s.heap m) (X : K.In g) (I : Inst g x C a) (hl : a name = none) (hg : plainGet K C name = true)
    (hf : findIn K (.ref C) name = some (some (.ref f))) (ht : isFn K (.ref f) = true) (h : Q (.ref f, [.ref x]) s) : wpAny (model prog w) A (getMethod (.ref x) name pl) Q E s := by
  obtain ⟨dx, es, n, h1, h2, h3⟩ := I.keeps F.keep
  exact method_fn (od := some (dictOf es n)) (X.keeps F.keep) ⟨h1, rfl, rfl, h2⟩ (plainGet_of hg).1 (plainGet_of hg).2 hf (beq_iff_eq.mp ht) (by show (lookIn name (dictOf es n)).map _ = _; rw [lookIn_dict, h3 name, hl]; rfl) h
theorem inst_type (I : Inst g x C a) (F : Fr g L s.heap m) (M : Model) : Looks M s.heap (typeOf (.ref x)) (.ref C) := by
  obtain ⟨dx, es, n, h1, h2, h3⟩ := I.keeps F.keep
  exact InstAt.type (od := some (dictOf es n)) ⟨h1, rfl, rfl, h2⟩
theorem isi_own {c : Value} {b : Bool} (F : Fr g L s.heap m) (X : K.In g) (I : Inst g x C a) (e : kitOne K (.ref C) c = some b) (hg : plainGet K C "__class__" = true) (hdct : hasDictIn K C = true) (ha : findIn K (.ref C) "__class__" = some (some (.builtin "object.__class__")))
    (hn : specialIn K (.builtin "object.__class__") "__get__" = some (some (.builtin "getset_descriptor.__get__"))) (htk : takesIn K (.builtin "object.__class__") = some true) (hm : mroIn K C (.type "object") = some true)
    (h : ∀ tk, Q (.bool b) { s with toks := tk }) : wpAny (model prog w) A (call (.builtin "isinstance") [.ref x, c]) Q E s := by
  obtain ⟨dx, es, n, h1, h2, h3⟩ := I.keeps F.keep
  exact kia_one (kitx_own (x := x) (ox := instObj C dx) (od := dictOf es n) hg hdct ha hn htk hm) (X.keeps F.keep) ⟨h1, rfl, rfl, h2⟩ e (by intro q; cases q) h
theorem is_same {b : Addr} (h : Q (.bool true) s) : wpAny (model prog w) A (compareOp .Is (.ref b) (.ref b)) Q E s := by
  show wpAny _ A (do return Value.bool (← isSame (.ref b) (.ref b))) Q E s
  unfold isSame
  simp only [beq_self_eq_true, if_true]
  exact wpAny_bind (wpAny_pure (wpAny_pure h))
theorem is_other {y D : Addr} {b : Str → Option Value} (F : Fr g L s.heap m) (I : Inst g x C a) (J : Inst g y D b) (hne : x ≠ y) (h : Q (.bool false) s) : wpAny (model prog w) A (compareOp .Is (.ref x) (.ref y)) Q E s := by
  obtain ⟨dx, es, n, h1, _⟩ := I.keeps F.keep
  obtain ⟨dy, es', n', h2, _⟩ := J.keeps F.keep
  exact kto_is h1 h2 hne (by intro e; cases e) h
/-- the frames below -/
structure Fs (H₀ : Heap) (A : Around) (outer : List Env) (h : Heap) : Prop where
  B : Below A H₀ outer h
  fr : ∀ env ∈ outer, ∃ L o es ep, env.frame = some L ∧ h.get? L = some o ∧ o.data = .dict es ep
theorem Fs.keeps {A outer h h'} (x : Fs H₀ A outer h) (k : h.StaysIn h') : Fs H₀ A outer h' :=
  ⟨⟨x.B.stack, fun b o e => k _ _ (x.B.stays b o e), x.B.frames.of_keeps fun b o e _ => ⟨o, k b o e, rfl⟩⟩, fun env he => let ⟨L, o, es, ep, a, b, c⟩ := x.fr env he; ⟨L, o, es, ep, a, k _ _ b, c⟩⟩
theorem Fs.hide {A outer h} {news : List (Addr × Obj)} (x : Fs H₀ A outer h) (st : H₀.StaysIn (hideAll h (news.map (·.1)))) (hn : ∀ p ∈ news, h.get? p.1 = some p.2) (hc : ∀ p ∈ news, p.2.cls = .type "list") (hd : ∀ p ∈ news, ∀ es ep, p.2.data ≠ .dict es ep) :
    Fs H₀ A outer (hideAll h (news.map (·.1))) := by
  have key : ∀ env ∈ outer, ∀ a ∈ news.map (·.1), env.frame ≠ some a := fun env he a ha hf => by
    obtain ⟨L, o, es, ep, e1, e2, e3⟩ := x.fr env he
    rw [hf] at e1
    cases e1
    obtain ⟨p, hp, rfl⟩ := List.mem_map.mp ha
    have e := hn p hp
    rw [e2] at e
    cases e
    exact hd p hp es ep e3
  refine ⟨⟨x.B.stack, st, funFrames_hideAll x.B.frames key⟩, fun env he => ?_⟩
  obtain ⟨L, o, es, ep, e1, e2, e3⟩ := x.fr env he
  exact ⟨L, o, es, ep, e1, hideAll_get _ e2 fun q => key env he L q e1, e3⟩
theorem Fs.push {A outer h env} {h' : Heap} (x : Fs H₀ A outer h) (F : Fr h L h' m) (hf : env.frame = some L) (hk : env.scope.kind = .function) : Fs H₀ (A.deeper env) (env :: outer) h' := by
  refine ⟨pushX x.B F hf hk, fun e he => ?_⟩
  cases he with
  | head =>
    obtain ⟨o, es, ep, a, b, _⟩ := F.ns
    exact ⟨L, o, es, ep, hf, a, b⟩
  | tail _ he => exact (x.keeps F.keep).fr e he
/-- going into a def of the top's, the lists that it looks into laid on the ledger -/
theorem enter {p : Program} {loose : List Str} {mean : ExcName → Option Value} {mg mb : Str → Option Value} {R : Result → Shared → Prop} {name qual : Str} {params : Arguments} {body : List Stmt} {scope : Scope} {dV kV doc pm cdv ct oc : Value} {an od : Option Addr} {osl : Array (Option Value)} {f : Addr} {args : Args} {binds : List (Str × Value)}
    (news : List (Addr × Obj)) (X : K.In H₀) (T : Top p loose mean mg mb H₀) (st : H₀.StaysIn s.heap) (hN : ∀ p ∈ news, s.heap.get? p.1 = some p.2 ∧ H₀.get? p.1 = none)
    (ho : K.lookup f = some ⟨oc, od, .func (fnOf name qual params body scope dV kV doc pm an cdv ct), osl⟩) (hcd : codeIn K cdv qual = true) (hroom : A.depth < recursionLimit)
    (hbind : BindsTo s (fnOf name qual params body scope dV kV doc pm an cdv ct) args binds) (hloc : ∀ y ∈ binds, scope.names.lookup y.1 = some .local)
    (h : ∀ g L' h₁, g = hideAll s.heap (news.map (·.1)) → K.In g → Top p loose mean mg mb g → Fr g L' h₁ (fun y => binds.reverse.lookup y) → News g L' h₁ news → AllLt L' news →
      wpAny (model prog w) (A.deeper (envOf qual scope L' f cdv)) (execs body (envOf qual scope L' f cdv))
        (fun fl s' => R (.ok (.ret (match fl with | .ret v => v | _ => .none))) s')
        (fun e s' => wpAny (model prog w) (A.deeper (envOf qual scope L' f cdv)) (leaving (envOf qual scope L' f cdv) e) (fun _ s'' => R (.error e) s'') (fun e' s'' => R (.error e') s'') s')
        { s with heap := h₁, toks := s.toks + binds.length })
    (hco : scope.isCoroutine = false) (hgen : scope.isGenerator = false) (hk : scope.kind = .function)
    (hcell : ∀ x ∈ scope.names, x.2 ≠ .cell) : codeAny (model prog w) A (.call (.ref f) args) R s := by
  have sg : H₀.StaysIn (hideAll s.heap (news.map (·.1))) := fun b o e => hideAll_get _ (st b o e) fun q => by
    obtain ⟨p, hp, rfl⟩ := List.mem_map.mp q
    rw [(hN p hp).2] at e; cases e
  refine codeAny_call_def (fd := fnOf name qual params body scope dV kV doc pm an cdv ct) (body := body) (binds := binds) hroom (st _ _ (X _ _ ho)) rfl (T.keeps st).nolimit (codeRec_of (X.keeps st) hcd) rfl hbind hcell hloc
    (fun h₁ hns hk₁ => h _ s.heap.objs.size h₁ rfl (X.keeps sg) (T.keeps sg) ⟨hns, fun b o e => hk₁ b o (of_hideAll _ e), Nat.le_of_eq (hideAll_size _ _)⟩
      (fun p hp => ⟨hk₁ _ _ (hN p hp).1, Nat.ne_of_lt (Heap.lt_size (hN p hp).1), hideAll_none _ (List.mem_map_of_mem hp)⟩) (allLt_of fun p hp => Heap.lt_size (hN p hp).1)) hco hgen hk
/-- back out of it: nothing that stood before has changed -/
theorem back {h h' : Heap} {m' : Str → Option Value} {news news' : List (Addr × Obj)} (hg : g = hideAll h (news.map (·.1))) (hN : ∀ p ∈ news, h.get? p.1 = some p.2) (F : Fr g L h' m') (N : News g L h' news') (hs : ∀ p ∈ news, p ∈ news') : h.StaysIn h' := by
  subst hg
  intro b o e
  by_cases hb : b ∈ news.map (·.1)
  · obtain ⟨p, hp, rfl⟩ := List.mem_map.mp hb
    have := hN p hp
    rw [e] at this
    rw [Option.some.inj this]
    exact (N p (hs p hp)).1
  · exact F.keep b o (hideAll_get _ e hb)
theorem truthy_cons {l : Addr} {v : Value} {rest : List Value} {n : Nat} {news : List (Addr × Obj)} {Q : Bool → Shared → Prop} (N : News g L s.heap news) (hm : (l, listOf (v :: rest).toArray n) ∈ news) (hr : rest.length ≤ 1000) (h : Q true { s with toks := s.toks + 1 + 1 }) :
    wpAny (model prog w) A (truthy (.ref l)) Q E s :=
  wpAny_truthy_list (items := (v :: rest).toArray) ⟨_, (N _ hm).1, rfl, n, rfl⟩ (by simp only [List.size_toArray, List.length_cons]; omega) (by simpa using h)
/-- a call that only reads, met on the walk -/
theorem use_gives {c : Code} {R : Result → Shared → Prop} {V : Value → Heap → Prop} {news : List (Addr × Obj)} (F : Fr g L s.heap m) (N : News g L s.heap news) (H : Gives w A c s V)
    (k : ∀ v h' tk', V v h' → Fr g L h' m → News g L h' news → R (.ok (.ret v)) { s with heap := h', toks := tk' }) : codeAny (model PG w) A c R s :=
  H R fun v h' tk' hv st => k v h' tk' hv (F.keeps st) (N.keepsAll st)
theorem use_T {α : Type} {t : Sem α} {Q : α → Shared → Prop} {V : α → Heap → Prop} {news : List (Addr × Obj)} (F : Fr g L s.heap m) (N : News g L s.heap news) (H : GivesT w A t s V)
    (k : ∀ v h' tk', V v h' → Fr g L h' m → News g L h' news → Q v { s with heap := h', toks := tk' }) : wpAny (model PG w) A t Q E s :=
  H Q E fun v h' tk' hv st => k v h' tk' hv (F.keeps st) (N.keepsAll st)
end
inductive Tr where
  | leaf (x : Addr) (pre : Str) (line : Int)
  | n0 (x l : Addr)
  | n1 (x l : Addr) (a : Tr)
  | n2 (x l : Addr) (a b : Tr)
  | n3 (x l : Addr) (a b c : Tr)
def Tr.root : Tr → Addr
  | .leaf x _ _ | .n0 x _ | .n1 x _ _ | .n2 x _ _ _ | .n3 x _ _ _ _ => x
def Tr.size : Tr → Nat
  | .leaf .. | .n0 .. => 1
  | .n1 _ _ a => a.size + 1
  | .n2 _ _ a b => a.size + b.size + 1
  | .n3 _ _ a b c => a.size + b.size + c.size + 1
def Tr.height : Tr → Nat
  | .leaf .. | .n0 .. => 0
  | .n1 _ _ a => a.height + 1
  | .n2 _ _ a b => max a.height b.height + 1
  | .n3 _ _ a b c => max a.height (max b.height c.height) + 1
def xy (k : Nat) : Str := if k % 2 = 0 then Str.ofString "x" else Str.ofString "y"
def leafKeys : List Str := [Str.ofString "notes", Str.ofString "_prefix", Str.ofString "lineno", Str.ofString "column", Str.ofString "type", Str.ofString "value", Str.ofString "fixers_applied", Str.ofString "parent"]
def nodeKeys : List Str := [Str.ofString "notes", Str.ofString "type", Str.ofString "children", Str.ofString "fixers_applied", Str.ofString "parent"]
structure LeafA (a : Str → Option Value) (pre : Str) (line : Int) (k : Nat) (par : Option Addr) : Prop where
  value : ∃ t, a (Str.ofString "value") = some (.str (xy k) t)
  pre : ∃ t, a (Str.ofString "_prefix") = some (.str pre t)
  line : ∃ t, a (Str.ofString "lineno") = some (.int line t)
  col : ∃ t, a (Str.ofString "column") = some (.int k t)
  par : a (Str.ofString "parent") = par.map Value.ref
  no : ∀ nm, leafKeys.contains nm = false → a nm = none
structure NodeA (a : Str → Option Value) (l : Addr) (k : Nat) (par : Option Addr) : Prop where
  type : ∃ t, a (Str.ofString "type") = some (.int (300 + k) t)
  ch : a (Str.ofString "children") = some (.ref l)
  par : a (Str.ofString "parent") = par.map Value.ref
  no : ∀ nm, nodeKeys.contains nm = false → a nm = none
/-- the tree stands in h, its root numbered k, below par -/
def At (H₀ h : Heap) : Tr → Nat → Option Addr → Prop
  | .leaf x pre line, k, par => ∃ a, Inst h x 305 a ∧ LeafA a pre line k par
  | .n0 x l, k, par => ∃ a, Inst h x 225 a ∧ NodeA a l k par ∧ LAt H₀ h l []
  | .n1 x l t, k, par => ∃ a, Inst h x 225 a ∧ NodeA a l k par ∧ LAt H₀ h l [.ref t.root] ∧ At H₀ h t (k + 1) (some x)
  | .n2 x l t u, k, par => ∃ a, Inst h x 225 a ∧ NodeA a l k par ∧ LAt H₀ h l [.ref t.root, .ref u.root] ∧ At H₀ h t (k + 1) (some x) ∧ At H₀ h u (k + 1 + t.size) (some x)
  | .n3 x l t u v, k, par => ∃ a, Inst h x 225 a ∧ NodeA a l k par ∧ LAt H₀ h l [.ref t.root, .ref u.root, .ref v.root] ∧ At H₀ h t (k + 1) (some x) ∧ At H₀ h u (k + 1 + t.size) (some x) ∧ At H₀ h v (k + 1 + t.size + u.size) (some x)
theorem At.keeps {H₀ h h' : Heap} (st : h.StaysIn h') : ∀ {t : Tr} {k par}, At H₀ h t k par → At H₀ h' t k par
  | .leaf .., _, _, ⟨a, i, r⟩ => ⟨a, i.keeps st, r⟩
  | .n0 .., _, _, ⟨a, i, r, l⟩ => ⟨a, i.keeps st, r, l.keeps st⟩
  | .n1 .., _, _, ⟨a, i, r, l, x⟩ => ⟨a, i.keeps st, r, l.keeps st, x.keeps st⟩
  | .n2 .., _, _, ⟨a, i, r, l, x, y⟩ => ⟨a, i.keeps st, r, l.keeps st, x.keeps st, y.keeps st⟩
  | .n3 .., _, _, ⟨a, i, r, l, x, y, z⟩ => ⟨a, i.keeps st, r, l.keeps st, x.keeps st, y.keeps st, z.keeps st⟩
section
variable {prog : Program} {w : World} {A : Around} {E : Value → Shared → Prop} {s : Shared} {K : Frag} {base g : Heap} {outer : List Env} {L a e : Addr} {m : Str → Option Value} {name : Str} {scope : Scope} {cd : Value}
theorem looks_newW {M : Model} {env : Env} {oe : Obj} {vs : Array Value} {a0 : Value} {Q : Unit → Shared → Prop} (hfr : A.frames = some (env :: outer)) (hl : s.heap.FunFrames base (env :: outer)) (hf : env.frame = some L)
    (he : s.heap.get? e = some oe) (hkb : base.StaysIn s.heap) (hen : base.get? e = none) (hd : oe.data = .fields vs) (h1 : vs[1]? = some .none) (h0 : vs[0]? = some a0)
    (h : ∀ h', Heap.HeldW base (env :: outer) e oe.cls a0 L h' → s.heap.UpToSlots h' → Q () { s with heap := h' }) : wpAny M A (noteFrame (.ref e) env) Q E s := by
  unfold noteFrame
  simp only [hf]
  refine wpAny_bind (wpAny_field he hd h1 ?_)
  rw [if_neg (by decide)]
  exact wpAny_entryW hfr hl hf he hkb hen hd (Array.getElem?_eq_some_iff.mp h1).1 h0 fun h' x => h h' ⟨x.1, hen, x.2.1, x.2.2.1⟩ x.2.2.2
/-- the heap without the frames that stand on the stack -/
def frameless (h : Heap) (l : List Env) : Heap := hideAll h (l.filterMap (·.frame))
theorem frameless_stays (h : Heap) (l : List Env) : (frameless h l).StaysIn h := fun _ _ e => of_hideAll _ e
theorem frameless_none {h : Heap} {l : List Env} {env : Env} {L : Addr} (he : env ∈ l) (hf : env.frame = some L) : (frameless h l).get? L = none := hideAll_none _ (List.mem_filterMap.mpr ⟨env, he, hf⟩)
theorem frameless_get {h : Heap} {l : List Env} {b : Addr} {o : Obj} (e : h.get? b = some o) (hb : ∀ env ∈ l, env.frame ≠ some b) : (frameless h l).get? b = some o :=
  hideAll_get _ e fun q => by obtain ⟨env, he, hf⟩ := List.mem_filterMap.mp q; exact hb env he hf
theorem frameless_mono {h h' : Heap} {l : List Env} (st : h.StaysIn h') : (frameless h l).StaysIn (frameless h' l) := fun b o e => by
  have e' := of_hideAll _ e
  refine hideAll_get _ (st _ _ e') fun q => ?_
  have := hideAll_none (h := h) _ q
  unfold frameless at e
  rw [this] at e; cases e
/-- every frame on the stack is a dict of the heap's, its block no module -/
def FramesIn (h : Heap) (l : List Env) : Prop := ∀ env ∈ l, env.scope.kind ≠ .module ∧ ∃ L o es ep, env.frame = some L ∧ h.get? L = some o ∧ o.data = .dict es ep
theorem FramesIn.keeps {h h' l} (x : FramesIn h l) (st : h.StaysIn h') : FramesIn h' l := fun env he => let ⟨k, L, o, es, ep, a, b, c⟩ := x env he; ⟨k, L, o, es, ep, a, st _ _ b, c⟩
theorem FramesIn.upto {h h' l} (x : FramesIn h l) (st : h.UpToSlots h') : FramesIn h' l := fun env he => by
  obtain ⟨k, L, o, es, ep, a, b, c⟩ := x env he
  obtain ⟨sl, e⟩ := st _ _ b fun vs q => by rw [c] at q; cases q
  exact ⟨k, L, _, es, ep, a, e, c⟩
theorem FramesIn.fun_ {h l base} (x : FramesIn h l) (hb : ∀ env ∈ l, ∀ L, env.frame = some L → base.get? L = none) : h.FunFrames base l := by
  induction l with
  | nil => trivial
  | cons env l ih =>
    obtain ⟨k, L, o, es, ep, e1, e2, e3⟩ := x env (.head _)
    exact ⟨k, ⟨L, o, e1, hb env (.head _) L e1, e2, fun vs q => by rw [e3] at q; cases q⟩, ih (fun env' he => x env' (.tail _ he)) fun env' he => hb env' (.tail _ he)⟩
theorem FramesIn.push {h h' : Heap} {l : List Env} {env : Env} (x : FramesIn h l) (st : h.StaysIn h') (hn : h'.Ns L m) (hf : env.frame = some L) (hk : env.scope.kind = .function) : FramesIn h' (env :: l) := fun e he => by
  cases he with
  | head =>
    obtain ⟨o, es, ep, a, b, _⟩ := hn
    exact ⟨by rw [hk]; decide, L, o, es, ep, hf, a, b⟩
  | tail _ he => exact (x.keeps st) e he
theorem noframe_new {H₀ h : Heap} (F : Fr g L h m) (st : H₀.StaysIn g) : H₀.get? L = none := by
  cases q : H₀.get? L with
  | none => rfl
  | some o => exact absurd (Nat.lt_of_lt_of_le (Heap.lt_size (st _ _ q)) F.above) (Nat.lt_irrefl _)
theorem up_base {h h₁ h₂ : Heap} {env : Env} {as : List Addr} (hg : g = hideAll h as) (F : Fr g L h₁ m) (st : h.StaysIn h₁) (k : (frameless h₁ (env :: outer)).StaysIn h₂) (he : env.frame = some L) : (frameless h outer).StaysIn h₂ := fun b o q => by
  have q' := frameless_stays _ _ b o q
  refine k b o (frameless_get (st b o q') fun env' he' hf' => ?_)
  rcases List.mem_cons.mp he' with rfl | he'
  · rw [he] at hf'; cases hf'
    have h1 := F.above
    have h2 := Heap.lt_size q'
    rw [hg, hideAll_size] at h1
    exact absurd (Nat.lt_of_lt_of_le h2 h1) (Nat.lt_irrefl _)
  · rw [frameless_none he' hf'] at q; cases q
/-- an exception raised in this very frame, caught by the frame's own handler -/
theorem caught_own {h : Heap} {X T' : String} {b₀ : Stmt} {suite : List Stmt} {pos np : Pos} {rest : List ExceptHandler} {Q : Flow → Shared → Prop} {x : Str} {p : Program} {loose : List Str} {mean : ExcName → Option Value} {mg mb : Str → Option Value} {H₀ : Heap}
    (hA : A.frames = some outer) (hh : A.handled = none) (fr : FramesIn h (envOf name scope L a cd :: outer)) (hx : Heap.NewExc h s.heap e X)
    (hH : ∀ env ∈ envOf name scope L a cd :: outer, ∀ L, env.frame = some L → H₀.get? L = none) (st : H₀.StaysIn h) (X₀ : K.In H₀) (T : Top p loose mean mg mb H₀) (hg : nsIn K mainGlobals x = some none) (hv : bootBuiltins x = some (.type T'))
    (hexc : isSubtype (.type T') (.type "BaseException") = pure true) (hnt : isSubtype (.type ((Manifest.find? T').elim "type" fun y => y.metatype)) (.type "tuple") = pure false) (hsub : isSubtype (.type X) (.type T') = pure true)
    (hn : x ≠ "__name__") (hk : scope.kind = .function) (hxk : (envOf name scope L a cd).kindOf x = some .globalImplicit) (hd : (x == ("__debug__" : Str)) = false)
    (k : ∀ h', (frameless h (envOf name scope L a cd :: outer)).StaysIn h' → h.UpToSlots h' →
      wpAny (model prog w) ((A.deeper (envOf name scope L a cd)).mark (some (.ref e))) (execs (b₀ :: suite) (envOf name scope L a cd)) Q E { s with heap := h' })
    (hE : PassesOwnAt (model prog w) ((A.deeper (envOf name scope L a cd)).mark (some (.ref e))) (A.deeper (envOf name scope L a cd)) (envOf name scope L a cd) E) :
    wpAny (model prog w) (A.deeper (envOf name scope L a cd)) (noteFrame (.ref e) (envOf name scope L a cd))
      (fun _ s₂ => wpAny (model prog w) (A.deeper (envOf name scope L a cd)) (setFlight (.ref e) none) (fun _ s₃ =>
        wpAny (model prog w) (A.deeper (envOf name scope L a cd)) (handleBy (.ref e) (envOf name scope L a cd) (.ExceptHandler (some (.Name x np)) none (b₀ :: suite) pos :: rest)) Q E s₃) E s₂) E s := by
  obtain ⟨oe, t0, he, hcls, hdt⟩ := hx.there
  have sB : (frameless h (envOf name scope L a cd :: outer)).StaysIn s.heap := fun b o q => hx.keeps b o (frameless_stays _ _ b o q)
  have eB : (frameless h (envOf name scope L a cd :: outer)).get? e = none := by
    cases q : (frameless h (envOf name scope L a cd :: outer)).get? e with
    | none => rfl
    | some o => have := frameless_stays _ _ e o q; rw [hx.new] at this; cases this
  have fF : s.heap.FunFrames (frameless h (envOf name scope L a cd :: outer)) (envOf name scope L a cd :: outer) := (fr.keeps hx.keeps).fun_ fun env he' L' hf => frameless_none he' hf
  have sH : H₀.StaysIn (frameless h (envOf name scope L a cd :: outer)) := fun b o q => frameless_get (st b o q) fun env he' hf => by rw [hH env he' b hf] at q; cases q
  have hfr := Around.frames_deeper (env := envOf name scope L a cd) hA
  refine looks_newW hfr fF rfl he sB eB hdt (by rfl) (by rfl) fun h₄ hheld₄ hsm₄ => ?_
  rw [hcls] at hheld₄
  refine wpAny_landsW hheld₄ fun h₅ hheld hsm₅ => ?_
  obtain ⟨ob, hob, hobc⟩ := hheld.there
  have s5 : H₀.StaysIn h₅ := fun b o q => hheld.1 b o (sH b o q)
  refine wpAny_handleBy_builtin (X := X) (T := T') (b := true) hexc hnt hsub (Name_function_global hk hxk (loadGlobal_builtin (env := envOf name scope L a cd) (T.g.keeps s5) (mg_none_of X₀ T.g hg) (T.b.keeps s5) ((T.builtins x hn).trans hv) ⟨rfl, ⟨ob, hob, hobc⟩, ?_⟩) hd)
  refine lands_againW hheld fun h₆ hfl₆ hsm₆ => ?_
  exact wpAny_passesOwnAt hE (k h₆ hfl₆.1 fun b o q hnf => ((((Heap.UpToSlots.of_keeps hx.keeps).trans hsm₄).trans hsm₅).trans hsm₆) b o q hnf)
end
/-- what a call gives that may raise and catch within: nothing has changed but the frames' slots -/
def GivesU (w : World) (A : Around) (c : Code) (s : Shared) (outer : List Env) (V : Value → Heap → Prop) : Prop :=
  ∀ R : Result → Shared → Prop, (∀ v h' tk', V v h' → (frameless s.heap outer).StaysIn h' → s.heap.UpToSlots h' → R (.ok (.ret v)) { s with heap := h', toks := tk' }) → codeAny (model PG w) A c R s
theorem Gives.u {w A c s V} {outer} (x : Gives w A c s V) : GivesU w A c s outer V := fun R k => x R fun v h' tk' hv st => k v h' tk' hv (fun b o q => st b o (frameless_stays _ _ b o q)) (.of_keeps st)
section
variable {prog : Program} {w : World} {A : Around} {E : Value → Shared → Prop} {s : Shared} {g H₀ : Heap} {L l : Addr} {m : Str → Option Value} {vs rest : List Value} {v : Value} {Q : Value → Shared → Prop}
theorem LAt.is {h : Heap} (hl : LAt H₀ h l vs) : h.IsList l vs.toArray := let ⟨_, e, _⟩ := hl; ⟨_, e, rfl, _, rfl⟩
theorem item_base {value slice : PySem.Expr} {k : Int} {u : Tok} (F : Fr g L s.heap m) (hl : LAt H₀ g l vs) (h0 : 0 ≤ k) (hhi : k < 2 ^ 63) (hx : vs[k.toNat]? = some v) (h : Q v s)
    (hs : subscripted slice false (.ref l) (.int k u) = operate [.ref l, .int k u] (getItem (.ref l) (.int k u))) :
    wpAny (model prog w) A (subscriptTail value slice (.ref l) (.int k u)) Q E s :=
  tail_any (hl.keeps F.keep).is.typeIs slot_list_getitem.lookup (wpAny_getItem_list (hl.keeps F.keep).is h0 hhi (by simpa using hx) h) hs
theorem item_last {value slice : PySem.Expr} {u : Tok} (F : Fr g L s.heap m) (hl : LAt H₀ g l vs) (hx : vs.getLast? = some v) (h : Q v s)
    (hs : subscripted slice false (.ref l) (.int (-1) u) = operate [.ref l, .int (-1) u] (getItem (.ref l) (.int (-1) u))) :
    wpAny (model prog w) A (subscriptTail value slice (.ref l) (.int (-1) u)) Q E s := by
  have hne : vs.length ≠ 0 := by intro e; rw [List.length_eq_zero_iff.mp e] at hx; cases hx
  refine tail_any (hl.keeps F.keep).is.typeIs slot_list_getitem.lookup (wpAny_getItem_list_neg (x := v) (hl.keeps F.keep).is (by decide) (by simp only [List.size_toArray]; omega) (by decide) ?_ h) hs
  rw [List.getLast?_eq_getElem?] at hx
  rw [List.getElem?_toArray, ← hx, List.size_toArray]
  congr 1
  omega
theorem truthy_base {Q : Bool → Shared → Prop} (F : Fr g L s.heap m) (hl : LAt H₀ g l (v :: rest)) (hr : rest.length ≤ 1000) (h : Q true { s with toks := s.toks + 1 + 1 }) :
    wpAny (model prog w) A (truthy (.ref l)) Q E s :=
  wpAny_truthy_list (hl.keeps F.keep).is (by simp only [List.size_toArray, List.length_cons]; omega) (by simpa using h)
theorem truthy_base0 {Q : Bool → Shared → Prop} (F : Fr g L s.heap m) (hl : LAt H₀ g l []) (h : Q false { s with toks := s.toks + 1 + 1 }) :
    wpAny (model prog w) A (truthy (.ref l)) Q E s :=
  wpAny_truthy_list (hl.keeps F.keep).is (by simp) (by simpa using h)
theorem While_J {env : Env} {Q : Flow → Shared → Prop} {test : Expr} {body : List Stmt} {pos : Pos} {news : List (Addr × Obj)} (J : Nat → (Str → Option Value) → List (Addr × Obj) → Prop) {n₀ : Nat}
    (F : Fr g L s.heap m) (N : News g L s.heap news) (hJ : J n₀ m news)
    (turn : ∀ n m₁ news₁ h₁ tk₁, Fr g L h₁ m₁ → News g L h₁ news₁ → J n m₁ news₁ →
      wpAny (model prog w) A (isTrue test env (eval test env)) (fun b s₂ =>
        if b = true then wpAny (model prog w) A (execs body env) (WhileStep2 g L s J Q n) E s₂ else Q .next s₂) E { s with heap := h₁, toks := tk₁ })
    (hE : PassesOwn (model prog w) A env E) :
    wpAny (model prog w) A (exec (.While test body [] pos) env) Q E s := While_inv2 J F N hJ turn hE
end
section
variable {prog : Program} {w : World} {A : Around} {E : Value → Shared → Prop} {s : Shared} {g H₀ : Heap} {L l : Addr} {m : Str → Option Value} {vs rest : List Value} {v : Value} {Q : Value → Shared → Prop}
theorem len_base (F : Fr g L s.heap m) (hl : LAt H₀ g l vs) (hr : vs.length ≤ 1000) (h : ∀ t tk, Q (.int vs.length t) { s with toks := tk }) :
    wpAny (model prog w) A (call (.builtin "len") [.ref l]) Q E s :=
  call_len_list (hl.keeps F.keep).is (by simp only [List.size_toArray]; omega) (by simpa using h _ _)
end
theorem xy_len (k : Nat) : (xy k).length ≤ 1 := by
  unfold xy; split <;> decide
section
variable {prog : Program} {w : World} {A : Around} {E : Value → Shared → Prop} {s : Shared} {g : Heap} {L D : Addr} {news : List (Addr × Obj)} {Q : Value → Shared → Prop} {t : Tok}
theorem join_own {o : Obj} (l : List (Str × Tok)) {p : Str} (N : News g L s.heap news) (hm : (D, o) ∈ news) (hc : o.cls = .type "list") (hd : ∃ n, o.data = .seq (strValues l).toArray n)
    (hw : ((l.map (·.1)).map (·.length)).sum + (l.map (·.1)).length ≤ 1048576) (hp : Str.join (Str.ofString "") (l.map (·.1)) = p) (h : ∀ t' k, Q (.str p t') { s with toks := k }) :
    wpAny (model prog w) A (call (.builtin "str.join") [.str (Str.ofString "") t, .ref D]) Q E s := by
  obtain ⟨n, hd⟩ := hd
  refine SC.join (l := l) ⟨o, (N _ hm).1, hc, n, hd⟩ rfl (joinOk_of_weight hw (by decide)) fun t' k => ?_
  have e : Txt.join (Str.ofString "") (l.map (·.1)) = p := by rw [← hp]; exact StrLaws.glued_eq_join _ _
  rw [e]; exact h t' k
theorem ofString_empty : Str.ofString "" = Str.empty := by decide +kernel
theorem join0 (N : News g L s.heap news) (hm : (D, LCg.lst []) ∈ news) (h : ∀ t' k, Q (.str Str.empty t') { s with toks := k }) :
    wpAny (model prog w) A (call (.builtin "str.join") [.str (Str.ofString "") t, .ref D]) Q E s :=
  join_own [] N hm rfl ⟨_, rfl⟩ (by decide) rfl h
theorem join1 {p : Str} {t1 : Tok} (N : News g L s.heap news) (hm : (D, LCg.lst [.str p t1]) ∈ news) (hp : p.length ≤ 1000) (h : ∀ t' k, Q (.str p t') { s with toks := k }) :
    wpAny (model prog w) A (call (.builtin "str.join") [.str (Str.ofString "") t, .ref D]) Q E s :=
  join_own [(p, t1)] N hm rfl ⟨_, rfl⟩ (by simp; omega) rfl h
theorem join2 {p q : Str} {t1 t2 : Tok} (N : News g L s.heap news) (hm : (D, LCg.lst [.str p t1, .str q t2]) ∈ news) (hp : p.length ≤ 1000) (hq : q.length ≤ 1000) (h : ∀ t' k, Q (.str (p ++ q) t') { s with toks := k }) :
    wpAny (model prog w) A (call (.builtin "str.join") [.str (Str.ofString "") t, .ref D]) Q E s :=
  join_own [(p, t1), (q, t2)] N hm rfl ⟨_, rfl⟩ (by simp; omega) (by show p ++ Str.ofString "" ++ q = _; rw [ofString_empty, Str.append_empty]) h
theorem join3 {p q r : Str} {t1 t2 t3 : Tok} (N : News g L s.heap news) (hm : (D, LCg.lst [.str p t1, .str q t2, .str r t3]) ∈ news) (hp : p.length ≤ 1000) (hq : q.length ≤ 1000) (hr : r.length ≤ 1000) (h : ∀ t' k, Q (.str (p ++ (q ++ r)) t') { s with toks := k }) :
    wpAny (model prog w) A (call (.builtin "str.join") [.str (Str.ofString "") t, .ref D]) Q E s :=
  join_own [(p, t1), (q, t2), (r, t3)] N hm rfl ⟨_, rfl⟩ (by simp; omega) (by show p ++ Str.ofString "" ++ (q ++ Str.ofString "" ++ r) = _; rw [ofString_empty, Str.append_empty, Str.append_empty]) h
end
def Tr.text : Tr → Nat → Str
  | .leaf _ pre _, k => pre ++ xy k
  | .n0 .., _ => Str.empty
  | .n1 _ _ a, k => a.text (k + 1)
  | .n2 _ _ a b, k => a.text (k + 1) ++ b.text (k + 1 + a.size)
  | .n3 _ _ a b c, k => a.text (k + 1) ++ (b.text (k + 1 + a.size) ++ c.text (k + 1 + a.size + b.size))
def Tr.Short : Tr → Prop
  | .leaf _ pre _ => pre.length ≤ 1
  | .n0 .. => True
  | .n1 _ _ a => a.Short
  | .n2 _ _ a b => a.Short ∧ b.Short
  | .n3 _ _ a b c => a.Short ∧ b.Short ∧ c.Short
theorem Tr.text_len : ∀ (t : Tr) (k : Nat), t.Short → (t.text k).length ≤ 2 * t.size
  | .leaf _ pre _, k, h => by
    have := xy_len k
    simp only [Tr.text, Str.length_append, Tr.size, Tr.Short] at *; omega
  | .n0 .., _, _ => by simp only [Tr.text]; exact Nat.zero_le _
  | .n1 _ _ a, k, h => by have := a.text_len (k + 1) h; simp only [Tr.text, Tr.size]; omega
  | .n2 _ _ a b, k, h => by
    have h1 := a.text_len (k + 1) h.1
    have h2 := b.text_len (k + 1 + a.size) h.2
    simp only [Tr.text, Str.length_append, Tr.size]; omega
  | .n3 _ _ a b c, k, h => by
    have h1 := a.text_len (k + 1) h.1
    have h2 := b.text_len (k + 1 + a.size) h.2.1
    have h3 := c.text_len (k + 1 + a.size + b.size) h.2.2
    simp only [Tr.text, Str.length_append, Tr.size]; omega
/-- a call that raises X: the exception is on its way out, nothing has changed but the frames' slots -/
def RaisesU (w : World) (A : Around) (c : Code) (s : Shared) (outer : List Env) (X : String) : Prop :=
  ∀ R : Result → Shared → Prop, (∀ e h' tk' a0, Heap.FlyingW (frameless s.heap outer) outer e (.type X) a0 h' → s.heap.UpToSlots h' → R (.error (.ref e)) { s with heap := h', toks := tk' }) → codeAny (model PG w) A c R s
section
variable {prog : Program} {w : World} {A : Around} {E : Value → Shared → Prop} {s : Shared} {K : Frag} {base g : Heap} {outer : List Env} {L a e : Addr} {m : Str → Option Value} {name : Str} {scope : Scope} {cd : Value}
theorem base_in {h h₁ : Heap} {env : Env} {as : List Addr} (hg : g = hideAll h as) (F : Fr g L h₁ m) (st : h.StaysIn h₁) (he : env.frame = some L) : (frameless h outer).StaysIn (frameless h₁ (env :: outer)) := fun b o q => by
  have q' := frameless_stays _ _ b o q
  refine frameless_get (st b o q') fun env' he' hf' => ?_
  rcases List.mem_cons.mp he' with rfl | he'
  · rw [he] at hf'; cases hf'
    have h1 := F.above
    have h2 := Heap.lt_size q'
    rw [hg, hideAll_size] at h1
    exact absurd (Nat.lt_of_lt_of_le h2 h1) (Nat.lt_irrefl _)
  · rw [frameless_none he' hf'] at q; cases q
theorem H_in {H₀ h : Heap} {l : List Env} (st : H₀.StaysIn h) (hn : ∀ env ∈ l, ∀ L, env.frame = some L → H₀.get? L = none) : H₀.StaysIn (frameless h l) := fun b o q =>
  frameless_get (st b o q) fun env he hf => by rw [hn env he b hf] at q; cases q
theorem leave_own {h : Heap} {X : String} {Q : Unit → Shared → Prop} {M : Model} (hA : A.frames = some outer) (fr : FramesIn h (envOf name scope L a cd :: outer)) (hx : Heap.NewExc h s.heap e X)
    (sb : base.StaysIn (frameless h (envOf name scope L a cd :: outer)))
    (k : ∀ h' a0, Heap.FlyingW base outer e (.type X) a0 h' → h.UpToSlots h' → Q () { s with heap := h' }) :
    wpAny M (A.deeper (envOf name scope L a cd)) (leaving (envOf name scope L a cd) (.ref e)) Q E s := by
  obtain ⟨oe, t0, he, hcls, hdt⟩ := hx.there
  have sB : (frameless h (envOf name scope L a cd :: outer)).StaysIn s.heap := fun b o q => hx.keeps b o (frameless_stays _ _ b o q)
  have eB : (frameless h (envOf name scope L a cd :: outer)).get? e = none := by
    cases q : (frameless h (envOf name scope L a cd :: outer)).get? e with
    | none => rfl
    | some o => have := frameless_stays _ _ e o q; rw [hx.new] at this; cases this
  have fF : s.heap.FunFrames (frameless h (envOf name scope L a cd :: outer)) (envOf name scope L a cd :: outer) := (fr.keeps hx.keeps).fun_ fun env he' L' hf => frameless_none he' hf
  refine wpAny_leaving_firstW (Around.frames_deeper hA) fF rfl he sB eB hdt (by rfl) (by rfl) fun h' x => ?_
  obtain ⟨x1, x2, x3, x4⟩ := x
  rw [hcls] at x3
  exact k h' t0 (flyingW_base sb ⟨x1, eB, x2.2.2, x3⟩) ((Heap.UpToSlots.of_keeps hx.keeps).trans x4)
theorem leave_on {X : String} {a0 : Value} {B : Heap} {Q : Unit → Shared → Prop} {M : Model} (hA : A.frames = some outer) (hfl : Heap.FlyingW B (envOf name scope L a cd :: outer) e (.type X) a0 s.heap) (sb : base.StaysIn B)
    (k : ∀ h', Heap.FlyingW base outer e (.type X) a0 h' → s.heap.UpToSlots h' → Q () { s with heap := h' }) :
    wpAny M (A.deeper (envOf name scope L a cd)) (leaving (envOf name scope L a cd) (.ref e)) Q E s :=
  wpAny_leaves_onW (Around.frames_deeper hA) rfl hfl fun h' x up => k h' (flyingW_base sb x) up
theorem item_out_base {H₀ : Heap} {l : Addr} {value slice : PySem.Expr} {k : Int} {u : Tok} {Q : Value → Shared → Prop} (hA : A.handled = none) (F : Fr g L s.heap m) (hl : LAt H₀ g l []) (h1 : -(2 ^ 63) ≤ k) (h2 : k < 2 ^ 63)
    (hE : ∀ h' tk e, Heap.NewExc s.heap h' e "IndexError" → E (.ref e) { s with heap := h', toks := tk })
    (hs : subscripted slice false (.ref l) (.int k u) = operate [.ref l, .int k u] (getItem (.ref l) (.int k u))) :
    wpAny (model prog w) A (subscriptTail value slice (.ref l) (.int k u)) Q E s :=
  tail_any (hl.keeps F.keep).is.typeIs slot_list_getitem.lookup (wpAny_getItem_list_out hA (hl.keeps F.keep).is (by simp; omega) h1 h2 hE) hs
/-- an exception from a callee, caught by this frame's own handler -/
theorem caught_fly {X T' : String} {a0 : Value} {B : Heap} {b₀ : Stmt} {suite : List Stmt} {pos np : Pos} {rest : List ExceptHandler} {Q : Flow → Shared → Prop} {x : Str} {p : Program} {loose : List Str} {mean : ExcName → Option Value} {mg mb : Str → Option Value} {H₀ : Heap}
    (hA : A.frames = some outer) (hfl : Heap.FlyingW B (envOf name scope L a cd :: outer) e (.type X) a0 s.heap) (sH : H₀.StaysIn B) (X₀ : K.In H₀) (T : Top p loose mean mg mb H₀) (hg : nsIn K mainGlobals x = some none) (hv : bootBuiltins x = some (.type T'))
    (hexc : isSubtype (.type T') (.type "BaseException") = pure true) (hnt : isSubtype (.type ((Manifest.find? T').elim "type" fun y => y.metatype)) (.type "tuple") = pure false) (hsub : isSubtype (.type X) (.type T') = pure true)
    (hn : x ≠ "__name__") (hk : scope.kind = .function) (hxk : (envOf name scope L a cd).kindOf x = some .globalImplicit) (hd : (x == ("__debug__" : Str)) = false)
    (k : ∀ h', B.StaysIn h' → s.heap.UpToSlots h' →
      wpAny (model prog w) ((A.deeper (envOf name scope L a cd)).mark (some (.ref e))) (execs (b₀ :: suite) (envOf name scope L a cd)) Q E { s with heap := h' })
    (hE : PassesOwnAt (model prog w) ((A.deeper (envOf name scope L a cd)).mark (some (.ref e))) (A.deeper (envOf name scope L a cd)) (envOf name scope L a cd) E) :
    wpAny (model prog w) (A.deeper (envOf name scope L a cd)) (noteFrame (.ref e) (envOf name scope L a cd))
      (fun _ s₂ => wpAny (model prog w) (A.deeper (envOf name scope L a cd)) (setFlight (.ref e) none) (fun _ s₃ =>
        wpAny (model prog w) (A.deeper (envOf name scope L a cd)) (handleBy (.ref e) (envOf name scope L a cd) (.ExceptHandler (some (.Name x np)) none (b₀ :: suite) pos :: rest)) Q E s₃) E s₂) E s := by
  refine wpAny_looks_onW (Around.frames_deeper hA) rfl hfl fun h₄ hheld₄ hsm₄ => ?_
  refine wpAny_landsW hheld₄ fun h₅ hheld hsm₅ => ?_
  obtain ⟨ob, hob, hobc⟩ := hheld.there
  have s5 : H₀.StaysIn h₅ := fun b o q => hheld.1 b o (sH b o q)
  refine wpAny_handleBy_builtin (X := X) (T := T') (b := true) hexc hnt hsub (Name_function_global hk hxk (loadGlobal_builtin (env := envOf name scope L a cd) (T.g.keeps s5) (mg_none_of X₀ T.g hg) (T.b.keeps s5) ((T.builtins x hn).trans hv) ⟨rfl, ⟨ob, hob, hobc⟩, ?_⟩) hd)
  refine lands_againW hheld fun h₆ hfl₆ hsm₆ => ?_
  exact wpAny_passesOwnAt hE (k h₆ hfl₆.1 fun b o q hnf => ((hsm₄.trans hsm₅).trans hsm₆) b o q hnf)
end
section
local macro_rules | `(tactic| k_room) => `(tactic| ((try simp only [depth_under_make, depth_under_kw, depth_in1, depth_deeper]); (try dsimp only [Ar] at *); (simp only [recursionLimit] at *); omega))
local macro_rules | `(tactic| walk_at "mine:none") => `(tactic| first | with_reducible assumption | exact LeafA.no (by with_reducible assumption) _ (by kernel_rfl) | exact NodeA.no (by with_reducible assumption) _ (by kernel_rfl))
set_option hygiene false in
local macro_rules | `(tactic| walk_at "mine:is") => `(tactic| first | k_is | (rcases hC with hC | hC <;> subst hC <;> k_is))
local macro_rules | `(tactic| walk_at "getAttr ref") => `(tactic| (k_here; k_dflt (first
  | refine' attr_own ?k1 ?k2 ?k3 ?k4 ?k5 ?k6 ?k7 ?k8 ?k9 ?_; (case k1 => k_asm); (case k2 => k_asm); (case k3 => with_reducible assumption); (case k4 => with_reducible assumption); (case k5 => walk_at "mine:is"); (case k6 => walk_at "mine:is"); (case k7 => walk_at "mine:is"); (case k8 => walk_at "mine:is"); (case k9 => k_handed); k_whole
  | refine' attr_cls ?k1 ?k2 ?k3 ?k4 ?k5 ?k6 ?k7 ?k8 ?k9 ?k10 ?_; (case k1 => k_asm); (case k2 => k_asm); (case k3 => with_reducible assumption); (case k4 => walk_at "mine:none"); (case k5 => walk_at "mine:is"); (case k6 => walk_at "mine:is"); (case k7 => walk_at "mine:is"); (case k8 => walk_at "mine:is"); (case k9 => k_handed); (case k10 => decide +kernel); k_whole)))
local macro_rules | `(tactic| walk_at "getMethod ref") => `(tactic| (k_here; k_dflt (
  refine' meth_own ?k1 ?k2 ?k3 ?k4 ?k5 ?k6 ?k7 ?_; (case k1 => k_asm); (case k2 => k_asm); (case k3 => with_reducible assumption); (case k4 => walk_at "mine:none"); (case k5 => walk_at "mine:is"); (case k6 => walk_at "mine:is"); (case k7 => walk_at "mine:is"); k_whole)))
local macro_rules | `(tactic| walk_at "call builtin:isinstance") => `(tactic| (k_here; (with_reducible show wpAny _ _ (call _ [Value.ref _, Value.ref _]) _ _ _); k_dflt (refine' isi_own ?k1 ?k2 ?k3 ?k4 ?k5 ?k6 ?k7 ?k8 ?k9 ?k10 ?_; (case k1 => k_asm); (case k2 => k_asm); (case k3 => with_reducible assumption); (case k4 => kit_is); (case k5 => k_is); (case k6 => k_is); (case k7 => k_is); (case k8 => k_is); (case k9 => k_is); (case k10 => k_is); k_whole; intro tk9)))
local macro_rules | `(tactic| walk_at "compareOp Is ref ref") => `(tactic| (k_here; (with_reducible show wpAny _ _ (compareOp CmpOp.Is (Value.ref _) (Value.ref _)) _ _ _); k_dflt (first | (with_reducible refine is_same ?_) | (refine' is_other ?k1 ?k2 ?k3 ?k4 ?_; (case k1 => k_asm); (case k2 => with_reducible assumption); (case k3 => with_reducible assumption); (case k4 => first | with_reducible assumption | exact Ne.symm (by with_reducible assumption)); k_whole))))
local macro_rules | `(tactic| walk_at "exec For Tuple Call cons nil") => `(tactic| (k_here; (rename Fr _ _ _ _ => lF'); (with_unfolding_all refine' For_turns lF' ?_; k_whole)))
local macro_rules | `(tactic| walk_at "exec For Name Attribute cons nil") => `(tactic| (k_here; (rename Fr _ _ _ _ => lF'); (with_unfolding_all refine' For_turns lF' ?_; k_whole)))
local macro_rules | `(tactic| walk_at "mine:enter") => `(tactic| (
  (case k1 => exact Gd.X (by assumption))
  (case k2 => exact Gd.T (by assumption))
  (case k3 => assumption)
  (case k5 => k_is)
  (case k6 => k_is)
  (case k7 => k_room)
  (case k8 => exact BindsTo.of_eq rfl)
  (case k9 => exact locs rfl)
  (case c1 => exact rfl)
  (case c2 => exact rfl)
  (case c3 => exact rfl)
  (case c4 => decide)))
set_option hygiene false in
local macro_rules | `(tactic| walk_at "mine:go0") => `(tactic| (
  (refine' enter [] ?k1 ?k2 ?k3 ?k4 ?k5 ?k6 ?k7 ?k8 ?k9 ?_ ?c1 ?c2 ?c3 ?c4)
  (case k4 => exact fun _ h => nomatch h)
  (walk_at "mine:enter")
  (intro g L' h' hg Xg Tg F' N' lt')
  (have hg' := hg; simp only [List.map_nil, hideAll] at hg'; clear hg; subst hg')
  (try dsimp only); (try k_fold)))
set_option hygiene false in
local macro_rules | `(tactic| walk_at "mine:stays") => `(tactic| first | exact Fr.keep (by assumption) | exact back hg hN1 (by assumption) (by assumption) (SubL.mem (by k_subL)))
set_option hygiene false in
local macro_rules | `(tactic| walk_at "mine:go1") => `(tactic| (
  (have hN := ledger1 e1 e2)
  (have hN1 := fun q hq => (hN q hq).1)
  (have hNc := ledger1c (l := l) (n := n))
  (refine' enter _ ?k1 ?k2 ?k3 hN ?k5 ?k6 ?k7 ?k8 ?k9 ?_ ?c1 ?c2 ?c3 ?c4)
  (walk_at "mine:enter")
  (intro g L' h' hg Xg Tg F' N' lt')
  (have i' := hg ▸ i.hide hN1 (hNc _))
  (try dsimp only); (try k_fold)))
set_option hygiene false in
local macro_rules | `(tactic| walk_at "getAttr ref") => `(tactic| (k_here; (with_reducible show wpAny _ _ (getAttr (Value.ref _) (PySem.Str.ofString "prefix") _) _ _ _); k_dflt (refine' use_T ?k1 ?k2 (ih ?k3) ?_; (case k1 => k_asm); (case k2 => k_asm); (case k3 => walk_at "mine:stays"); k_whole); intro v9 h' tk' hv9 F' N'; (try (obtain ⟨t9, hv9⟩ := hv9; subst hv9)); (try k_sweep)))
local macro_rules | `(tactic| walk_at "truthy ref") => `(tactic| (k_here; k_dflt (refine' truthy_cons ?k1 ?k2 ?k3 ?_; (case k1 => k_asm); (case k2 => k_mem); (case k3 => first | assumption | omega); k_whole)))
set_option hygiene false in
local macro_rules | `(tactic| walk_at "call ref") => `(tactic| (k_here; k_dflt (refine' use_T ?k1 ?k2 (ih ?k3) ?_; (case k1 => k_asm); (case k2 => k_asm); (case k3 => walk_at "mine:stays"); k_whole); intro v9 h' tk' hv9 F' N'; (try (obtain ⟨t9, hv9⟩ := hv9)); (try subst hv9); (try k_sweep)))
set_option hygiene false in
local macro_rules | `(tactic| walk_at "noteFrame ref") => `(tactic| (k_here; (rename Heap.NewExc _ _ _ _ => exX); k_dflt (refine' caught_own (T' := "IndexError") rfl rfl ?k1 exX ?k2 ?k3 ?k4 ?k5 ?k6 PyProof.Rows.Boot.«IndexError» PySem.F.isExc_IndexError PySem.F.notTuple_IndexError ?k7 ?k8 rfl rfl ?k9 ?_ ?k10; (case k1 => exact FramesIn.push hFr (by walk_at "mine:stays") (Fr.ns (by assumption)) rfl rfl); (case k2 => walk_at "mine:noframe"); (case k3 => exact fun b o q => (by walk_at "mine:stays" : Heap.StaysIn _ _) b o (st b o q)); (case k4 => exact Gd.X (by assumption)); (case k5 => exact Gd.T (by assumption)); (case k6 => k_is); (case k7 => (rw [isSubtype_type]; kernel_rfl)); (case k8 => decide); (case k9 => decide); (case k10 => passes_own); k_whole); intro h9 stB up9)) 
set_option hygiene false in
local macro_rules | `(tactic| walk_at "mine:noframe") => `(tactic| (refine List.forall_mem_cons.mpr ⟨?_, hFo⟩; intro L9 h9; injection h9 with h9; subst h9; exact noframe_new (by assumption) (by walk_at "mine:base")))
set_option hygiene false in
local macro_rules | `(tactic| walk_at "mine:base") => `(tactic| first | exact st | (rw [hg]; exact fun b o q => hideAll_get _ (st b o q) fun q' => (by obtain ⟨p9, hp9, e9⟩ := List.mem_map.mp q'; have z9 := (hN p9 hp9).2; rw [e9, q] at z9; cases z9)))
section
variable {w : World} {H₀ : Heap} {mean : ExcName → Option Value} {mg mb : Str → Option Value}
theorem number_none (G : Gd w H₀ mean mg mb) {s : Shared} (st : H₀.StaysIn s.heap) {dp un outer} (hd : dp + 2 < recursionLimit) :
    Gives w (Ar dp un outer) (.call (.ref 340) ⟨[.none], []⟩) s (fun v _ => v = .none) := by
  intro R hR
  walk_at "mine:go0"
  k_steps
  all_goals exact hR _ _ _ rfl (by walk_at "mine:stays")
theorem number_leaf (G : Gd w H₀ mean mg mb) {s : Shared} (st : H₀.StaysIn s.heap) {dp un outer} {x a k t} (i : Inst s.heap x 305 a) (hc : a (Str.ofString "column") = some (.int k t)) (hd : dp + 2 < recursionLimit) :
    Gives w (Ar dp un outer) (.call (.ref 340) ⟨[.ref x], []⟩) s (fun v _ => ∃ t, v = .int k t) := by
  intro R hR
  walk_at "mine:go0"
  k_steps
  all_goals exact hR _ _ _ ⟨_, rfl⟩ (by walk_at "mine:stays")
theorem number_node (G : Gd w H₀ mean mg mb) {s : Shared} (st : H₀.StaysIn s.heap) {dp un outer} {x a t} {k : Nat} (i : Inst s.heap x 225 a) (hc : a (Str.ofString "type") = some (.int (300 + k) t)) (hd : dp + 2 < recursionLimit) :
    Gives w (Ar dp un outer) (.call (.ref 340) ⟨[.ref x], []⟩) s (fun v _ => ∃ t, v = .int k t) := by
  intro R hR
  walk_at "mine:go0"
  k_steps
  all_goals exact hR _ _ _ ⟨_, congrArg (fun z => Value.int z _) (show (300 + (k : Int) - 300) = k by omega)⟩ (by walk_at "mine:stays")
theorem number_at (G : Gd w H₀ mean mg mb) {s : Shared} (st : H₀.StaysIn s.heap) {dp un outer} {t k par} (i : At H₀ s.heap t k par) (hd : dp + 2 < recursionLimit) :
    Gives w (Ar dp un outer) (.call (.ref 340) ⟨[.ref t.root], []⟩) s (fun v _ => ∃ t, v = .int k t) := by
  cases t with
  | leaf x pre line => obtain ⟨a, i, l⟩ := i; obtain ⟨t, ht⟩ := l.col; exact number_leaf G st i ht hd
  | n0 x l => obtain ⟨a, i, l, _⟩ := i; obtain ⟨t, ht⟩ := l.type; exact number_node G st i ht hd
  | n1 x l => obtain ⟨a, i, l, _⟩ := i; obtain ⟨t, ht⟩ := l.type; exact number_node G st i ht hd
  | n2 x l => obtain ⟨a, i, l, _⟩ := i; obtain ⟨t, ht⟩ := l.type; exact number_node G st i ht hd
  | n3 x l => obtain ⟨a, i, l, _⟩ := i; obtain ⟨t, ht⟩ := l.type; exact number_node G st i ht hd
def Tr.firstPre : Tr → Str
  | .leaf _ pre _ => pre
  | .n0 .. => Str.ofString ""
  | .n1 _ _ a | .n2 _ _ a _ | .n3 _ _ a _ _ => a.firstPre
theorem pre_leaf (G : Gd w H₀ mean mg mb) {s : Shared} (st : H₀.StaysIn s.heap) {dp un outer} {x a p t} (i : Inst s.heap x 305 a) (hc : a (Str.ofString "_prefix") = some (.str p t)) (hd : dp + 2 < recursionLimit) :
    Gives w (Ar dp un outer) (.call (.ref 292) ⟨[.ref x], []⟩) s (fun v _ => ∃ t, v = .str p t) := by
  intro R hR
  walk_at "mine:go0"
  k_steps
  all_goals exact hR _ _ _ ⟨_, rfl⟩ (by walk_at "mine:stays")
theorem pre_n0 (G : Gd w H₀ mean mg mb) {s : Shared} (st : H₀.StaysIn s.heap) {dp un outer} {x l k par} (i : At H₀ s.heap (.n0 x l) k par) (hd : dp + 2 < recursionLimit) :
    Gives w (Ar dp un outer) (.call (.ref 191) ⟨[.ref x], []⟩) s (fun v _ => ∃ t, v = .str (Str.ofString "") t) := by
  intro R hR
  obtain ⟨a, i, na, n, e1, e2⟩ := i
  have hc := na.ch
  walk_at "mine:go1"
  k_steps
  all_goals exact hR _ _ _ ⟨_, rfl⟩ (by walk_at "mine:stays")
theorem pre_cons (G : Gd w H₀ mean mg mb) {s : Shared} (st : H₀.StaysIn s.heap) {dp un outer} {x l y a rest} {V : Value → Prop} (i : Inst s.heap x 225 a) (hc : a (Str.ofString "children") = some (.ref l)) (hL : LAt H₀ s.heap l (.ref y :: rest)) (hr : rest.length ≤ 1000) (hd : dp + 1 < recursionLimit)
    (ih : ∀ {s' : Shared} {un' env' expr}, s.heap.StaysIn s'.heap → GivesT w (Ar (dp + 1) un' (env' :: outer)) (getAttr (.ref y) (Str.ofString "prefix") expr) s' (fun v _ => V v)) :
    Gives w (Ar dp un outer) (.call (.ref 191) ⟨[.ref x], []⟩) s (fun v _ => V v) := by
  intro R hR
  obtain ⟨n, e1, e2⟩ := hL
  walk_at "mine:go1"
  k_steps
  all_goals exact hR _ _ _ ‹V _› (by walk_at "mine:stays")
theorem pre_attr (G : Gd w H₀ mean mg mb) : ∀ (t : Tr) {k : Nat} {par : Option Addr} {s : Shared} {dp un : Nat} {outer : List Env} {expr : Bool} (st : H₀.StaysIn s.heap) (i : At H₀ s.heap t k par) (hd : dp + t.height + 2 < recursionLimit),
    GivesT w (Ar dp un outer) (getAttr (.ref t.root) (Str.ofString "prefix") expr) s (fun v _ => ∃ tk, v = .str t.firstPre tk) := by
  have node : ∀ {x a} {s : Shared} {dp un : Nat} {outer : List Env} {expr : Bool} {V : Value → Prop} (st : H₀.StaysIn s.heap) (i : Inst s.heap x 225 a) (hv : ∀ v, V v → handedIn v = true)
      (h : Gives w (Ar dp (un + 1) outer) (.call (.ref 191) ⟨[.ref x], []⟩) { s with toks := s.toks + 1 } (fun v _ => V v)), GivesT w (Ar dp un outer) (getAttr (.ref x) (Str.ofString "prefix") expr) s (fun v _ => V v) := by
    intro x a s dp un outer expr V st i hv h
    have X := G.X.keeps st
    refine' attr_prop X i ?k1 ?k2 ?k3 ?k4 ?k5 ?k6 h (fun v _ => hv v)
    case k1 => k_is
    case k2 => k_is
    case k3 => k_is
    case k4 => k_is
    case k5 => k_is
    case k6 => k_is
  have hs : ∀ (p : Str) (v : Value), (∃ tk, v = .str p tk) → handedIn v = true := by
    rintro p v ⟨t, rfl⟩; rfl
  intro t
  induction t with
  | leaf x pre line =>
    intro k par s dp un outer expr st i hd
    obtain ⟨a, i, l⟩ := i
    obtain ⟨t, ht⟩ := l.pre
    have X := G.X.keeps st
    refine' attr_prop X i ?k1 ?k2 ?k3 ?k4 ?k5 ?k6 (pre_leaf (un := un + 1) (s := { s with toks := s.toks + 1 }) G st i ht (by simp only [Tr.height] at hd; omega)) (fun v _ => hs _ v)
    case k1 => k_is
    case k2 => k_is
    case k3 => k_is
    case k4 => k_is
    case k5 => k_is
    case k6 => k_is
  | n0 x l =>
    intro k par s dp un outer expr st i hd
    have j := i
    obtain ⟨a, i, l⟩ := i
    exact node st i (hs _) (pre_n0 (s := { s with toks := s.toks + 1 }) G st j (by simp only [Tr.height] at hd; omega))
  | n1 x l a iha =>
    intro k par s dp un outer expr st i hd
    obtain ⟨aa, i, na, hL, ta⟩ := i
    simp only [Tr.height] at hd
    exact node st i (hs _) (pre_cons (s := { s with toks := s.toks + 1 }) G st i na.ch hL (by simp) (by omega) fun {s' un' env' expr} st' => iha (dp := dp + 1) (fun b o e => st' b o (st b o e)) (ta.keeps st') (by omega))
  | n2 x l a b iha ihb =>
    intro k par s dp un outer expr st i hd
    obtain ⟨aa, i, na, hL, ta, tb⟩ := i
    simp only [Tr.height] at hd
    exact node st i (hs _) (pre_cons (s := { s with toks := s.toks + 1 }) G st i na.ch hL (by simp) (by omega) fun {s' un' env' expr} st' => iha (dp := dp + 1) (fun b o e => st' b o (st b o e)) (ta.keeps st') (by omega))
  | n3 x l a b c iha ihb ihc =>
    intro k par s dp un outer expr st i hd
    obtain ⟨aa, i, na, hL, ta, tb⟩ := i
    simp only [Tr.height] at hd
    exact node st i (hs _) (pre_cons (s := { s with toks := s.toks + 1 }) G st i na.ch hL (by simp) (by omega) fun {s' un' env' expr} st' => iha (dp := dp + 1) (fun b o e => st' b o (st b o e)) (ta.keeps st') (by omega))
end
/-- the chain of parents -/
inductive Up (h : Heap) : Addr → Nat → Prop
  | root {x C a} : (C = 225 ∨ C = 305) → Inst h x C a → a (Str.ofString "parent") = none → a (Str.ofString "depth") = none → Up h x 0
  | up {x p d C a} : (C = 225 ∨ C = 305) → Inst h x C a → a (Str.ofString "parent") = some (.ref p) → a (Str.ofString "depth") = none → Up h p d → Up h x (d + 1)
theorem Up.keeps {h h' x d} (st : h.StaysIn h') (u : Up h x d) : Up h' x d := by
  induction u with
  | root a b c d => exact .root a (b.keeps st) c d
  | up a b c d _ ih => exact .up a (b.keeps st) c d ih
section
variable {w : World} {H₀ : Heap} {mean : ExcName → Option Value} {mg mb : Str → Option Value}
theorem depth_up (G : Gd w H₀ mean mg mb) : ∀ (d : Nat) {x : Addr} {s : Shared} {dp un : Nat} {outer : List Env} (st : H₀.StaysIn s.heap) (u : Up s.heap x d) (hd : dp + d + 2 < recursionLimit),
    Gives w (Ar dp un outer) (.call (.ref 122) ⟨[.ref x], []⟩) s (fun v _ => ∃ tk, v = .int d tk) := by
  intro d
  induction d with
  | zero =>
    intro x s dp un outer st u hd R hR
    cases u with
    | root hC i h1 h2 =>
      rcases hC with rfl | rfl
      all_goals (
        walk_at "mine:go0"
        k_steps
        all_goals exact hR _ _ _ ⟨_, rfl⟩ (by walk_at "mine:stays"))
  | succ d ih0 =>
    intro x s dp un outer st u hd R hR
    cases u with
    | @up _ p _ C a hC i h1 h2 up =>
      have ih : ∀ {s' : Shared} {un' env'}, s.heap.StaysIn s'.heap → GivesT w (Ar (dp + 1) un' (env' :: outer)) (call (.ref 122) [.ref p]) s' (fun v _ => ∃ tk, v = .int d tk) :=
        fun {s' un' env'} st' => (ih0 (fun b o e => st' b o (st b o e)) (up.keeps st') (by omega)).call
      have hdep : ∃ D b, (D = 225 ∨ D = 305) ∧ Inst s.heap p D b ∧ b (Str.ofString "depth") = none := by
        cases up with
        | root a b c d => exact ⟨_, _, a, b, d⟩
        | up a b c d _ => exact ⟨_, _, a, b, d⟩
      obtain ⟨D, b, hD, j, h3⟩ := hdep
      clear ih0 up
      rcases hC with rfl | rfl <;> rcases hD with rfl | rfl
      all_goals (
        walk_at "mine:go0"
        k_steps
        all_goals exact hR _ _ _ ⟨_, congrArg (fun z => Value.int z _) (show (1 + (d : Int)) = ((d + 1 : Nat) : Int) by omega)⟩ (by walk_at "mine:stays"))
end
section
variable {w : World} {H₀ : Heap} {mean : ExcName → Option Value} {mg mb : Str → Option Value}
theorem next_root (G : Gd w H₀ mean mg mb) {s : Shared} (st : H₀.StaysIn s.heap) {dp un outer} {x C a} (i : Inst s.heap x C a) (hC : C = 225 ∨ C = 305)
    (hp : a (Str.ofString "parent") = none) (hd : dp + 1 < recursionLimit) :
    Gives w (Ar dp un outer) (.call (.ref 99) ⟨[.ref x], []⟩) s (fun v _ => v = .none) := by
  intro R hR
  walk_at "mine:go0"
  k_steps
  all_goals exact hR _ _ _ rfl (by walk_at "mine:stays")
theorem next_10 (G : Gd w H₀ mean mg mb) {s : Shared} (st : H₀.StaysIn s.heap) {dp un outer} {x p l : Addr} {C a c } (i1 : Inst s.heap x C a) (hC : C = 225 ∨ C = 305) (i : Inst s.heap p 225 c)
    (hp : a (Str.ofString "parent") = some (.ref p)) (hl : c (Str.ofString "children") = some (.ref l)) (hL : LAt H₀ s.heap l [.ref x]) (hd : dp + 1 < recursionLimit) (hFr : FramesIn s.heap outer) (hFo : ∀ env ∈ outer, ∀ L, env.frame = some L → H₀.get? L = none) :
    GivesU w (Ar dp un outer) (.call (.ref 99) ⟨[.ref x], []⟩) s outer (fun v _ => v = .none) := by
  intro R hR
  obtain ⟨n, e1, e2⟩ := hL
  walk_at "mine:go1"
  have i1' := hg ▸ i1.hide hN1 (hNc _)
  k_steps
  all_goals exact hR _ _ _ rfl (up_base hg (by assumption) (by walk_at "mine:stays") stB rfl) ((Heap.UpToSlots.of_keeps (by walk_at "mine:stays")).trans up9)
theorem next_20 (G : Gd w H₀ mean mg mb) {s : Shared} (st : H₀.StaysIn s.heap) {dp un outer} {x y1 p l : Addr} {C a c } (i1 : Inst s.heap x C a) (hC : C = 225 ∨ C = 305) (i : Inst s.heap p 225 c)
    (hp : a (Str.ofString "parent") = some (.ref p)) (hl : c (Str.ofString "children") = some (.ref l)) (hL : LAt H₀ s.heap l [.ref x, .ref y1]) (hd : dp + 1 < recursionLimit) :
    Gives w (Ar dp un outer) (.call (.ref 99) ⟨[.ref x], []⟩) s (fun v _ => v = .ref y1) := by
  intro R hR
  obtain ⟨n, e1, e2⟩ := hL
  walk_at "mine:go1"
  have i1' := hg ▸ i1.hide hN1 (hNc _)
  k_steps
  all_goals exact hR _ _ _ rfl (by walk_at "mine:stays")
theorem next_21 (G : Gd w H₀ mean mg mb) {s : Shared} (st : H₀.StaysIn s.heap) {dp un outer} {y0 x p l : Addr} {C a c D0 b0} (i1 : Inst s.heap x C a) (hC : C = 225 ∨ C = 305) (i : Inst s.heap p 225 c)
    (hp : a (Str.ofString "parent") = some (.ref p)) (hl : c (Str.ofString "children") = some (.ref l)) (hL : LAt H₀ s.heap l [.ref y0, .ref x]) (k0 : Inst s.heap y0 D0 b0) (ne0 : y0 ≠ x) (hd : dp + 1 < recursionLimit) (hFr : FramesIn s.heap outer) (hFo : ∀ env ∈ outer, ∀ L, env.frame = some L → H₀.get? L = none) :
    GivesU w (Ar dp un outer) (.call (.ref 99) ⟨[.ref x], []⟩) s outer (fun v _ => v = .none) := by
  intro R hR
  obtain ⟨n, e1, e2⟩ := hL
  walk_at "mine:go1"
  have i1' := hg ▸ i1.hide hN1 (hNc _)
  have k0' := hg ▸ k0.hide hN1 (hNc _)
  k_steps
  all_goals exact hR _ _ _ rfl (up_base hg (by assumption) (by walk_at "mine:stays") stB rfl) ((Heap.UpToSlots.of_keeps (by walk_at "mine:stays")).trans up9)
theorem next_30 (G : Gd w H₀ mean mg mb) {s : Shared} (st : H₀.StaysIn s.heap) {dp un outer} {x y1 y2 p l : Addr} {C a c } (i1 : Inst s.heap x C a) (hC : C = 225 ∨ C = 305) (i : Inst s.heap p 225 c)
    (hp : a (Str.ofString "parent") = some (.ref p)) (hl : c (Str.ofString "children") = some (.ref l)) (hL : LAt H₀ s.heap l [.ref x, .ref y1, .ref y2]) (hd : dp + 1 < recursionLimit) :
    Gives w (Ar dp un outer) (.call (.ref 99) ⟨[.ref x], []⟩) s (fun v _ => v = .ref y1) := by
  intro R hR
  obtain ⟨n, e1, e2⟩ := hL
  walk_at "mine:go1"
  have i1' := hg ▸ i1.hide hN1 (hNc _)
  k_steps
  all_goals exact hR _ _ _ rfl (by walk_at "mine:stays")
theorem next_31 (G : Gd w H₀ mean mg mb) {s : Shared} (st : H₀.StaysIn s.heap) {dp un outer} {y0 x y2 p l : Addr} {C a c D0 b0} (i1 : Inst s.heap x C a) (hC : C = 225 ∨ C = 305) (i : Inst s.heap p 225 c)
    (hp : a (Str.ofString "parent") = some (.ref p)) (hl : c (Str.ofString "children") = some (.ref l)) (hL : LAt H₀ s.heap l [.ref y0, .ref x, .ref y2]) (k0 : Inst s.heap y0 D0 b0) (ne0 : y0 ≠ x) (hd : dp + 1 < recursionLimit) :
    Gives w (Ar dp un outer) (.call (.ref 99) ⟨[.ref x], []⟩) s (fun v _ => v = .ref y2) := by
  intro R hR
  obtain ⟨n, e1, e2⟩ := hL
  walk_at "mine:go1"
  have i1' := hg ▸ i1.hide hN1 (hNc _)
  have k0' := hg ▸ k0.hide hN1 (hNc _)
  k_steps
  all_goals exact hR _ _ _ rfl (by walk_at "mine:stays")
theorem next_32 (G : Gd w H₀ mean mg mb) {s : Shared} (st : H₀.StaysIn s.heap) {dp un outer} {y0 y1 x p l : Addr} {C a c D0 b0 D1 b1} (i1 : Inst s.heap x C a) (hC : C = 225 ∨ C = 305) (i : Inst s.heap p 225 c)
    (hp : a (Str.ofString "parent") = some (.ref p)) (hl : c (Str.ofString "children") = some (.ref l)) (hL : LAt H₀ s.heap l [.ref y0, .ref y1, .ref x]) (k0 : Inst s.heap y0 D0 b0) (ne0 : y0 ≠ x) (k1 : Inst s.heap y1 D1 b1) (ne1 : y1 ≠ x) (hd : dp + 1 < recursionLimit) (hFr : FramesIn s.heap outer) (hFo : ∀ env ∈ outer, ∀ L, env.frame = some L → H₀.get? L = none) :
    GivesU w (Ar dp un outer) (.call (.ref 99) ⟨[.ref x], []⟩) s outer (fun v _ => v = .none) := by
  intro R hR
  obtain ⟨n, e1, e2⟩ := hL
  walk_at "mine:go1"
  have i1' := hg ▸ i1.hide hN1 (hNc _)
  have k0' := hg ▸ k0.hide hN1 (hNc _)
  have k1' := hg ▸ k1.hide hN1 (hNc _)
  k_steps
  all_goals exact hR _ _ _ rfl (up_base hg (by assumption) (by walk_at "mine:stays") stB rfl) ((Heap.UpToSlots.of_keeps (by walk_at "mine:stays")).trans up9)
theorem prev_root (G : Gd w H₀ mean mg mb) {s : Shared} (st : H₀.StaysIn s.heap) {dp un outer} {x C a} (i : Inst s.heap x C a) (hC : C = 225 ∨ C = 305)
    (hp : a (Str.ofString "parent") = none) (hd : dp + 1 < recursionLimit) :
    Gives w (Ar dp un outer) (.call (.ref 107) ⟨[.ref x], []⟩) s (fun v _ => v = .none) := by
  intro R hR
  walk_at "mine:go0"
  k_steps
  all_goals exact hR _ _ _ rfl (by walk_at "mine:stays")
theorem prev_10 (G : Gd w H₀ mean mg mb) {s : Shared} (st : H₀.StaysIn s.heap) {dp un outer} {x p l : Addr} {C a c } (i1 : Inst s.heap x C a) (hC : C = 225 ∨ C = 305) (i : Inst s.heap p 225 c)
    (hp : a (Str.ofString "parent") = some (.ref p)) (hl : c (Str.ofString "children") = some (.ref l)) (hL : LAt H₀ s.heap l [.ref x]) (hd : dp + 1 < recursionLimit) :
    Gives w (Ar dp un outer) (.call (.ref 107) ⟨[.ref x], []⟩) s (fun v _ => v = .none) := by
  intro R hR
  obtain ⟨n, e1, e2⟩ := hL
  walk_at "mine:go1"
  have i1' := hg ▸ i1.hide hN1 (hNc _)
  k_steps
  all_goals exact hR _ _ _ rfl (by walk_at "mine:stays")
theorem prev_20 (G : Gd w H₀ mean mg mb) {s : Shared} (st : H₀.StaysIn s.heap) {dp un outer} {x y1 p l : Addr} {C a c } (i1 : Inst s.heap x C a) (hC : C = 225 ∨ C = 305) (i : Inst s.heap p 225 c)
    (hp : a (Str.ofString "parent") = some (.ref p)) (hl : c (Str.ofString "children") = some (.ref l)) (hL : LAt H₀ s.heap l [.ref x, .ref y1]) (hd : dp + 1 < recursionLimit) :
    Gives w (Ar dp un outer) (.call (.ref 107) ⟨[.ref x], []⟩) s (fun v _ => v = .none) := by
  intro R hR
  obtain ⟨n, e1, e2⟩ := hL
  walk_at "mine:go1"
  have i1' := hg ▸ i1.hide hN1 (hNc _)
  k_steps
  all_goals exact hR _ _ _ rfl (by walk_at "mine:stays")
theorem prev_21 (G : Gd w H₀ mean mg mb) {s : Shared} (st : H₀.StaysIn s.heap) {dp un outer} {y0 x p l : Addr} {C a c D0 b0} (i1 : Inst s.heap x C a) (hC : C = 225 ∨ C = 305) (i : Inst s.heap p 225 c)
    (hp : a (Str.ofString "parent") = some (.ref p)) (hl : c (Str.ofString "children") = some (.ref l)) (hL : LAt H₀ s.heap l [.ref y0, .ref x]) (k0 : Inst s.heap y0 D0 b0) (ne0 : y0 ≠ x) (hd : dp + 1 < recursionLimit) :
    Gives w (Ar dp un outer) (.call (.ref 107) ⟨[.ref x], []⟩) s (fun v _ => v = .ref y0) := by
  intro R hR
  obtain ⟨n, e1, e2⟩ := hL
  walk_at "mine:go1"
  have i1' := hg ▸ i1.hide hN1 (hNc _)
  have k0' := hg ▸ k0.hide hN1 (hNc _)
  k_steps
  all_goals exact hR _ _ _ rfl (by walk_at "mine:stays")
theorem prev_30 (G : Gd w H₀ mean mg mb) {s : Shared} (st : H₀.StaysIn s.heap) {dp un outer} {x y1 y2 p l : Addr} {C a c } (i1 : Inst s.heap x C a) (hC : C = 225 ∨ C = 305) (i : Inst s.heap p 225 c)
    (hp : a (Str.ofString "parent") = some (.ref p)) (hl : c (Str.ofString "children") = some (.ref l)) (hL : LAt H₀ s.heap l [.ref x, .ref y1, .ref y2]) (hd : dp + 1 < recursionLimit) :
    Gives w (Ar dp un outer) (.call (.ref 107) ⟨[.ref x], []⟩) s (fun v _ => v = .none) := by
  intro R hR
  obtain ⟨n, e1, e2⟩ := hL
  walk_at "mine:go1"
  have i1' := hg ▸ i1.hide hN1 (hNc _)
  k_steps
  all_goals exact hR _ _ _ rfl (by walk_at "mine:stays")
theorem prev_31 (G : Gd w H₀ mean mg mb) {s : Shared} (st : H₀.StaysIn s.heap) {dp un outer} {y0 x y2 p l : Addr} {C a c D0 b0} (i1 : Inst s.heap x C a) (hC : C = 225 ∨ C = 305) (i : Inst s.heap p 225 c)
    (hp : a (Str.ofString "parent") = some (.ref p)) (hl : c (Str.ofString "children") = some (.ref l)) (hL : LAt H₀ s.heap l [.ref y0, .ref x, .ref y2]) (k0 : Inst s.heap y0 D0 b0) (ne0 : y0 ≠ x) (hd : dp + 1 < recursionLimit) :
    Gives w (Ar dp un outer) (.call (.ref 107) ⟨[.ref x], []⟩) s (fun v _ => v = .ref y0) := by
  intro R hR
  obtain ⟨n, e1, e2⟩ := hL
  walk_at "mine:go1"
  have i1' := hg ▸ i1.hide hN1 (hNc _)
  have k0' := hg ▸ k0.hide hN1 (hNc _)
  k_steps
  all_goals exact hR _ _ _ rfl (by walk_at "mine:stays")
theorem prev_32 (G : Gd w H₀ mean mg mb) {s : Shared} (st : H₀.StaysIn s.heap) {dp un outer} {y0 y1 x p l : Addr} {C a c D0 b0 D1 b1} (i1 : Inst s.heap x C a) (hC : C = 225 ∨ C = 305) (i : Inst s.heap p 225 c)
    (hp : a (Str.ofString "parent") = some (.ref p)) (hl : c (Str.ofString "children") = some (.ref l)) (hL : LAt H₀ s.heap l [.ref y0, .ref y1, .ref x]) (k0 : Inst s.heap y0 D0 b0) (ne0 : y0 ≠ x) (k1 : Inst s.heap y1 D1 b1) (ne1 : y1 ≠ x) (hd : dp + 1 < recursionLimit) :
    Gives w (Ar dp un outer) (.call (.ref 107) ⟨[.ref x], []⟩) s (fun v _ => v = .ref y1) := by
  intro R hR
  obtain ⟨n, e1, e2⟩ := hL
  walk_at "mine:go1"
  have i1' := hg ▸ i1.hide hN1 (hNc _)
  have k0' := hg ▸ k0.hide hN1 (hNc _)
  have k1' := hg ▸ k1.hide hN1 (hNc _)
  k_steps
  all_goals exact hR _ _ _ rfl (by walk_at "mine:stays")
end
/-- the heap up to an address -/
def cutAt (h : Heap) (n : Nat) : Heap := ⟨h.objs.take n, h.life⟩
theorem cutAt_get (h : Heap) (n b : Nat) : (cutAt h n).get? b = if b < n then h.get? b else none := by
  have key : (h.objs.take n)[b]? = if b < n then h.objs[b]? else none := by
    simp only [Array.take_eq_extract, Array.getElem?_extract]
    by_cases hb : b < n
    · by_cases hb2 : b < h.objs.size
      · simp [hb, hb2, Nat.lt_min]
      · have : h.objs[b]? = none := Array.getElem?_eq_none (by omega)
        simp [hb2, this, Nat.lt_min]
    · simp [hb, Nat.lt_min]
  unfold cutAt Heap.get?
  simp only [key]
  by_cases hb : b < n
  · simp [hb]
  · simp [hb]
theorem cutAt_stays (h : Heap) (n : Nat) : (cutAt h n).StaysIn h := fun b o e => by
  rw [cutAt_get] at e
  split at e
  · exact e
  · cases e
theorem cutAt_size (h : Heap) (n : Nat) (hn : n ≤ h.objs.size) : (cutAt h n).objs.size = n := by
  unfold cutAt
  simp; omega
theorem cutAt_in {h h' : Heap} {n : Nat} (st : h.StaysIn h') (hn : h.objs.size ≤ n) : h.StaysIn (cutAt h' n) := fun b o e => by
  rw [cutAt_get, if_pos (Nat.lt_of_lt_of_le (Heap.lt_size e) hn)]
  exact st b o e
section
variable {w : World} {H₀ : Heap} {mean : ExcName → Option Value} {mg mb : Str → Option Value} {prog : Program} {A : Around} {E : Value → Shared → Prop} {s : Shared} {K : Frag} {x C L : Addr} {g : Heap} {m : Str → Option Value} {name : Str} {v : Value} {a : Str → Option Value} {expr : Bool} {Q : Value → Shared → Prop}
theorem attr_propU {p fget : Addr} {rest : List Value} {V : Value → Heap → Prop} {outer : List Env} (X : K.In s.heap) (I : Inst s.heap x C a) (hg : plainGet K C name = true) (hh : hasDictIn K C = true)
    (ha : findIn K (.ref C) name = some (some (.ref p))) (hn : specialIn K (.ref p) "__get__" = some (some (.builtin "property.__get__"))) (ht : takesIn K (.ref p) = some true) (hp : recIn K p "property" = some (.ref fget :: rest))
    (h : GivesU w A.in1 (.call (.ref fget) ⟨[.ref x], []⟩) { s with toks := s.toks + 1 } outer V) (hv : ∀ v h', V v h' → handedIn v = true)
    (k : ∀ v h' tk', V v h' → (frameless s.heap outer).StaysIn h' → s.heap.UpToSlots h' → Q v { s with heap := h', toks := tk' }) :
    wpAny (model PG w) A (getAttr (.ref x) name expr) Q E s := by
  obtain ⟨dx, es, n, h1, h2, h3⟩ := I
  have X' := X
  refine get_bind (od := some (dictOf es n)) X' ⟨h1, rfl, rfl, h2⟩ (plainGet_of hg).1 (findObj_data (by obtain ⟨cd, hc, _⟩ := any_some hh; rw [hc]; rfl) ha hn ht) (plainGet_of hg).2 (wpAny_call (prop_get (s := { s with toks := s.toks + 1 }) X' hp ?_))
  exact h _ fun v h' tk' hv' st up => handed_on (hv v h' hv') (k v h' tk' hv' st up)
theorem reground {h h' : Heap} (F : Fr g L h m) (up : h.UpToSlots h') : Fr (cutAt h' g.objs.size) L h' m := by
  have n' := up.ns F.ns
  refine ⟨n', cutAt_stays _ _, ?_⟩
  obtain ⟨o, es, ep, ho, _⟩ := n'
  rw [cutAt_size _ _ (Nat.le_of_lt (Nat.lt_of_le_of_lt F.above (Heap.lt_size ho)))]
  exact F.above
theorem suffix_of (G : Gd w H₀ mean mg mb) {s : Shared} (st : H₀.StaysIn s.heap) {dp un outer} {x C a} (i : Inst s.heap x C a) (hC : C = 225 ∨ C = 305) {o : Option Tr}
    (hfo : ∀ env ∈ outer, ∀ L, env.frame = some L → H₀.get? L = none) (hd : dp + 10 < recursionLimit)
    (hnext : ∀ {s' : Shared} {un' env'}, s.heap.StaysIn s'.heap → FramesIn s'.heap (env' :: outer) → (∀ L, env'.frame = some L → H₀.get? L = none) →
      GivesU w (Ar (dp + 1) un' (env' :: outer)) (.call (.ref 99) ⟨[.ref x], []⟩) s' (env' :: outer) (fun v _ => v = (o.map fun t => Value.ref t.root).getD .none))
    (ho : ∀ t, o = some t → t.height ≤ 5 ∧ ∃ k par, At H₀ (frameless s.heap outer) t k par) (hFr : FramesIn s.heap outer) :
    GivesU w (Ar dp un outer) (.call (.ref 129) ⟨[.ref x], []⟩) s outer (fun v _ => ∃ tk, v = .str ((o.map Tr.firstPre).getD (Str.ofString "")) tk) := by
  intro R hR
  walk_at "mine:go0"
  k_steps
  rename Fr _ _ _ _ => F1
  have stF : s.heap.StaysIn _ := F1.keep
  have X1 := Gd.X G
  refine' attr_propU ?k0 ?k1 ?k2 ?k3 ?k4 ?k5 ?k6 ?k7 (hnext ?k8 ?k9 ?k10) ?k11 ?_
  case k0 => exact G.X.keeps fun b o e => stF b o (st b o e)
  case k1 => exact i.keeps stF
  case k2 => walk_at "mine:is"
  case k3 => walk_at "mine:is"
  case k4 => walk_at "mine:is"
  case k5 => k_is
  case k6 => k_is
  case k7 => k_is
  case k8 => exact stF
  case k9 => exact FramesIn.push hFr stF F1.ns rfl rfl
  case k10 => intro L9 h9; injection h9 with h9; subst h9; exact noframe_new F1 st
  case k11 => rintro v h' rfl; cases o <;> rfl
  intro v h' tk' hv stB up
  subst hv
  have stB' := up_base (as := []) rfl F1 stF stB rfl
  have up' := (Heap.UpToSlots.of_keeps stF).trans up
  have sH : H₀.StaysIn h' := fun b o e => stB' b o (frameless_get (st b o e) fun env he hf => by rw [hfo env he b hf] at e; cases e)
  have F2 := reground F1 up
  have sH2 : H₀.StaysIn (cutAt h' s.heap.objs.size) := fun b o e => by
    rw [cutAt_get, if_pos (Heap.lt_size (st b o e))]; exact sH b o e
  have N2 : News (cutAt h' s.heap.objs.size) L' h' [] := .nil
  have X2 := G.X.keeps sH2
  have T2 := G.T.keeps sH2
  have fin : ∀ {v : Value} {h'' : Heap} {tk : Nat}, (∃ tk, v = .str ((o.map Tr.firstPre).getD (Str.ofString "")) tk) → (cutAt h' s.heap.objs.size).StaysIn h'' → R (.ok (.ret v)) { s with heap := h'', toks := tk } :=
    fun hv k => hR _ _ _ hv (fun b o e => k b o (by rw [cutAt_get, if_pos (Heap.lt_size (frameless_stays _ _ b o e))]; exact stB' b o e))
      (fun b o e hn => let ⟨sl, q⟩ := up' b o e hn; ⟨sl, k b _ (by rw [cutAt_get, if_pos (Heap.lt_size e)]; exact q)⟩)
  have ih : ∀ {t : Tr}, o = some t → ∀ {s' : Shared} {un' env' expr}, (cutAt h' s.heap.objs.size).StaysIn s'.heap → GivesT w (Ar (dp + 1) un' (env' :: outer)) (getAttr (.ref t.root) (Str.ofString "prefix") expr) s' (fun v _ => ∃ tk, v = .str t.firstPre tk) := fun {t} ht {s' un' env' expr} st' => by
    obtain ⟨hh, k, par, hAt⟩ := ho t ht
    exact pre_attr G t (fun b o e => st' b o (sH2 b o e)) (hAt.keeps fun b o e => st' b o (by rw [cutAt_get, if_pos (Heap.lt_size (frameless_stays _ _ b o e))]; exact stB' b o e)) (by omega)
  clear hnext ho stF X1 F1 stB stB' up up' sH hFr i hR N' Xg Tg
  cases o with
  | none =>
    simp only [Option.map_none, Option.getD_none] at *
    k_steps
    all_goals exact fin ⟨_, rfl⟩ (Fr.keep (by assumption))
  | some t =>
    simp only [Option.map_some, Option.getD_some] at *
    replace ih := @ih t rfl
    k_steps
    all_goals exact fin ⟨_, rfl⟩ (Fr.keep (by assumption))
end
abbrev gScope : Scope := { kind := .function, names := [(Str.ofString "self", .local), (Str.ofString "child", .local)], isGenerator := true, isCoroutine := false, more := [] }
abbrev gScope1 : Scope := { kind := .function, names := [(Str.ofString "self", .local)], isGenerator := true, isCoroutine := false, more := [] }
abbrev AG (D U : Nat) : Around := { handled := none, depth := D, frames := none, guards := none, units := U }
section
variable {w : World} {H₀ B : Heap} {mean : ExcName → Option Value} {mg mb : Str → Option Value}
theorem ev_self {qual f cdv L p s D U m v} {Q : Value → Shared → Prop} {E} (F : Fr B L s.heap m) (hm : m (Str.ofString "self") = some v) (h : Q v s) : wpAny (model PG w) (AG D U) (eval (.Name "self" p) (envOf qual gScope L f cdv)) Q E s := ld F hm h
theorem ev_self1 {qual f cdv L p s D U m v} {Q : Value → Shared → Prop} {E} (F : Fr B L s.heap m) (hm : m (Str.ofString "self") = some v) (h : Q v s) : wpAny (model PG w) (AG D U) (eval (.Name "self" p) (envOf qual gScope1 L f cdv)) Q E s := ld F hm h
theorem ev_children {qual f cdv L p q s D U m x l a} {Q : Value → Shared → Prop} {E} (X : (Mine.hd.heap_39 w.params).In B) (F : Fr B L s.heap m) (hm : m (Str.ofString "self") = some (.ref x)) (I : Inst B x 225 a) (hc : a (Str.ofString "children") = some (.ref l)) (h : ∀ tk, Q (.ref l) { s with toks := tk }) :
    wpAny (model PG w) (AG D U) (eval (.Attribute (.Name "self" p) "children" q) (envOf qual gScope L f cdv)) Q E s := by
  k_steps
  refine ld F hm ?_
  refine' attr_own F X I hc ?k5 ?k6 ?k7 ?k8 rfl (h _)
  case k5 => k_is
  case k6 => k_is
  case k7 => k_is
  case k8 => k_is
theorem ev_pre {qual f cdv L s D U m x C fn a} {Q : Value → Shared → Prop} {E} (X : (Mine.hd.heap_39 w.params).In B) (F : Fr B L s.heap m) (hm : m (Str.ofString "child") = some (.ref x)) (hC : (C = 225 ∧ fn = 184) ∨ (C = 305 ∧ fn = 285)) (I : Inst B x C a) (hc : a (Str.ofString "pre_order") = none)
    (hcall : wpAny (model PG w) (AG D U) (call (.ref fn) [.ref x]) Q E s) :
    wpAny (model PG w) (AG D U) (eval (.Call (.Attribute (.Name "child" ⟨117, 23, 117, 28⟩) "pre_order" ⟨117, 23, 117, 38⟩) [] [] ⟨117, 23, 117, 40⟩) (envOf qual gScope L f cdv)) Q E s := by
  rcases hC with ⟨hC, hf⟩ | ⟨hC, hf⟩ <;> subst hC <;> subst hf
  · k_steps
    refine ld F hm ?_
    refine' meth_own F X I hc ?k1 ?k2 ?k3 ?_
    case k1 => k_is
    case k2 => k_is
    case k3 => k_is
    k_steps
    exact hcall
  · k_steps
    refine ld F hm ?_
    refine' meth_own F X I hc ?k1 ?k2 ?k3 ?_
    case k1 => k_is
    case k2 => k_is
    case k3 => k_is
    k_steps
    exact hcall
theorem ev_post {qual f cdv L s D U m x C fn a} {Q : Value → Shared → Prop} {E} (X : (Mine.hd.heap_39 w.params).In B) (F : Fr B L s.heap m) (hm : m (Str.ofString "child") = some (.ref x)) (hC : (C = 225 ∧ fn = 177) ∨ (C = 305 ∧ fn = 278)) (I : Inst B x C a) (hc : a (Str.ofString "post_order") = none)
    (hcall : wpAny (model PG w) (AG D U) (call (.ref fn) [.ref x]) Q E s) :
    wpAny (model PG w) (AG D U) (eval (.Call (.Attribute (.Name "child" ⟨111, 23, 111, 28⟩) "post_order" ⟨111, 23, 111, 39⟩) [] [] ⟨111, 23, 111, 41⟩) (envOf qual gScope L f cdv)) Q E s := by
  rcases hC with ⟨hC, hf⟩ | ⟨hC, hf⟩ <;> subst hC <;> subst hf
  · k_steps
    refine ld F hm ?_
    refine' meth_own F X I hc ?k1 ?k2 ?k3 ?_
    case k1 => k_is
    case k2 => k_is
    case k3 => k_is
    k_steps
    exact hcall
  · k_steps
    refine ld F hm ?_
    refine' meth_own F X I hc ?k1 ?k2 ?k3 ?_
    case k1 => k_is
    case k2 => k_is
    case k3 => k_is
    k_steps
    exact hcall
theorem ev_leaves {qual f cdv L s D U m x C fn a} {Q : Value → Shared → Prop} {E} (X : (Mine.hd.heap_39 w.params).In B) (F : Fr B L s.heap m) (hm : m (Str.ofString "child") = some (.ref x)) (hC : (C = 225 ∧ fn = 115) ∨ (C = 305 ∧ fn = 271)) (I : Inst B x C a) (hc : a (Str.ofString "leaves") = none)
    (hcall : wpAny (model PG w) (AG D U) (call (.ref fn) [.ref x]) Q E s) :
    wpAny (model PG w) (AG D U) (eval (.Call (.Attribute (.Name "child" ⟨71, 23, 71, 28⟩) "leaves" ⟨71, 23, 71, 35⟩) [] [] ⟨71, 23, 71, 37⟩) (envOf qual gScope L f cdv)) Q E s := by
  rcases hC with ⟨hC, hf⟩ | ⟨hC, hf⟩ <;> subst hC <;> subst hf
  · k_steps
    refine ld F hm ?_
    refine' meth_own F X I hc ?k1 ?k2 ?k3 ?_
    case k1 => k_is
    case k2 => k_is
    case k3 => k_is
    k_steps
    exact hcall
  · k_steps
    refine ld F hm ?_
    refine' meth_own F X I hc ?k1 ?k2 ?k3 ?_
    case k1 => k_is
    case k2 => k_is
    case k3 => k_is
    k_steps
    exact hcall
end
section
variable {w : World} {A : Around} {s : Shared} {K : Frag} {B : Heap}
theorem enterG {prog : Program} {R : Result → Shared → Prop} {name qual : Str} {params : Arguments} {body : List Stmt} {scope : Scope} {dV kV doc pm cdv ct oc : Value} {an od : Option Addr} {osl : Array (Option Value)} {f : Addr} {args : Args} {binds : List (Str × Value)}
    (X : K.In B) (NL : B.NoLimit) (st : B.StaysIn s.heap) (hsz : B.objs.size ≤ s.heap.objs.size)
    (ho : K.lookup f = some ⟨oc, od, .func (fnOf name qual params body scope dV kV doc pm an cdv ct), osl⟩) (hcd : codeIn K cdv qual = true) (hroom : A.depth < recursionLimit)
    (hbind : BindsTo s (fnOf name qual params body scope dV kV doc pm an cdv ct) args binds) (hloc : ∀ y ∈ binds, scope.names.lookup y.1 = some .local)
    (h : ∀ it h' tk, s.heap.StaysIn h' → s.heap.objs.size < it → Fr B s.heap.objs.size h' (fun y => binds.reverse.lookup y) → h'.IsGen it s.gens.size → 
      R (.ok (.ret (.ref it))) { s with heap := h', toks := tk, gens := s.gens.push (.fresh (.func body (envOf qual scope s.heap.objs.size f cdv))) })
    (hco : scope.isCoroutine = false) (hgen : scope.isGenerator = true) (hk : scope.kind = .function)
    (hcell : ∀ x ∈ scope.names, x.2 ≠ .cell) : codeAny (model prog w) A (.call (.ref f) args) R s := by
  refine codeAny_call_generator (fd := fnOf name qual params body scope dV kV doc pm an cdv ct) (body := body) hroom (st _ _ (X _ _ ho)) rfl hco hgen rfl (codeRec_of (X.keeps st) hcd) (hbind _ _ _ _ ?_)
  refine wpAny_newFunctionEnv hcell hloc (fun h₀ hns₀ hsb₀ => ⟨(NL.keeps st).fresh _ hsb₀, ?_⟩) hk
  have k1 : s.heap.StaysIn h₀ := fun b o e => hsb₀.extBut b o (Nat.ne_of_lt (Heap.lt_size e)) (Heap.get?_push_of_some _ e)
  have k2 : ∀ o', h₀.StaysIn (h₀.push o') := fun o' b o e => Heap.get?_push_of_some _ e
  have hL : s.heap.objs.size < h₀.objs.size := by
    obtain ⟨o, es, ep, e, _⟩ := hns₀
    exact Heap.lt_size e
  refine h h₀.objs.size _ _ (fun b o e => k2 _ b o (k1 b o e)) hL ⟨hns₀.push _, fun b o e => k2 _ b o (k1 b o (st b o e)), hsz⟩ ?_
  exact ⟨_, _, _, Heap.get?_push_size _ rfl, rfl, rfl, rfl⟩
end
/-- the codes of the generators -/
def GenOf (w : World) (f : Addr) (name : String) (body : List Stmt) (scope : Scope) (qual : Str) (cdv : Value) : Prop :=
  ∃ params dV kV doc pm ct oc an od osl, (Mine.hd.heap_39 w.params).lookup f = some ⟨oc, od, .func (fnOf name qual params body scope dV kV doc pm an cdv ct), osl⟩ ∧ codeIn (Mine.hd.heap_39 w.params) cdv qual = true ∧
    ∀ s v, BindsTo s (fnOf name qual params body scope dV kV doc pm an cdv ct) ⟨[v], []⟩ [(Str.ofString "self", v)]
theorem GenOf.ex {w : World} {f : Addr} {name : String} {body : List Stmt} {scope : Scope} {qual : Str} {cdv : Value} {params dV kV doc pm ct oc an od osl}
    (h1 : (Mine.hd.heap_39 w.params).lookup f = some ⟨oc, od, .func (fnOf name qual params body scope dV kV doc pm an cdv ct), osl⟩) (h2 : codeIn (Mine.hd.heap_39 w.params) cdv qual = true)
    (h3 : ∀ s v, BindsTo s (fnOf name qual params body scope dV kV doc pm an cdv ct) ⟨[v], []⟩ [(Str.ofString "self", v)]) : ∃ q c, GenOf w f name body scope q c := ⟨_, _, _, _, _, _, _, _, _, _, _, _, h1, h2, h3⟩
abbrev yieldSelf (p1 p2 p3 : Pos) : Stmt := .Expr (.Yield (some (.Name "self" p1)) p2) p3
abbrev callOf (m : Str) (l c : Nat) : Expr := .Call (.Attribute (.Name "child" ⟨l, 23, l, 28⟩) m ⟨l, 23, l, c⟩) [] [] ⟨l, 23, l, c + 2⟩
abbrev forKids (m : Str) (l c : Nat) : Stmt := .For (.Name "child" ⟨l - 1, 12, l - 1, 17⟩) (.Attribute (.Name "self" ⟨l - 1, 21, l - 1, 25⟩) "children" ⟨l - 1, 21, l - 1, 34⟩)
  [.Expr (.YieldFrom (callOf m l c) ⟨l, 12, l, c + 2⟩) ⟨l, 12, l, c + 2⟩] [] ⟨l - 1, 8, l, c + 2⟩
abbrev ys (l : Nat) : Stmt := yieldSelf ⟨l, 14, l, 18⟩ ⟨l, 8, l, 18⟩ ⟨l, 8, l, 18⟩
section
variable {w : World}
theorem gen_184 : ∃ q c, GenOf w 184 "pre_order" [ys 115, forKids "pre_order" 117 38] gScope q c := by
  refine' GenOf.ex ?k5 ?k6 ?k7
  case k5 => k_is
  case k6 => k_is
  case k7 => intro s v; exact BindsTo.of_eq rfl
theorem gen_177 : ∃ q c, GenOf w 177 "post_order" [forKids "post_order" 111 39, ys 112] gScope q c := by
  refine' GenOf.ex ?k5 ?k6 ?k7
  case k5 => k_is
  case k6 => k_is
  case k7 => intro s v; exact BindsTo.of_eq rfl
theorem gen_115 : ∃ q c, GenOf w 115 "leaves" [forKids "leaves" 71 35] gScope q c := by
  refine' GenOf.ex ?k5 ?k6 ?k7
  case k5 => k_is
  case k6 => k_is
  case k7 => intro s v; exact BindsTo.of_eq rfl
theorem gen_285 : ∃ q c, GenOf w 285 "pre_order" [ys 170] gScope1 q c := by
  refine' GenOf.ex ?k5 ?k6 ?k7
  case k5 => k_is
  case k6 => k_is
  case k7 => intro s v; exact BindsTo.of_eq rfl
theorem gen_278 : ∃ q c, GenOf w 278 "post_order" [ys 167] gScope1 q c := by
  refine' GenOf.ex ?k5 ?k6 ?k7
  case k5 => k_is
  case k6 => k_is
  case k7 => intro s v; exact BindsTo.of_eq rfl
theorem gen_271 : ∃ q c, GenOf w 271 "leaves" [ys 164] gScope1 q c := by
  refine' GenOf.ex ?k5 ?k6 ?k7
  case k5 => k_is
  case k6 => k_is
  case k7 => intro s v; exact BindsTo.of_eq rfl
end
theorem over_in {A : Around} {c : Code} {fs : List Frame} (hh : (A.over c fs).handled = none) : ∀ Γ : Ctx, Γ.In (A.over c fs) → Γ.In (AG (A.over c fs).depth (A.over c fs).units) :=
  fun _ h => ⟨h.1.trans hh, h.2.1, fun _ e => (by cases e), fun _ e => (by cases e), h.2.2.2.2⟩
theorem over_d0 {D U : Nat} {bd : List Stmt} {env : Env} : ((AG D U).over (.func bd env) []).depth = D + 1 := rfl
theorem over_d1 {D U : Nat} {a : Expr} {b : Value} {c d bd : List Stmt} {e env : Env} {k l p kp} : ((AG D U).over (.forLoop a b c d e) [.ret k none false l (.func bd env) p kp]).depth = D + 1 := rfl
theorem over_d2 {D U : Nat} {it : Addr} {a : Expr} {b : Value} {c d bd : List Stmt} {e env : Env} {k l p kp k' l' p' kp'} : ((AG D U).over (yfCode it) [.ret k' none false l' (.forLoop a b c d e) p' kp', .ret k none false l (.func bd env) p kp]).depth = D + 1 := rfl
/-- the ground of a generator -/
structure GB (w : World) (x : GP) (B : Heap) : Prop where
  X : (Mine.hd.heap_39 w.params).In B
  NL : B.NoLimit
  low : ∀ b o, B.get? b = some o → b < x.a ∧ ¬ x.hid b
  sz : B.objs.size ≤ x.a
theorem GB.cs {w x B} (g : GB w x B) : cStatics < x.a ∧ ¬ x.hid cStatics := by
  obtain ⟨mc, ⟨o, es, ep, e, _⟩, _⟩ := g.NL
  exact g.low _ _ e
structure Own (x : GP) (B : Heap) (L root : Addr) (s : Shared) : Prop where
  fr : ∃ m, Fr B L s.heap m ∧ m (Str.ofString "self") = some (.ref root)
  fin : AllFin x.g s
  reg : s.heap.life.registered = []
  sz : x.g < s.gens.size
  hid : ∀ b, x.hid b → b < s.heap.objs.size
theorem Own.next {x : GP} {B : Heap} {L root : Addr} {s s' : Shared} (o : Own x B L root s) (kB : ∀ b o, B.get? b = some o → s.heap.get? b = some o → s'.heap.get? b = some o) (kL : ∀ o, s.heap.get? L = some o → s'.heap.get? L = some o) (hf : AllFin x.g s') (hz : x.g < s'.gens.size) (hg : Grew s s') : Own x B L root s' := by
  obtain ⟨⟨m, F, hm⟩, a, b, c, d⟩ := o
  refine ⟨⟨m, ⟨let ⟨o, es, ep, e, r⟩ := F.ns; ⟨o, es, ep, kL _ e, r⟩, fun b o e => kB b o e (F.keep b o e), F.above⟩, hm⟩, hf, by rw [hg.1]; exact b, hz, fun b hb => Nat.lt_of_lt_of_le (d b hb) hg.2⟩
/-- a step on the heap alone, that leaves alone what is not the generator's own -/
theorem Mid.heap {x : GP} {s₀ s : Shared} (m : Mid x s₀ s) {h' : Heap} {tk : Nat} (k : ∀ b o, s.heap.get? b = some o → (b < x.a ∨ x.hid b) → h'.get? b = some o) (hg : Grew s { s with heap := h', toks := tk }) : Mid x s₀ { s with heap := h', toks := tk } :=
  ⟨fun b o e hb => k b o (m.1 b o e hb) hb, m.2.1, m.2.2.1, m.2.2.2.1, m.2.2.2.2.1, m.2.2.2.2.2.trans hg⟩
theorem Fr.at' {B h h' : Heap} {L : Addr} {m} (F : Fr B L h m) (kB : ∀ b o, B.get? b = some o → h.get? b = some o → h'.get? b = some o) (kL : ∀ o, h.get? L = some o → h'.get? L = some o) : Fr B L h' m :=
  ⟨let ⟨o, es, ep, e, r⟩ := F.ns; ⟨o, es, ep, kL _ e, r⟩, fun b o e => kB b o e (F.keep b o e), F.above⟩
def Tr.fnPre : Tr → Addr
  | .leaf .. => 285
  | _ => 184
def Tr.fnPost : Tr → Addr
  | .leaf .. => 278
  | _ => 177
def Tr.fnLeaves : Tr → Addr
  | .leaf .. => 271
  | _ => 115
abbrev refs (ts : List Tr) : List Value := ts.map fun t => .ref t.root
/-- what a generator over a tree does, once it is made -/
def GenC (w : World) (B : Heap) (fn : Tr → Addr) (lst : Tr → List Value) (t : Tr) : Prop :=
  ∃ name body scope qual cdv, GenOf w (fn t) name body scope qual cdv ∧ (scope = gScope ∨ scope = gScope1) ∧
    ∀ (x : GP) (D U : Nat) (L : Addr) (s : Shared), GB w x B → x.a ≤ L → ¬ x.hid L → Fr B L s.heap (fun y => [(Str.ofString "self", Value.ref t.root)].reverse.lookup y) → AllFin x.g s → s.heap.life.registered = [] → x.g < s.gens.size → (∀ b, x.hid b → b < s.heap.objs.size) →
      D + 10 * (t.height + 1) < recursionLimit → GoesL (model PG w) (AG D U) x.prot (lst t) (.fresh (.func body (envOf qual scope L (fn t) cdv))) s
section
variable {w : World} {B : Heap}
/-- making it -/
theorem make_gen {A : Around} {fn : Tr → Addr} {lst : Tr → List Value} {t : Tr} {s : Shared} {E : Value → Shared → Prop} {Q : Value → Shared → Prop} (C : GenC w B fn lst t) (X : (Mine.hd.heap_39 w.params).In B) (NL : B.NoLimit) (st : B.StaysIn s.heap) (hsz : B.objs.size ≤ s.heap.objs.size) (hroom : A.depth < recursionLimit)
    (h : ∀ it h' tk c, s.heap.StaysIn h' → s.heap.objs.size < it → h'.IsGen it s.gens.size → s.heap.objs.size < h'.objs.size →
      (∀ (x : GP) (D U : Nat) (s' : Shared), GB w x B → x.a ≤ s.heap.objs.size → ¬ x.hid s.heap.objs.size → (∀ b o, h'.get? b = some o → ¬ x.hid b → s'.heap.get? b = some o) → AllFin x.g s' → s'.heap.life.registered = [] → x.g < s'.gens.size → (∀ b, x.hid b → b < s'.heap.objs.size) → D + 10 * (t.height + 1) < recursionLimit →
        GoesL (model PG w) (AG D U) x.prot (lst t) (.fresh c) s') →
      Q (.ref it) { s with heap := h', toks := tk, gens := s.gens.push (.fresh c) }) :
    wpAny (model PG w) A (call (.ref (fn t)) [.ref t.root]) Q E s := by
  obtain ⟨name, body, scope, qual, cdv, ⟨params, dV, kV, doc, pm, ct, oc, an, od, osl, h1, h2, h3⟩, hs, hg⟩ := C
  refine wpAny_call (enterG X NL st hsz h1 h2 hroom (h3 s _) ?_ (fun it h' tk a1 a2 a3 a4 => h it h' tk _ a1 a2 a4 ?_ fun x D U s' b1 b2 b3 b4 b5 b6 b7 b8 b9 => hg x D U _ s' b1 b2 b3 ?_ b5 b6 b7 b8 b9) ?_ ?_ ?_ ?_)
  · rcases hs with rfl | rfl <;> exact locs rfl
  · obtain ⟨o, es, ep, e, _⟩ := a3.ns; exact Heap.lt_size e
  · exact Fr.at' a3 (fun b o e e' => b4 b o e' (b1.low b o e).2) fun o e => b4 _ o e b3
  · rcases hs with rfl | rfl <;> rfl
  · rcases hs with rfl | rfl <;> rfl
  · rcases hs with rfl | rfl <;> rfl
  · rcases hs with rfl | rfl <;> decide
end
section
set_option hygiene false in
local macro_rules | `(tactic| walk_at "getItem ref int") => `(tactic| (k_here; (with_reducible show wpAny _ _ (getItem (Value.ref _) (Value.int _ _)) _ _ _); (refine wpAny_getItem_list ⟨_, (hN9 _ ?_).1, rfl, _, rfl⟩ ?_ ?_ ?_ ?_)))
theorem ledger2 {H₀ h : Heap} {l l' : Addr} {vs vs' : List Value} {n n' : Nat} (e1 : h.get? l = some (listOf vs.toArray n)) (e2 : H₀.get? l = none) (e3 : h.get? l' = some (listOf vs'.toArray n')) (e4 : H₀.get? l' = none) : ∀ q ∈ [(l, listOf vs.toArray n), (l', listOf vs'.toArray n')], h.get? q.1 = some q.2 ∧ H₀.get? q.1 = none :=
  List.forall_mem_cons.mpr ⟨⟨e1, e2⟩, List.forall_mem_cons.mpr ⟨⟨e3, e4⟩, List.forall_mem_nil _⟩⟩
/-- back out: all but the first list of the ledger is as it was -/
theorem back1 {g H₀ h h' : Heap} {L' S sl : Addr} {m : Str → Option Value} {o1 o1' o2 : Obj} (hg : g = hideAll h ([(S, o1), (sl, o2)].map (·.1))) (hN : ∀ q ∈ [(S, o1), (sl, o2)], h.get? q.1 = some q.2 ∧ H₀.get? q.1 = none) (F : Fr g L' h' m) (N2 : News g L' h' [(S, o1'), (sl, o2)]) :
    ∀ b o, b ≠ S → h.get? b = some o → h'.get? b = some o := by
  intro b o hb e
  by_cases h2 : b = sl
  · subst h2
    have := (hN _ (List.mem_cons_of_mem _ (List.mem_cons_self ..))).1
    rw [e] at this
    rw [Option.some.inj this]
    exact (N2 _ (List.mem_cons_of_mem _ (List.mem_cons_self ..))).1
  · subst hg
    refine F.keep b o (hideAll_get _ e ?_)
    simp only [List.map_cons, List.map_nil, List.mem_cons, List.not_mem_nil, or_false]
    exact fun q => q.elim hb h2
section
variable {w : World} {H₀ : Heap} {mean : ExcName → Option Value} {mg mb : Str → Option Value}
theorem next_ok (G : Gd w H₀ mean mg mb) {s : Shared} (st : H₀.StaysIn s.heap) {dp un outer} {S sl : Addr} {vs : List Value} {ns : List Int} {p limit : Int} {t tl n m : Nat} {R : Result → Shared → Prop}
    (hS : s.heap.get? S = some (listOf [Value.ref sl, .int p t].toArray n)) (hS0 : H₀.get? S = none) (hsl : s.heap.get? sl = some (listOf vs.toArray m)) (hsl0 : H₀.get? sl = none) (hi : IntsAre vs ns) (hlen : ns.length ≤ 60)
    (hne : sl ≠ S) (hp : 0 ≤ p) (hp2 : p < 1000) (hlim : 0 < limit) (hlim2 : limit ≤ 4) (hd : dp + 2 < recursionLimit)
    (hR : ∀ (k : Int) tk h' tks t' n', 0 ≤ k → k < limit → (∀ b o, b ≠ S → s.heap.get? b = some o → h'.get? b = some o) → h'.get? S = some (listOf [Value.ref sl, .int (p + 1) t'].toArray n') → R (.ok (.ret (.int k tk))) { s with heap := h', toks := tks }) :
    codeAny (model PG w) (Ar dp un outer) (.call (.ref 328) ⟨[.ref S, .int limit tl], []⟩) R s := by
  have hN := ledger2 hS hS0 hsl hsl0
  refine' enter _ ?k1 ?k2 ?k3 hN ?k5 ?k6 ?k7 ?k8 ?k9 ?_ ?c1 ?c2 ?c3 ?c4
  walk_at "mine:enter"
  intro g L' h' hg Xg Tg F' hN9 lt'
  (try dsimp only); (try k_fold)
  k_steps
  · rename News _ _ _ _ => N2
    exact hR 0 _ _ _ _ _ (Int.le_refl 0) hlim (back1 hg hN (by assumption) N2) (N2 _ (List.mem_cons_self ..)).1
  · rename News _ _ _ _ => N2
    exact hR _ _ _ _ _ _ (fmod_lo _ hlim) (fmod_hi _ hlim) (back1 hg hN (by assumption) N2) (N2 _ (List.mem_cons_self ..)).1
end
end
section
local macro_rules | `(tactic| walk_at "truthy ref") => `(tactic| (k_here; k_dflt (refine' truthy_base ?k1 ?k2 ?k3 ?_; (case k1 => k_asm); (case k2 => assumption); (case k3 => first | assumption | (simp only [List.length_cons, List.length_nil]; omega)); k_whole)))
local macro_rules | `(tactic| walk_at "truthy ref") => `(tactic| (k_here; k_dflt (refine' truthy_base0 ?k1 ?k2 ?_; (case k1 => k_asm); (case k2 => assumption); k_whole)))
local macro_rules | `(tactic| walk_at "subscriptTail") => `(tactic| (k_here; (with_reducible show wpAny _ _ (subscriptTail _ _ (Value.ref _) (Value.int 0 _)) _ _ _); k_dflt (refine' item_base ?k1 ?k2 ?k3 ?k4 ?k5 ?_ ?k6; (case k1 => k_asm); (case k2 => assumption); (case k3 => decide); (case k4 => decide); (case k5 => exact rfl); (case k6 => with_unfolding_all rfl); k_whole)))
local macro_rules | `(tactic| walk_at "mine:noWhile") => `(tactic| (fail_if_success (with_reducible show wpAny _ _ (exec (Stmt.While _ _ _ _) _) _ _ _)))
local macro_rules | `(tactic| walk_at "mine:steps to while") => `(tactic| repeat' (first | (walk_at "mine:noWhile"; k_unfold; (try dsimp only)) | (walk_at "mine:noWhile"; walk1) | (walk_at "mine:noWhile"; dsimp only; walk1) | fail "no step"))
local macro_rules | `(tactic| walk_at "binaryOp Add str str") => `(tactic| (k_here; (refine PyProof.Rows.add_str ?_ ?hsz); (case' hsz => (simp only [sizeLine_eq]; omega)); intro _ _))
local macro_rules | `(tactic| walk_at "call type:str") => `(tactic| ((with_reducible show wpAny _ _ (call (Value.type "str") [Value.str _ _]) _ _ _); refine PySem.P.str_of_str ?_))
set_option hygiene false in
local macro_rules | `(tactic| walk_at "call type:str") => `(tactic| (k_here; (with_reducible show wpAny _ _ (call (Value.type "str") [Value.ref _]) _ _ _); k_dflt (first | (refine' use_T ?k1 ?k2 (ih ?k3) ?_; (case k1 => k_asm); (case k2 => k_asm); (case k3 => walk_at "mine:stays"); k_whole) | (refine' use_T ?k1 ?k2 (ih2 ?k3) ?_; (case k1 => k_asm); (case k2 => k_asm); (case k3 => walk_at "mine:stays"); k_whole) | (refine' use_T ?k1 ?k2 (ih3 ?k3) ?_; (case k1 => k_asm); (case k2 => k_asm); (case k3 => walk_at "mine:stays"); k_whole)); intro v9 h' tk' hv9 F' N'; (try (obtain ⟨t9, hv9⟩ := hv9; subst hv9)); (try k_sweep)))
local macro_rules | `(tactic| walk_at "call builtin:str.join") => `(tactic| (k_here; k_dflt (first | (refine' join0 ?k1 ?k2 ?_; (case k1 => k_asm); (case k2 => k_mem); k_whole) | (refine' join1 ?k1 ?k2 ?k3 ?_; (case k1 => k_asm); (case k2 => k_mem); (case k3 => assumption); k_whole) | (refine' join2 ?k1 ?k2 ?k3 ?k4 ?_; (case k1 => k_asm); (case k2 => k_mem); (case k3 => assumption); (case k4 => assumption); k_whole) | (refine' join3 ?k1 ?k2 ?k3 ?k4 ?k5 ?_; (case k1 => k_asm); (case k2 => k_mem); (case k3 => assumption); (case k4 => assumption); (case k5 => assumption); k_whole)); intro _ _))
local macro_rules | `(tactic| walk_at "mine:noIter") => `(tactic| (fail_if_success (with_reducible show wpAny _ _ (pyIter (Value.ref _)) (fun it s₂ => LoopAtV _ _ _ _ _ _ _ _ _ it s₂) _ _)))
local macro_rules | `(tactic| walk_at "mine:steps to iter") => `(tactic| repeat' (first | (walk_at "mine:noIter"; k_unfold; (try dsimp only)) | (walk_at "mine:noIter"; walk1) | (walk_at "mine:noIter"; dsimp only; walk1) | fail "no step"))
local macro_rules | `(tactic| walk_at "call builtin:len") => `(tactic| (k_here; (with_reducible show wpAny _ _ (call (Value.builtin "len") [Value.ref _]) _ _ _); k_dflt (refine' len_base ?k1 ?k2 ?k3 ?_; (case k1 => k_asm); (case k2 => with_reducible assumption); (case k3 => first | assumption | (simp only [List.length_cons, List.length_nil]; omega)); k_whole); intro t9 tk9))
local macro_rules | `(tactic| walk_at "subscriptTail") => `(tactic| (k_here; (with_reducible show wpAny _ _ (subscriptTail _ _ (Value.ref _) (Value.int (-1) _)) _ _ _); k_dflt (refine' item_last ?k1 ?k2 ?k3 ?_ ?k6; (case k1 => k_asm); (case k2 => with_reducible assumption); (case k3 => first | with_reducible assumption | exact rfl); (case k6 => with_unfolding_all rfl); k_whole)))
local macro_rules | `(tactic| walk_at "subscriptTail") => `(tactic| (k_here; (with_reducible show wpAny _ _ (subscriptTail _ _ (Value.ref _) (Value.int 0 _)) _ _ _); k_dflt (refine' item_base ?k1 ?k2 ?k3 ?k4 ?k5 ?_ ?k6; (case k1 => k_asm); (case k2 => with_reducible assumption); (case k3 => decide); (case k4 => decide); (case k5 => first | with_reducible assumption | exact rfl); (case k6 => with_unfolding_all rfl); k_whole)))
local macro_rules | `(tactic| walk_at "subscriptTail") => `(tactic| (k_here; (with_reducible show wpAny _ _ (subscriptTail _ _ (Value.ref _) (Value.int _ _)) _ _ _); k_dflt (refine' item_out_base ?k0 ?k1 ?k2 ?k3 ?k4 ?_ ?k6; (case k0 => rfl); (case k1 => k_asm); (case k2 => with_reducible assumption); (case k3 => decide); (case k4 => decide); (case k6 => with_unfolding_all rfl); k_whole); intro h' tk' e' x'))
set_option hygiene false in
local macro_rules | `(tactic| walk_at "leaving ref") => `(tactic| (k_here; (rename Heap.NewExc _ _ _ _ => exX); k_dflt (refine' leave_own (base := frameless s.heap outer) rfl ?k1 exX ?k2 ?_; (case k1 => exact FramesIn.push hFr (by walk_at "mine:stays") (Fr.ns (by assumption)) rfl rfl); (case k2 => exact base_in (as := []) rfl (by assumption) (by walk_at "mine:stays") rfl); k_whole); intro h9 a9 fl9 up9))
set_option hygiene false in
local macro_rules | `(tactic| walk_at "leaving ref") => `(tactic| (k_here; (rename Heap.FlyingW _ _ _ _ _ _ => flX); k_dflt (refine' leave_on (base := frameless s.heap outer) rfl flX ?k2 ?_; (case k2 => exact base_in (as := []) rfl (by assumption) (by walk_at "mine:stays") rfl); k_whole); intro h9 fl9 up9))
set_option hygiene false in
local macro_rules | `(tactic| walk_at "call ref") => `(tactic| (k_here; k_dflt (refine' wpAny_call (ihr ?k1 ?k2 _ ?_); (case k1 => walk_at "mine:stays"); (case k2 => exact FramesIn.push hFr (by walk_at "mine:stays") (Fr.ns (by assumption)) rfl rfl); k_whole); intro e8 h8 tk8 a8 fl8 up8; (try dsimp only)))
set_option hygiene false in
local macro_rules | `(tactic| walk_at "call ref") => `(tactic| (k_here; k_dflt (refine' use_T ?k1 ?k2 (ih2 ?k3) ?_; (case k1 => k_asm); (case k2 => k_asm); (case k3 => walk_at "mine:stays"); k_whole); intro v9 h' tk' hv9 F' N'; (try (obtain ⟨t9, hv9⟩ := hv9)); (try subst hv9); (try k_sweep)))
set_option hygiene false in
local macro_rules | `(tactic| walk_at "noteFrame ref") => `(tactic| (k_here; (rename Heap.FlyingW _ _ _ _ _ _ => flX); k_dflt (refine' caught_fly (T' := "IndexError") rfl flX ?k3 ?k4 ?k5 ?k6 PyProof.Rows.Boot.«IndexError» PySem.F.isExc_IndexError PySem.F.notTuple_IndexError ?k7 ?k8 rfl rfl ?k9 ?_ ?k10; (case k3 => exact H_in (fun b o q => (by walk_at "mine:stays" : Heap.StaysIn _ _) b o (st b o q)) (by walk_at "mine:noframe")); (case k4 => exact Gd.X (by assumption)); (case k5 => exact Gd.T (by assumption)); (case k6 => k_is); (case k7 => (rw [isSubtype_type]; kernel_rfl)); (case k8 => decide); (case k9 => decide); (case k10 => passes_own); k_whole); intro h9 stB up9))
def Tr.firstLine : Tr → Option Int
  | .leaf _ _ line => some line
  | .n0 .. => none
  | .n1 _ _ a | .n2 _ _ a _ | .n3 _ _ a _ _ => a.firstLine
/-- the frame of get_lineno at a turn -/
def LnJ (H₀ g : Heap) (m₀ : Str → Option Value) (t : Tr) (n : Nat) (m : Str → Option Value) (news : List (Addr × Obj)) : Prop :=
  ∃ t' k par, m = (fun y => if y = Str.ofString "node" then some (.ref (Tr.root t')) else m₀ y) ∧ At H₀ g t' k par ∧ t'.height = n ∧ t'.firstLine = t.firstLine
theorem ln_again {m₀ : Str → Option Value} {x y : Str} {u v : Value} : (fun z => if z = y then some u else (if z = y then some v else m₀ z)) = fun z => if z = y then some u else m₀ z := by
  funext z; by_cases h : z = y <;> simp [h]
section
variable {w : World} {H₀ : Heap} {mean : ExcName → Option Value} {mg mb : Str → Option Value}
theorem lineno_at (G : Gd w H₀ mean mg mb) {t : Tr} {k par} {s : Shared} (st : H₀.StaysIn s.heap) {dp un outer} (i : At H₀ s.heap t k par) (hd : dp + 2 < recursionLimit) :
    Gives w (Ar dp un outer) (.call (.ref 78) ⟨[.ref t.root], []⟩) s (fun v _ => (t.firstLine = none ∧ v = .none) ∨ ∃ tk n, t.firstLine = some n ∧ v = .int n tk) := by
  intro R hR
  walk_at "mine:go0"
  walk_at "mine:steps to while"
  rename Fr _ _ _ _ => F1
  rename News _ _ _ _ => N1
  refine While_J (LnJ H₀ s.heap _ t) F1 N1 ⟨t, k, par, rfl, i, rfl, rfl⟩ ?_ (by passes_own)
  clear F1 N1
  rintro n m₁ news₁ h₁ tk₁ F1 N1 ⟨t', k', par', rfl, i', rfl, hl⟩
  rw [← hl] at hR
  clear i
  cases t' with
  | leaf x pre line =>
    obtain ⟨a, i, l⟩ := i'
    obtain ⟨tk, h1⟩ := l.line
    simp only [Tr.root, Tr.firstLine] at *
    k_steps
    all_goals (dsimp only; exact hR _ _ _ (.inr ⟨_, _, rfl, rfl⟩) (Fr.keep (by assumption)))
  | n0 x l =>
    obtain ⟨a, i, l, hL⟩ := i'
    have hc := l.ch
    simp only [Tr.root, Tr.firstLine] at *
    k_steps
    all_goals (dsimp only; exact hR _ _ _ (.inl ⟨trivial, rfl⟩) (Fr.keep (by assumption)))
  | n1 x l b =>
    obtain ⟨a, i, l, hL, ib⟩ := i'
    have hc := l.ch
    simp only [Tr.root, Tr.firstLine] at *
    k_steps
    all_goals (dsimp only [WhileStep2]; exact ⟨_, _, _, _, b.height, rfl, by assumption, by assumption, by simp only [Tr.height]; omega, b, _, _, ln_again (x := Str.ofString ""), ib, rfl, by rw [← hl]⟩)
  | n2 x l b c =>
    obtain ⟨a, i, l, hL, ib, ic⟩ := i'
    have hc := l.ch
    simp only [Tr.root, Tr.firstLine] at *
    k_steps
    all_goals (dsimp only [WhileStep2]; exact ⟨_, _, _, _, b.height, rfl, by assumption, by assumption, by simp only [Tr.height]; omega, b, _, _, ln_again (x := Str.ofString ""), ib, rfl, by rw [← hl]⟩)
  | n3 x l b c d =>
    obtain ⟨a, i, l, hL, ib, ic⟩ := i'
    have hc := l.ch
    simp only [Tr.root, Tr.firstLine] at *
    k_steps
    all_goals (dsimp only [WhileStep2]; exact ⟨_, _, _, _, b.height, rfl, by assumption, by assumption, by simp only [Tr.height]; omega, b, _, _, ln_again (x := Str.ofString ""), ib, rfl, by rw [← hl]⟩)
end
section
variable {w : World} {H₀ : Heap} {mean : ExcName → Option Value} {mg mb : Str → Option Value}
theorem str_leaf (G : Gd w H₀ mean mg mb) {x pre line k par} {s : Shared} (st : H₀.StaysIn s.heap) {dp un outer} (i : At H₀ s.heap (.leaf x pre line) k par) (hp : pre.length ≤ 1) (hd : dp + 5 < recursionLimit) (hu : un + 50 < cLine) :
    Gives w (Ar dp un outer) (.call (.ref 250) ⟨[.ref x], []⟩) s (fun v _ => ∃ tk, v = .str (pre ++ xy k) tk) := by
  intro R hR
  have ih : ∀ {s' : Shared} {un' env' expr}, s.heap.StaysIn s'.heap → GivesT w (Ar (dp + 1) un' (env' :: outer)) (getAttr (.ref x) (Str.ofString "prefix") expr) s' (fun v _ => ∃ tk, v = .str pre tk) := fun {s' un' env' expr} st' =>
    pre_attr G (.leaf x pre line) (fun b o e => st' b o (st b o e)) (i.keeps st') (by simp only [Tr.height]; omega)
  obtain ⟨a, i, l⟩ := i
  obtain ⟨t, ht⟩ := l.value
  have hx := xy_len k
  walk_at "mine:go0"
  k_steps
  all_goals exact hR _ _ _ ⟨_, rfl⟩ (by walk_at "mine:stays")
/-- str of an object by its own __str__ -/
theorem str_via_own {f : Addr} {x C a} {s : Shared} {dp un outer} {p : Str} (G : Gd w H₀ mean mg mb) (st : H₀.StaysIn s.heap) (i : Inst s.heap x C a) (hu : un + 50 < cLine)
    (hs : findIn (Mine.hd.heap_39 w.params) (.ref C) "__str__" = some (some (.ref f))) (hf : isFn (Mine.hd.heap_39 w.params) (.ref f) = true)
    (h : Gives w (Ar dp (un + 2) outer) (.call (.ref f) ⟨[.ref x], []⟩) s (fun v _ => ∃ tk, v = .str p tk)) :
    GivesT w (Ar dp un outer) (call (.type "str") [.ref x]) s (fun v _ => ∃ tk, v = .str p tk) := by
  intro Q E k
  obtain ⟨dx, es, n, h1, h2, h3⟩ := i
  refine kso_call (K := Mine.hd.heap_39 w.params) (C := C) (ox := instObj C dx) (od := some (dictOf es n)) (f := f) ?k1 (G.X.keeps st) ⟨h1, rfl, rfl, h2⟩ hs hf ?_
  case k1 => show un + 1 + 1 < cLine; omega
  refine wpAny_call (h _ ?_)
  rintro v h' tk' ⟨t, rfl⟩ st'
  exact k _ _ _ ⟨_, rfl⟩ st'
theorem str_n0 (G : Gd w H₀ mean mg mb) {s : Shared} (st : H₀.StaysIn s.heap) {dp un outer} {x l a} (i : Inst s.heap x 225 a) (hc : a (Str.ofString "children") = some (.ref l)) (hL : LAt H₀ s.heap l []) (hd : dp + 1 < recursionLimit) (hu : un + 50 < cLine) :
    Gives w (Ar dp un outer) (.call (.ref 156) ⟨[.ref x], []⟩) s (fun v _ => ∃ tk, v = .str Str.empty tk) := by
  intro R hR
  obtain ⟨n, e1, e2⟩ := hL
  walk_at "mine:go1"
  k_steps
  all_goals exact hR _ _ _ ⟨_, rfl⟩ (by walk_at "mine:stays")
theorem str_n1 (G : Gd w H₀ mean mg mb) {s : Shared} (st : H₀.StaysIn s.heap) {dp un outer} {x l a y p} (i : Inst s.heap x 225 a) (hc : a (Str.ofString "children") = some (.ref l)) (hL : LAt H₀ s.heap l [.ref y]) (hd : dp + 1 < recursionLimit) (hu : un + 50 < cLine)
    (hp : p.length ≤ 1000)
    (ih : ∀ {s' : Shared} {env'}, s.heap.StaysIn s'.heap → GivesT w (Ar (dp + 1) (un + 3) (env' :: outer)) (call (.type "str") [.ref y]) s' (fun v _ => ∃ tk, v = .str p tk)) :
    Gives w (Ar dp un outer) (.call (.ref 156) ⟨[.ref x], []⟩) s (fun v _ => ∃ tk, v = .str p tk) := by
  intro R hR
  obtain ⟨n, e1, e2⟩ := hL
  walk_at "mine:go1"
  k_steps
  all_goals exact hR _ _ _ ⟨_, rfl⟩ (by walk_at "mine:stays")
theorem str_n2 (G : Gd w H₀ mean mg mb) {s : Shared} (st : H₀.StaysIn s.heap) {dp un outer} {x l a y z p q} (i : Inst s.heap x 225 a) (hc : a (Str.ofString "children") = some (.ref l)) (hL : LAt H₀ s.heap l [.ref y, .ref z]) (hd : dp + 1 < recursionLimit) (hu : un + 50 < cLine)
    (hp : p.length ≤ 1000) (hq : q.length ≤ 1000)
    (ih : ∀ {s' : Shared} {env'}, s.heap.StaysIn s'.heap → GivesT w (Ar (dp + 1) (un + 3) (env' :: outer)) (call (.type "str") [.ref y]) s' (fun v _ => ∃ tk, v = .str p tk))
    (ih2 : ∀ {s' : Shared} {env'}, s.heap.StaysIn s'.heap → GivesT w (Ar (dp + 1) (un + 3) (env' :: outer)) (call (.type "str") [.ref z]) s' (fun v _ => ∃ tk, v = .str q tk)) :
    Gives w (Ar dp un outer) (.call (.ref 156) ⟨[.ref x], []⟩) s (fun v _ => ∃ tk, v = .str (p ++ q) tk) := by
  intro R hR
  obtain ⟨n, e1, e2⟩ := hL
  walk_at "mine:go1"
  k_steps
  all_goals exact hR _ _ _ ⟨_, rfl⟩ (by walk_at "mine:stays")
theorem str_n3 (G : Gd w H₀ mean mg mb) {s : Shared} (st : H₀.StaysIn s.heap) {dp un outer} {x l a y z u p q r} (i : Inst s.heap x 225 a) (hc : a (Str.ofString "children") = some (.ref l)) (hL : LAt H₀ s.heap l [.ref y, .ref z, .ref u]) (hd : dp + 1 < recursionLimit) (hu : un + 50 < cLine)
    (hp : p.length ≤ 1000) (hq : q.length ≤ 1000) (hr : r.length ≤ 1000)
    (ih : ∀ {s' : Shared} {env'}, s.heap.StaysIn s'.heap → GivesT w (Ar (dp + 1) (un + 3) (env' :: outer)) (call (.type "str") [.ref y]) s' (fun v _ => ∃ tk, v = .str p tk))
    (ih2 : ∀ {s' : Shared} {env'}, s.heap.StaysIn s'.heap → GivesT w (Ar (dp + 1) (un + 3) (env' :: outer)) (call (.type "str") [.ref z]) s' (fun v _ => ∃ tk, v = .str q tk))
    (ih3 : ∀ {s' : Shared} {env'}, s.heap.StaysIn s'.heap → GivesT w (Ar (dp + 1) (un + 3) (env' :: outer)) (call (.type "str") [.ref u]) s' (fun v _ => ∃ tk, v = .str r tk)) :
    Gives w (Ar dp un outer) (.call (.ref 156) ⟨[.ref x], []⟩) s (fun v _ => ∃ tk, v = .str (p ++ (q ++ r)) tk) := by
  intro R hR
  obtain ⟨n, e1, e2⟩ := hL
  walk_at "mine:go1"
  k_steps
  all_goals exact hR _ _ _ ⟨_, rfl⟩ (by walk_at "mine:stays")
theorem str_T (G : Gd w H₀ mean mg mb) : ∀ (t : Tr) {k : Nat} {par : Option Addr} {s : Shared} {dp un : Nat} {outer : List Env} (st : H₀.StaysIn s.heap) (i : At H₀ s.heap t k par) (hs : t.Short) (hz : t.size ≤ 100) (hd : dp + t.height + 5 < recursionLimit) (hu : un + 5 * t.height + 60 < cLine),
    GivesT w (Ar dp un outer) (call (.type "str") [.ref t.root]) s (fun v _ => ∃ tk, v = .str (t.text k) tk) := by
  have facts : findIn (Mine.hd.heap_39 w.params) (.ref 225) "__str__" = some (some (.ref 156)) ∧ isFn (Mine.hd.heap_39 w.params) (.ref 156) = true ∧ findIn (Mine.hd.heap_39 w.params) (.ref 305) "__str__" = some (some (.ref 250)) ∧ isFn (Mine.hd.heap_39 w.params) (.ref 250) = true := by
    have X := G.X
    refine ⟨?_, ?_, ?_, ?_⟩ <;> k_is
  obtain ⟨f1, f2, f3, f4⟩ := facts
  intro t
  induction t with
  | leaf x pre line =>
    intro k par s dp un outer st i hs hz hd hu
    obtain ⟨a, j, l⟩ := id i
    exact str_via_own G st j (by omega) f3 f4 (str_leaf G st i hs (by omega) (by simp only [Tr.height] at hu; omega))
  | n0 x l =>
    intro k par s dp un outer st i hs hz hd hu
    obtain ⟨a, j, l, hL⟩ := i
    exact str_via_own G st j (by omega) f1 f2 (str_n0 G st j l.ch hL (by omega) (by simp only [Tr.height] at hu; omega))
  | n1 x l a iha =>
    intro k par s dp un outer st i hs hz hd hu
    obtain ⟨aa, j, na, hL, ta⟩ := i
    have la := a.text_len (k + 1) hs
    simp only [Tr.height, Tr.size] at hd hu hz
    exact str_via_own G st j (by omega) f1 f2 (str_n1 (p := a.text (k + 1)) G st j na.ch hL (by omega) (by omega) (by omega)
      fun {s' env'} st' => iha (dp := dp + 1) (un := un + 2 + 3) (fun b o e => st' b o (st b o e)) (ta.keeps st') hs (by omega) (by omega) (by omega))
  | n2 x l a b iha ihb =>
    intro k par s dp un outer st i hs hz hd hu
    obtain ⟨aa, j, na, hL, ta, tb⟩ := i
    have la := a.text_len (k + 1) hs.1
    have lb := b.text_len (k + 1 + a.size) hs.2
    simp only [Tr.height, Tr.size] at hd hu hz
    exact str_via_own G st j (by omega) f1 f2 (str_n2 G st j na.ch hL (by omega) (by omega) (by omega) (by omega)
      (fun {s' env'} st' => iha (dp := dp + 1) (un := un + 2 + 3) (fun b o e => st' b o (st b o e)) (ta.keeps st') hs.1 (by omega) (by omega) (by omega))
      fun {s' env'} st' => ihb (dp := dp + 1) (un := un + 2 + 3) (fun b o e => st' b o (st b o e)) (tb.keeps st') hs.2 (by omega) (by omega) (by omega))
  | n3 x l a b c iha ihb ihc =>
    intro k par s dp un outer st i hs hz hd hu
    obtain ⟨aa, j, na, hL, ta, tb, tc⟩ := i
    have la := a.text_len (k + 1) hs.1
    have lb := b.text_len (k + 1 + a.size) hs.2.1
    have lc := c.text_len (k + 1 + a.size + b.size) hs.2.2
    simp only [Tr.height, Tr.size] at hd hu hz
    exact str_via_own G st j (by omega) f1 f2 (str_n3 G st j na.ch hL (by omega) (by omega) (by omega) (by omega) (by omega)
      (fun {s' env'} st' => iha (dp := dp + 1) (un := un + 2 + 3) (fun b o e => st' b o (st b o e)) (ta.keeps st') hs.1 (by omega) (by omega) (by omega))
      (fun {s' env'} st' => ihb (dp := dp + 1) (un := un + 2 + 3) (fun b o e => st' b o (st b o e)) (tb.keeps st') hs.2.1 (by omega) (by omega) (by omega))
      fun {s' env'} st' => ihc (dp := dp + 1) (un := un + 2 + 3) (fun b o e => st' b o (st b o e)) (tc.keeps st') hs.2.2 (by omega) (by omega) (by omega))
end
/-- the child that the way down takes: the first, or the last -/
def Tr.pick (e : Bool) : Tr → Option Tr
  | .leaf .. | .n0 .. => none
  | .n1 _ _ a => some a
  | .n2 _ _ a b => some (if e then b else a)
  | .n3 _ _ a _ c => some (if e then c else a)
def Tr.down (e : Bool) (t : Tr) : Tr := (t.pick e).getD t
def endInt (e : Bool) : Int := if e then -1 else 0
/-- where four turns end -/
def Tr.endOf (e : Bool) (t : Tr) (k : Nat) : Option Nat := match t with
  | .leaf .. => some k
  | .n0 .. => none
  | .n1 _ _ a => a.endOf e (k + 1)
  | .n2 _ _ a b => if e then b.endOf e (k + 1 + a.size) else a.endOf e (k + 1)
  | .n3 _ _ a b c => if e then c.endOf e (k + 1 + a.size + b.size) else a.endOf e (k + 1)
/-- what the frame of _law_end is between the turns -/
def EndR (H₀ g : Heap) (m₀ : Str → Option Value) (news : List (Addr × Obj)) (e : Bool) (o : Option Nat) (t : Tr) (m : Str → Option Value) (nx : List (Addr × Obj)) : Prop :=
  nx = news ∧ (∃ u : Str → Option Value, m = fun z => if z = Str.ofString "turn" then u z else if z = Str.ofString "one" then some (.ref t.root) else m₀ z) ∧ ∃ k par, At H₀ g t k par ∧ t.endOf e k = o
theorem Tr.pick_height {e : Bool} : ∀ {t c : Tr}, t.pick e = some c → c.height < t.height
  | .leaf .., _, h | .n0 .., _, h => by cases h
  | .n1 _ _ a, c, h => by cases h; simp only [Tr.height]; omega
  | .n2 _ _ a b, c, h => by cases e <;> cases h <;> (simp only [Tr.height, Bool.false_eq_true, if_false, if_true]; omega)
  | .n3 _ _ a b d, c, h => by cases e <;> cases h <;> (simp only [Tr.height, Bool.false_eq_true, if_false, if_true]; omega)
theorem Tr.down_height {e : Bool} {t : Tr} {n : Nat} (h : t.height ≤ n + 1) : (t.down e).height ≤ n := by
  unfold Tr.down
  cases q : t.pick e with
  | none =>
    cases t with
    | leaf => exact Nat.zero_le _
    | n0 => exact Nat.zero_le _
    | n1 => cases q
    | n2 => cases q
    | n3 => cases q
  | some c => have := Tr.pick_height q; show c.height ≤ n; omega
theorem Tr.pick_zero {e : Bool} {t : Tr} (h : t.height ≤ 0) : t.pick e = none := by
  cases t with
  | leaf => rfl
  | n0 => rfl
  | n1 => simp only [Tr.height] at h; omega
  | n2 => simp only [Tr.height] at h; omega
  | n3 => simp only [Tr.height] at h; omega
theorem Tr.endOf_stop {e : Bool} {t : Tr} {k : Nat} (h : t.pick e = none) : (∃ x pre line, t = .leaf x pre line ∧ t.endOf e k = some k) ∨ (∃ x l, t = .n0 x l ∧ t.endOf e k = none) := by
  cases t with
  | leaf x pre line => exact .inl ⟨x, pre, line, rfl, rfl⟩
  | n0 x l => exact .inr ⟨x, l, rfl, rfl⟩
  | n1 => cases h
  | n2 => cases h
  | n3 => cases h
theorem At.pick {H₀ h : Heap} {e : Bool} : ∀ {t c : Tr} {k par}, At H₀ h t k par → t.pick e = some c → ∃ l a vs, Inst h t.root 225 a ∧ a (Str.ofString "children") = some (.ref l) ∧ LAt H₀ h l vs ∧ 1 ≤ vs.length ∧ vs.length ≤ 1000 ∧ (if e then vs.getLast? else vs[Int.toNat 0]?) = some (.ref c.root) ∧ ∃ k', At H₀ h c k' (some t.root) ∧ t.endOf e k = c.endOf e k'
  | .leaf .., _, _, _, _, h => by cases h
  | .n0 .., _, _, _, _, h => by cases h
  | .n1 x l a, c, k, par, ⟨aa, i, na, hL, ta⟩, h => by
    cases h
    exact ⟨l, aa, _, i, na.ch, hL, by simp, by simp, by cases e <;> rfl, _, ta, rfl⟩
  | .n2 x l a b, c, k, par, ⟨aa, i, na, hL, ta, tb⟩, h => by
    cases h
    cases e with
    | false => exact ⟨l, aa, _, i, na.ch, hL, by simp, by simp, rfl, _, ta, rfl⟩
    | true => exact ⟨l, aa, _, i, na.ch, hL, by simp, by simp, rfl, _, tb, rfl⟩
  | .n3 x l a b d, c, k, par, ⟨aa, i, na, hL, ta, tb, td⟩, h => by
    cases h
    cases e with
    | false => exact ⟨l, aa, _, i, na.ch, hL, by simp, by simp, rfl, _, ta, rfl⟩
    | true => exact ⟨l, aa, _, i, na.ch, hL, by simp, by simp, rfl, _, td, rfl⟩
theorem At.stop {H₀ h : Heap} {e : Bool} : ∀ {t : Tr} {k par}, At H₀ h t k par → t.pick e = none → (∃ x pre line, t = .leaf x pre line) ∨ ∃ l a, Inst h t.root 225 a ∧ a (Str.ofString "children") = some (.ref l) ∧ LAt H₀ h l []
  | .leaf x pre line, _, _, _, _ => .inl ⟨x, pre, line, rfl⟩
  | .n0 x l, _, _, ⟨aa, i, na, hL⟩, _ => .inr ⟨l, aa, i, na.ch, hL⟩
  | .n1 .., _, _, _, h | .n2 .., _, _, _, h | .n3 .., _, _, _, h => by cases h
abbrev mOf {g : Heap} {L : Addr} {h : Heap} {m : Str → Option Value} (_ : Fr g L h m) : Str → Option Value := m
abbrev newsOf {g : Heap} {L : Addr} {h : Heap} {news : List (Addr × Obj)} (_ : News g L h news) : List (Addr × Obj) := news
theorem endR_start {H₀ g : Heap} {m₀ : Str → Option Value} {news : List (Addr × Obj)} {e : Bool} {t : Tr} {k par} (i : At H₀ g t k par) (h1 : m₀ (Str.ofString "one") = some (.ref t.root)) : EndR H₀ g m₀ news e (t.endOf e k) t m₀ news := by
  refine ⟨rfl, ⟨m₀, funext fun z => ?_⟩, k, par, i, rfl⟩
  by_cases h : z = Str.ofString "turn"
  · rw [if_pos h]
  · rw [if_neg h]
    by_cases h' : z = Str.ofString "one"
    · rw [if_pos h', h', h1]
    · rw [if_neg h']
theorem endR_same {H₀ g : Heap} {m₀ u : Str → Option Value} {news : List (Addr × Obj)} {e : Bool} {o : Option Nat} {t : Tr} {v : Value} {k par} (i : At H₀ g t k par) (ho : t.endOf e k = o) :
    EndR H₀ g m₀ news e o t (fun y => if y = Str.ofString "turn" then some v else (fun z => if z = Str.ofString "turn" then u z else if z = Str.ofString "one" then some (.ref t.root) else m₀ z) y) news := by
  refine ⟨rfl, ⟨fun _ => some v, funext fun z => ?_⟩, k, par, i, ho⟩
  by_cases h : z = Str.ofString "turn"
  · simp only [h, if_true]
  · simp only [h, if_false]
theorem endR_next {H₀ g : Heap} {m₀ u : Str → Option Value} {news : List (Addr × Obj)} {e : Bool} {o : Option Nat} {t t' : Tr} {v : Value} {k par} (i : At H₀ g t' k par) (ho : t'.endOf e k = o) :
    EndR H₀ g m₀ news e o t' (fun x => if x = Str.ofString "one" then some (.ref t'.root) else (fun y => if y = Str.ofString "turn" then some v else (fun z => if z = Str.ofString "turn" then u z else if z = Str.ofString "one" then some (.ref t.root) else m₀ z) y) x) news := by
  refine ⟨rfl, ⟨fun _ => some v, funext fun z => ?_⟩, k, par, i, ho⟩
  by_cases h : z = Str.ofString "turn"
  · have : ¬ z = Str.ofString "one" := by rw [h]; decide
    simp only [h, if_true, if_false, this]
    rw [if_neg (by decide)]
  · by_cases h' : z = Str.ofString "one"
    · simp only [h', if_true]
      rw [if_neg (by decide)]
    · simp only [h, h', if_false]
section
variable {w : World} {H₀ : Heap} {mean : ExcName → Option Value} {mg mb : Str → Option Value}
theorem law_end_0 (G : Gd w H₀ mean mg mb) {t : Tr} {k par} {s : Shared} (st : H₀.StaysIn s.heap) {dp un outer} {tk : Tok} (i : At H₀ s.heap t k par) (hh : t.height ≤ 4) (hd : dp + 4 < recursionLimit) :
    Gives w (Ar dp un outer) (.call (.ref 347) ⟨[.ref t.root, .int 0 tk], []⟩) s (fun v _ => (t.endOf false k = none ∧ v = .none) ∨ ∃ tk n, t.endOf false k = some n ∧ v = .int n tk) := by
  intro R hR
  walk_at "mine:go0"
  walk_at "mine:steps to iter"
  rename IsRange _ _ _ _ _ _ _ _ => rg
  rename Fr _ _ _ _ => F1
  rename News _ _ _ _ => N1
  with_unfolding_all refine iter_rangeS (n := 4) (EndR H₀ s.heap (mOf F1) (newsOf N1) false (t.endOf false k)) (fun t _ => t.down false) t (by rfl) rg (by decide) (by decide) F1 N1 (endR_start i (by rfl)) ?turn ?done
  case turn =>
    rintro k₀ tk₀ t' m₁ nx h₁ tk₁ own hk ho ⟨rfl, ⟨u, rfl⟩, k', par', i', he⟩ F' N'
    clear rg
    cases hp : t'.pick false with
    | none =>
      have hdn : t'.down false = t' := by unfold Tr.down; rw [hp]; rfl
      rw [hdn]
      rcases i'.stop hp with ⟨x, pre, line, rfl⟩ | ⟨l, a, j, hc, hL⟩
      · obtain ⟨a, j, l⟩ := id i'
        simp only [Tr.root] at F'
        k_steps
        all_goals exact ⟨_, _, _, _, newsOf N1, rfl, by assumption, by assumption, fun _ h => (nomatch h), fun p hp => hp, rfl, endR_same i' he⟩
      · k_steps
        all_goals exact ⟨_, _, _, _, newsOf N1, rfl, by assumption, by assumption, fun _ h => (nomatch h), fun p hp => hp, rfl, endR_same i' he⟩
    | some c =>
      have hdn : t'.down false = c := by unfold Tr.down; rw [hp]; rfl
      rw [hdn]
      obtain ⟨l, a, vs, j, hc, hL, hl1, hl2, hx, kc, ic, hk9⟩ := i'.pick hp
      simp only [if_false, Bool.false_eq_true] at hx
      k_steps
      all_goals exact ⟨_, _, _, _, newsOf N1, rfl, by assumption, by assumption, fun _ h => (nomatch h), fun p hp => hp, rfl, endR_next ic (hk9.symm.trans he)⟩
  case done =>
    rintro m₁ nx h₁ tk₁ ⟨rfl, ⟨u, rfl⟩, k', par', i', he⟩ F' N'
    have h4 : ((rangeKs 0 4).foldl (fun t _ => t.down false) t).pick false = none :=
      Tr.pick_zero (Tr.down_height (Tr.down_height (Tr.down_height (Tr.down_height (n := 3) hh))))
    generalize ((rangeKs 0 4).foldl (fun t _ => t.down false) t) = t' at h4 F' i' he
    rw [← he] at hR
    have ih : ∀ {s' : Shared} {un' env'}, s.heap.StaysIn s'.heap → GivesT w (Ar (dp + 1) un' (env' :: outer)) (call (.ref 340) [.ref t'.root]) s' (fun v _ => ∃ t, v = .int k' t) := fun {s' un' env'} st' =>
      (number_at G (fun b o e => st' b o (st b o e)) (i'.keeps st') (by omega)).call
    clear rg i
    rcases Tr.endOf_stop (k := k') h4 with ⟨x, pre, line, rfl, h9⟩ | ⟨x, l, rfl, h9⟩
    · rw [h9] at hR
      obtain ⟨a, j, l⟩ := i'
      simp only [Tr.root] at F' ih
      k_steps
      all_goals exact hR _ _ _ (.inr ⟨_, _, rfl, rfl⟩) (by walk_at "mine:stays")
    · rw [h9] at hR
      obtain ⟨a, j, l, _⟩ := i'
      simp only [Tr.root] at F' ih
      k_steps
      all_goals exact hR _ _ _ (.inl ⟨rfl, rfl⟩) (by walk_at "mine:stays")
theorem law_end_1 (G : Gd w H₀ mean mg mb) {t : Tr} {k par} {s : Shared} (st : H₀.StaysIn s.heap) {dp un outer} {tk : Tok} (i : At H₀ s.heap t k par) (hh : t.height ≤ 4) (hd : dp + 4 < recursionLimit) :
    Gives w (Ar dp un outer) (.call (.ref 347) ⟨[.ref t.root, .int (-1) tk], []⟩) s (fun v _ => (t.endOf true k = none ∧ v = .none) ∨ ∃ tk n, t.endOf true k = some n ∧ v = .int n tk) := by
  intro R hR
  walk_at "mine:go0"
  walk_at "mine:steps to iter"
  rename IsRange _ _ _ _ _ _ _ _ => rg
  rename Fr _ _ _ _ => F1
  rename News _ _ _ _ => N1
  with_unfolding_all refine iter_rangeS (n := 4) (EndR H₀ s.heap (mOf F1) (newsOf N1) true (t.endOf true k)) (fun t _ => t.down true) t (by rfl) rg (by decide) (by decide) F1 N1 (endR_start i (by rfl)) ?turn ?done
  case turn =>
    rintro k₀ tk₀ t' m₁ nx h₁ tk₁ own hk ho ⟨rfl, ⟨u, rfl⟩, k', par', i', he⟩ F' N'
    clear rg
    cases hp : t'.pick true with
    | none =>
      have hdn : t'.down true = t' := by unfold Tr.down; rw [hp]; rfl
      rw [hdn]
      rcases i'.stop hp with ⟨x, pre, line, rfl⟩ | ⟨l, a, j, hc, hL⟩
      · obtain ⟨a, j, l⟩ := id i'
        simp only [Tr.root] at F'
        k_steps
        all_goals exact ⟨_, _, _, _, newsOf N1, rfl, by assumption, by assumption, fun _ h => (nomatch h), fun p hp => hp, rfl, endR_same i' he⟩
      · k_steps
        all_goals exact ⟨_, _, _, _, newsOf N1, rfl, by assumption, by assumption, fun _ h => (nomatch h), fun p hp => hp, rfl, endR_same i' he⟩
    | some c =>
      have hdn : t'.down true = c := by unfold Tr.down; rw [hp]; rfl
      rw [hdn]
      obtain ⟨l, a, vs, j, hc, hL, hl1, hl2, hx, kc, ic, hk9⟩ := i'.pick hp
      simp only [if_true] at hx
      k_steps
      all_goals exact ⟨_, _, _, _, newsOf N1, rfl, by assumption, by assumption, fun _ h => (nomatch h), fun p hp => hp, rfl, endR_next ic (hk9.symm.trans he)⟩
  case done =>
    rintro m₁ nx h₁ tk₁ ⟨rfl, ⟨u, rfl⟩, k', par', i', he⟩ F' N'
    have h4 : ((rangeKs 0 4).foldl (fun t _ => t.down true) t).pick true = none :=
      Tr.pick_zero (Tr.down_height (Tr.down_height (Tr.down_height (Tr.down_height (n := 3) hh))))
    generalize ((rangeKs 0 4).foldl (fun t _ => t.down true) t) = t' at h4 F' i' he
    rw [← he] at hR
    have ih : ∀ {s' : Shared} {un' env'}, s.heap.StaysIn s'.heap → GivesT w (Ar (dp + 1) un' (env' :: outer)) (call (.ref 340) [.ref t'.root]) s' (fun v _ => ∃ t, v = .int k' t) := fun {s' un' env'} st' =>
      (number_at G (fun b o e => st' b o (st b o e)) (i'.keeps st') (by omega)).call
    clear rg i
    rcases Tr.endOf_stop (k := k') h4 with ⟨x, pre, line, rfl, h9⟩ | ⟨x, l, rfl, h9⟩
    · rw [h9] at hR
      obtain ⟨a, j, l⟩ := i'
      simp only [Tr.root] at F' ih
      k_steps
      all_goals exact hR _ _ _ (.inr ⟨_, _, rfl, rfl⟩) (by walk_at "mine:stays")
    · rw [h9] at hR
      obtain ⟨a, j, l, _⟩ := i'
      simp only [Tr.root] at F' ih
      k_steps
      all_goals exact hR _ _ _ (.inl ⟨rfl, rfl⟩) (by walk_at "mine:stays")
end
section
variable {w : World} {H₀ : Heap} {mean : ExcName → Option Value} {mg mb : Str → Option Value}
theorem first_leaf (G : Gd w H₀ mean mg mb) {x a} {s : Shared} (st : H₀.StaysIn s.heap) {dp un outer} (i : Inst s.heap x 305 a) (hd : dp + 2 < recursionLimit) :
    Gives w (Ar dp un outer) (.call (.ref 314) ⟨[.ref x], []⟩) s (fun v _ => v = .ref x) := by
  intro R hR
  walk_at "mine:go0"
  k_steps
  all_goals exact hR _ _ _ rfl (by walk_at "mine:stays")
theorem first_step (G : Gd w H₀ mean mg mb) {x l a rest y z} {s : Shared} (st : H₀.StaysIn s.heap) {dp un outer} (i : Inst s.heap x 225 a) (hc : a (Str.ofString "children") = some (.ref l)) (hL : LAt H₀ s.heap l rest) (hx : rest[Int.toNat 0]? = some (.ref y)) (hd : dp + 2 < recursionLimit)
    (ih : ∀ {s' : Shared} {un' env'}, s.heap.StaysIn s'.heap → GivesT w (Ar (dp + 1) un' (env' :: outer)) (call (.ref 314) [.ref y]) s' (fun v _ => v = .ref z)) :
    Gives w (Ar dp un outer) (.call (.ref 314) ⟨[.ref x], []⟩) s (fun v _ => v = .ref z) := by
  intro R hR
  walk_at "mine:go0"
  k_steps
  all_goals exact hR _ _ _ rfl (by walk_at "mine:stays")
theorem first_raise0 (G : Gd w H₀ mean mg mb) {x l a} {s : Shared} (st : H₀.StaysIn s.heap) {dp un outer} (i : Inst s.heap x 225 a) (hc : a (Str.ofString "children") = some (.ref l)) (hL : LAt H₀ s.heap l []) (hd : dp + 2 < recursionLimit) (hFr : FramesIn s.heap outer) :
    RaisesU w (Ar dp un outer) (.call (.ref 314) ⟨[.ref x], []⟩) s outer "IndexError" := by
  intro R hR
  walk_at "mine:go0"
  k_steps
  all_goals exact hR _ _ _ _ ‹_› ((Heap.UpToSlots.of_keeps (by walk_at "mine:stays")).trans ‹_›)
theorem first_raise1 (G : Gd w H₀ mean mg mb) {x l a rest y} {s : Shared} (st : H₀.StaysIn s.heap) {dp un outer} (i : Inst s.heap x 225 a) (hc : a (Str.ofString "children") = some (.ref l)) (hL : LAt H₀ s.heap l rest) (hx : rest[Int.toNat 0]? = some (.ref y)) (hd : dp + 2 < recursionLimit) (hFr : FramesIn s.heap outer)
    (ihr : ∀ {s' : Shared} {un' env'}, s.heap.StaysIn s'.heap → FramesIn s'.heap (env' :: outer) → RaisesU w (Ar (dp + 1) un' (env' :: outer)) (.call (.ref 314) ⟨[.ref y], []⟩) s' (env' :: outer) "IndexError") :
    RaisesU w (Ar dp un outer) (.call (.ref 314) ⟨[.ref x], []⟩) s outer "IndexError" := by
  intro R hR
  walk_at "mine:go0"
  k_steps
  all_goals exact hR _ _ _ _ ‹_› (((Heap.UpToSlots.of_keeps (by walk_at "mine:stays")).trans up8).trans up9)
theorem last_leaf (G : Gd w H₀ mean mg mb) {x a} {s : Shared} (st : H₀.StaysIn s.heap) {dp un outer} (i : Inst s.heap x 305 a) (hd : dp + 2 < recursionLimit) :
    Gives w (Ar dp un outer) (.call (.ref 321) ⟨[.ref x], []⟩) s (fun v _ => v = .ref x) := by
  intro R hR
  walk_at "mine:go0"
  k_steps
  all_goals exact hR _ _ _ rfl (by walk_at "mine:stays")
theorem last_step (G : Gd w H₀ mean mg mb) {x l a rest y z} {s : Shared} (st : H₀.StaysIn s.heap) {dp un outer} (i : Inst s.heap x 225 a) (hc : a (Str.ofString "children") = some (.ref l)) (hL : LAt H₀ s.heap l rest) (hx : rest.getLast? = some (.ref y)) (hd : dp + 2 < recursionLimit)
    (ih : ∀ {s' : Shared} {un' env'}, s.heap.StaysIn s'.heap → GivesT w (Ar (dp + 1) un' (env' :: outer)) (call (.ref 321) [.ref y]) s' (fun v _ => v = .ref z)) :
    Gives w (Ar dp un outer) (.call (.ref 321) ⟨[.ref x], []⟩) s (fun v _ => v = .ref z) := by
  intro R hR
  walk_at "mine:go0"
  k_steps
  all_goals exact hR _ _ _ rfl (by walk_at "mine:stays")
theorem last_raise0 (G : Gd w H₀ mean mg mb) {x l a} {s : Shared} (st : H₀.StaysIn s.heap) {dp un outer} (i : Inst s.heap x 225 a) (hc : a (Str.ofString "children") = some (.ref l)) (hL : LAt H₀ s.heap l []) (hd : dp + 2 < recursionLimit) (hFr : FramesIn s.heap outer) :
    RaisesU w (Ar dp un outer) (.call (.ref 321) ⟨[.ref x], []⟩) s outer "IndexError" := by
  intro R hR
  walk_at "mine:go0"
  k_steps
  all_goals exact hR _ _ _ _ ‹_› ((Heap.UpToSlots.of_keeps (by walk_at "mine:stays")).trans ‹_›)
theorem last_raise1 (G : Gd w H₀ mean mg mb) {x l a rest y} {s : Shared} (st : H₀.StaysIn s.heap) {dp un outer} (i : Inst s.heap x 225 a) (hc : a (Str.ofString "children") = some (.ref l)) (hL : LAt H₀ s.heap l rest) (hx : rest.getLast? = some (.ref y)) (hd : dp + 2 < recursionLimit) (hFr : FramesIn s.heap outer)
    (ihr : ∀ {s' : Shared} {un' env'}, s.heap.StaysIn s'.heap → FramesIn s'.heap (env' :: outer) → RaisesU w (Ar (dp + 1) un' (env' :: outer)) (.call (.ref 321) ⟨[.ref y], []⟩) s' (env' :: outer) "IndexError") :
    RaisesU w (Ar dp un outer) (.call (.ref 321) ⟨[.ref x], []⟩) s outer "IndexError" := by
  intro R hR
  walk_at "mine:go0"
  k_steps
  all_goals exact hR _ _ _ _ ‹_› (((Heap.UpToSlots.of_keeps (by walk_at "mine:stays")).trans up8).trans up9)
end
def Tr.endX (e : Bool) : Tr → Option Addr
  | .leaf x _ _ => some x
  | .n0 .. => none
  | .n1 _ _ a => a.endX e
  | .n2 _ _ a b => if e then b.endX e else a.endX e
  | .n3 _ _ a _ c => if e then c.endX e else a.endX e
theorem Tr.endX_stop {e : Bool} {t : Tr} (h : t.pick e = none) : (∃ x pre line, t = .leaf x pre line ∧ t.endX e = some x) ∨ (∃ x l, t = .n0 x l ∧ t.endX e = none) := by
  cases t with
  | leaf x pre line => exact .inl ⟨x, pre, line, rfl, rfl⟩
  | n0 x l => exact .inr ⟨x, l, rfl, rfl⟩
  | n1 => cases h
  | n2 => cases h
  | n3 => cases h
theorem Tr.endX_pick {e : Bool} {t c : Tr} (h : t.pick e = some c) : t.endX e = c.endX e := by
  cases t with
  | leaf => cases h
  | n0 => cases h
  | n1 => cases h; rfl
  | n2 => cases h; cases e <;> rfl
  | n3 => cases h; cases e <;> rfl
theorem Tr.endX_endOf {e : Bool} : ∀ {t : Tr} (k : Nat), (t.endX e).isSome = (t.endOf e k).isSome
  | .leaf .., _ | .n0 .., _ => rfl
  | .n1 _ _ a, k => Tr.endX_endOf (t := a) _
  | .n2 _ _ a b, k => by
    cases e with
    | false => exact Tr.endX_endOf (t := a) _
    | true => exact Tr.endX_endOf (t := b) _
  | .n3 _ _ a b c, k => by
    cases e with
    | false => exact Tr.endX_endOf (t := a) _
    | true => exact Tr.endX_endOf (t := c) _
theorem At.endAt {H₀ h : Heap} {e : Bool} {z : Addr} {j : Nat} : ∀ {t : Tr} {k par}, At H₀ h t k par → t.endX e = some z → t.endOf e k = some j → ∃ a pre line par', Inst h z 305 a ∧ LeafA a pre line j par'
  | .leaf x pre line, k, par, ⟨a, i⟩, h1, h2 => by cases h1; cases h2; exact ⟨a, pre, line, par, i⟩
  | .n0 .., _, _, _, h1, _ => by cases h1
  | .n1 _ _ a, k, par, ⟨_, _, _, _, ta⟩, h1, h2 => At.endAt (t := a) ta h1 h2
  | .n2 _ _ a b, k, par, ⟨_, _, _, _, ta, tb⟩, h1, h2 => by
    cases e with
    | false => exact At.endAt (t := a) ta h1 h2
    | true => exact At.endAt (t := b) tb h1 h2
  | .n3 _ _ a b c, k, par, ⟨_, _, _, _, ta, tb, tc⟩, h1, h2 => by
    cases e with
    | false => exact At.endAt (t := a) ta h1 h2
    | true => exact At.endAt (t := c) tc h1 h2
section
variable {w : World} {H₀ : Heap} {mean : ExcName → Option Value} {mg mb : Str → Option Value}
theorem first_found (G : Gd w H₀ mean mg mb) : ∀ (n : Nat) {t : Tr} {k par} {s : Shared} {dp un : Nat} {outer : List Env} {z : Addr} (hn : t.height ≤ n) (st : H₀.StaysIn s.heap) (i : At H₀ s.heap t k par) (hz : t.endX false = some z) (hd : dp + n + 2 < recursionLimit),
    Gives w (Ar dp un outer) (.call (.ref 314) ⟨[.ref t.root], []⟩) s (fun v _ => v = .ref z) := by
  intro n
  induction n with
  | zero =>
    intro t k par s dp un outer z hn st i hz hd
    rcases Tr.endX_stop (Tr.pick_zero hn) with ⟨x, pre, line, rfl, h⟩ | ⟨x, l, rfl, h⟩
    · rw [h] at hz; cases hz
      obtain ⟨a, j, _⟩ := i
      exact first_leaf G st j (by omega)
    · rw [h] at hz; cases hz
  | succ n ih =>
    intro t k par s dp un outer z hn st i hz hd
    cases hp : t.pick false with
    | none =>
      rcases Tr.endX_stop hp with ⟨x, pre, line, rfl, h⟩ | ⟨x, l, rfl, h⟩
      · rw [h] at hz; cases hz
        obtain ⟨a, j, _⟩ := i
        exact first_leaf G st j (by omega)
      · rw [h] at hz; cases hz
    | some c =>
      obtain ⟨l, a, vs, j, hc, hL, hl1, hl2, hx, kc, ic, hk9⟩ := i.pick hp
      have hh := Tr.pick_height hp
      rw [Tr.endX_pick hp] at hz
      exact first_step G st j hc hL (by simpa using hx) (by omega) fun {s' un' env'} st' => (ih (by omega) (fun b o e => st' b o (st b o e)) (ic.keeps st') hz (by omega)).call
theorem first_raises (G : Gd w H₀ mean mg mb) : ∀ (n : Nat) {t : Tr} {k par} {s : Shared} {dp un : Nat} {outer : List Env} (hn : t.height ≤ n) (st : H₀.StaysIn s.heap) (i : At H₀ s.heap t k par) (hz : t.endX false = none) (hd : dp + n + 2 < recursionLimit) (hFr : FramesIn s.heap outer),
    RaisesU w (Ar dp un outer) (.call (.ref 314) ⟨[.ref t.root], []⟩) s outer "IndexError" := by
  intro n
  induction n with
  | zero =>
    intro t k par s dp un outer hn st i hz hd hFr
    rcases Tr.endX_stop (Tr.pick_zero hn) with ⟨x, pre, line, rfl, h⟩ | ⟨x, l, rfl, h⟩
    · rw [h] at hz; cases hz
    · obtain ⟨a, j, na, hL⟩ := i
      exact first_raise0 G st j na.ch hL (by omega) hFr
  | succ n ih =>
    intro t k par s dp un outer hn st i hz hd hFr
    cases hp : t.pick false with
    | none =>
      rcases Tr.endX_stop hp with ⟨x, pre, line, rfl, h⟩ | ⟨x, l, rfl, h⟩
      · rw [h] at hz; cases hz
      · obtain ⟨a, j, na, hL⟩ := i
        exact first_raise0 G st j na.ch hL (by omega) hFr
    | some c =>
      obtain ⟨l, a, vs, j, hc, hL, hl1, hl2, hx, kc, ic, hk9⟩ := i.pick hp
      have hh := Tr.pick_height hp
      rw [Tr.endX_pick hp] at hz
      exact first_raise1 G st j hc hL (by simpa using hx) (by omega) hFr fun {s' un' env'} st' hFr' => ih (by omega) (fun b o e => st' b o (st b o e)) (ic.keeps st') hz (by omega) hFr'
theorem told_first_found (G : Gd w H₀ mean mg mb) {t : Tr} {k par} {s : Shared} {dp un : Nat} {outer : List Env} {z : Addr} {j : Nat} {tk : Tok} (hn : t.height ≤ 4) (st : H₀.StaysIn s.heap) (i : At H₀ s.heap t k par) (hz : t.endX false = some z) (hj : t.endOf false k = some j) (hd : dp + 10 < recursionLimit) :
    Gives w (Ar dp un outer) (.call (.ref 354) ⟨[.ref t.root, .int 0 tk], []⟩) s (fun v _ => ∃ t, v = .int j t) := by
  intro R hR
  have ih : ∀ {s' : Shared} {un' env'}, s.heap.StaysIn s'.heap → GivesT w (Ar (dp + 1) un' (env' :: outer)) (call (.ref 314) [.ref t.root]) s' (fun v _ => v = .ref z) := fun {s' un' env'} st' =>
    (first_found G 4 hn (fun b o e => st' b o (st b o e)) (i.keeps st') hz (by omega)).call
  obtain ⟨a, pre, line, par', ja⟩ := i.endAt hz hj
  have ih2 : ∀ {s' : Shared} {un' env'}, s.heap.StaysIn s'.heap → GivesT w (Ar (dp + 1) un' (env' :: outer)) (call (.ref 340) [.ref z]) s' (fun v _ => ∃ t, v = .int j t) := fun {s' un' env'} st' =>
    (number_at (t := .leaf z pre line) G (fun b o e => st' b o (st b o e)) (At.keeps st' ⟨a, ja⟩) (by omega)).call
  clear i hz hj ja
  walk_at "mine:go0"
  k_steps
  all_goals exact hR _ _ _ ⟨_, rfl⟩ (by walk_at "mine:stays")
theorem told_first_none (G : Gd w H₀ mean mg mb) {t : Tr} {k par} {s : Shared} {dp un : Nat} {outer : List Env} {tk : Tok} (hn : t.height ≤ 4) (st : H₀.StaysIn s.heap) (i : At H₀ s.heap t k par) (hz : t.endX false = none) (hd : dp + 10 < recursionLimit) (hFr : FramesIn s.heap outer) (hFo : ∀ env ∈ outer, ∀ L, env.frame = some L → H₀.get? L = none) :
    GivesU w (Ar dp un outer) (.call (.ref 354) ⟨[.ref t.root, .int 0 tk], []⟩) s outer (fun v _ => v = .none) := by
  intro R hR
  have ihr : ∀ {s' : Shared} {un' env'}, s.heap.StaysIn s'.heap → FramesIn s'.heap (env' :: outer) → RaisesU w (Ar (dp + 1) un' (env' :: outer)) (.call (.ref 314) ⟨[.ref t.root], []⟩) s' (env' :: outer) "IndexError" := fun {s' un' env'} st' hFr' =>
    first_raises G 4 hn (fun b o e => st' b o (st b o e)) (i.keeps st') hz (by omega) hFr'
  clear i hz
  walk_at "mine:go0"
  k_steps
  all_goals exact hR _ _ _ rfl (up_base (as := []) rfl (by assumption) (by walk_at "mine:stays") stB rfl) (((Heap.UpToSlots.of_keeps (by walk_at "mine:stays")).trans up8).trans up9)
theorem last_found (G : Gd w H₀ mean mg mb) : ∀ (n : Nat) {t : Tr} {k par} {s : Shared} {dp un : Nat} {outer : List Env} {z : Addr} (hn : t.height ≤ n) (st : H₀.StaysIn s.heap) (i : At H₀ s.heap t k par) (hz : t.endX true = some z) (hd : dp + n + 2 < recursionLimit),
    Gives w (Ar dp un outer) (.call (.ref 321) ⟨[.ref t.root], []⟩) s (fun v _ => v = .ref z) := by
  intro n
  induction n with
  | zero =>
    intro t k par s dp un outer z hn st i hz hd
    rcases Tr.endX_stop (Tr.pick_zero hn) with ⟨x, pre, line, rfl, h⟩ | ⟨x, l, rfl, h⟩
    · rw [h] at hz; cases hz
      obtain ⟨a, j, _⟩ := i
      exact last_leaf G st j (by omega)
    · rw [h] at hz; cases hz
  | succ n ih =>
    intro t k par s dp un outer z hn st i hz hd
    cases hp : t.pick true with
    | none =>
      rcases Tr.endX_stop hp with ⟨x, pre, line, rfl, h⟩ | ⟨x, l, rfl, h⟩
      · rw [h] at hz; cases hz
        obtain ⟨a, j, _⟩ := i
        exact last_leaf G st j (by omega)
      · rw [h] at hz; cases hz
    | some c =>
      obtain ⟨l, a, vs, j, hc, hL, hl1, hl2, hx, kc, ic, hk9⟩ := i.pick hp
      have hh := Tr.pick_height hp
      rw [Tr.endX_pick hp] at hz
      exact last_step G st j hc hL (by simpa using hx) (by omega) fun {s' un' env'} st' => (ih (by omega) (fun b o e => st' b o (st b o e)) (ic.keeps st') hz (by omega)).call
theorem last_raises (G : Gd w H₀ mean mg mb) : ∀ (n : Nat) {t : Tr} {k par} {s : Shared} {dp un : Nat} {outer : List Env} (hn : t.height ≤ n) (st : H₀.StaysIn s.heap) (i : At H₀ s.heap t k par) (hz : t.endX true = none) (hd : dp + n + 2 < recursionLimit) (hFr : FramesIn s.heap outer),
    RaisesU w (Ar dp un outer) (.call (.ref 321) ⟨[.ref t.root], []⟩) s outer "IndexError" := by
  intro n
  induction n with
  | zero =>
    intro t k par s dp un outer hn st i hz hd hFr
    rcases Tr.endX_stop (Tr.pick_zero hn) with ⟨x, pre, line, rfl, h⟩ | ⟨x, l, rfl, h⟩
    · rw [h] at hz; cases hz
    · obtain ⟨a, j, na, hL⟩ := i
      exact last_raise0 G st j na.ch hL (by omega) hFr
  | succ n ih =>
    intro t k par s dp un outer hn st i hz hd hFr
    cases hp : t.pick true with
    | none =>
      rcases Tr.endX_stop hp with ⟨x, pre, line, rfl, h⟩ | ⟨x, l, rfl, h⟩
      · rw [h] at hz; cases hz
      · obtain ⟨a, j, na, hL⟩ := i
        exact last_raise0 G st j na.ch hL (by omega) hFr
    | some c =>
      obtain ⟨l, a, vs, j, hc, hL, hl1, hl2, hx, kc, ic, hk9⟩ := i.pick hp
      have hh := Tr.pick_height hp
      rw [Tr.endX_pick hp] at hz
      exact last_raise1 G st j hc hL (by simpa using hx) (by omega) hFr fun {s' un' env'} st' hFr' => ih (by omega) (fun b o e => st' b o (st b o e)) (ic.keeps st') hz (by omega) hFr'
theorem told_last_found (G : Gd w H₀ mean mg mb) {t : Tr} {k par} {s : Shared} {dp un : Nat} {outer : List Env} {z : Addr} {j : Nat} {tk : Tok} (hn : t.height ≤ 4) (st : H₀.StaysIn s.heap) (i : At H₀ s.heap t k par) (hz : t.endX true = some z) (hj : t.endOf true k = some j) (hd : dp + 10 < recursionLimit) :
    Gives w (Ar dp un outer) (.call (.ref 354) ⟨[.ref t.root, .int (-1) tk], []⟩) s (fun v _ => ∃ t, v = .int j t) := by
  intro R hR
  have ih : ∀ {s' : Shared} {un' env'}, s.heap.StaysIn s'.heap → GivesT w (Ar (dp + 1) un' (env' :: outer)) (call (.ref 321) [.ref t.root]) s' (fun v _ => v = .ref z) := fun {s' un' env'} st' =>
    (last_found G 4 hn (fun b o e => st' b o (st b o e)) (i.keeps st') hz (by omega)).call
  obtain ⟨a, pre, line, par', ja⟩ := i.endAt hz hj
  have ih2 : ∀ {s' : Shared} {un' env'}, s.heap.StaysIn s'.heap → GivesT w (Ar (dp + 1) un' (env' :: outer)) (call (.ref 340) [.ref z]) s' (fun v _ => ∃ t, v = .int j t) := fun {s' un' env'} st' =>
    (number_at (t := .leaf z pre line) G (fun b o e => st' b o (st b o e)) (At.keeps st' ⟨a, ja⟩) (by omega)).call
  clear i hz hj ja
  walk_at "mine:go0"
  k_steps
  all_goals exact hR _ _ _ ⟨_, rfl⟩ (by walk_at "mine:stays")
theorem told_last_none (G : Gd w H₀ mean mg mb) {t : Tr} {k par} {s : Shared} {dp un : Nat} {outer : List Env} {tk : Tok} (hn : t.height ≤ 4) (st : H₀.StaysIn s.heap) (i : At H₀ s.heap t k par) (hz : t.endX true = none) (hd : dp + 10 < recursionLimit) (hFr : FramesIn s.heap outer) (hFo : ∀ env ∈ outer, ∀ L, env.frame = some L → H₀.get? L = none) :
    GivesU w (Ar dp un outer) (.call (.ref 354) ⟨[.ref t.root, .int (-1) tk], []⟩) s outer (fun v _ => v = .none) := by
  intro R hR
  have ihr : ∀ {s' : Shared} {un' env'}, s.heap.StaysIn s'.heap → FramesIn s'.heap (env' :: outer) → RaisesU w (Ar (dp + 1) un' (env' :: outer)) (.call (.ref 321) ⟨[.ref t.root], []⟩) s' (env' :: outer) "IndexError" := fun {s' un' env'} st' hFr' =>
    last_raises G 4 hn (fun b o e => st' b o (st b o e)) (i.keeps st') hz (by omega) hFr'
  clear i hz
  walk_at "mine:go0"
  k_steps
  all_goals exact hR _ _ _ rfl (up_base (as := []) rfl (by assumption) (by walk_at "mine:stays") stB rfl) (((Heap.UpToSlots.of_keeps (by walk_at "mine:stays")).trans up8).trans up9)
end
end
section
variable {w : World} {H₀ B : Heap}
abbrev kidLoop (meth : Str) (ln col : Nat) (I : Addr) (env : Env) : Code := .forLoop (.Name "child" ⟨ln - 1, 12, ln - 1, 17⟩) (.ref I) [.Expr (.YieldFrom (callOf meth ln col) ⟨ln, 12, ln, col + 2⟩) ⟨ln, 12, ln, col + 2⟩] [] env
theorem loop_lead {x : GP} {D U : Nat} {L root f lc I : Addr} {qual : Str} {cdv : Value} {meth : Str} {ln col : Nat} {fn : Tr → Addr} {lst : Tr → List Value} {bd : List Stmt} {items : List Value} {k : Result → Sem PySem.Fin} {l : List Value} {p : Pos} {ws : List Value} {all : List Tr}
    (g : GB w x B) (haL : x.a ≤ L) (hhL : ¬ x.hid L) (haI : x.a ≤ I) (hhI : ¬ x.hid I) (hIL : I ≠ L) (hl : B.IsList lc items.toArray) (hlim : D + 5 < recursionLimit)
    (hev : ∀ (t : Tr) (D' U' : Nat) (s' : Shared) (m : Str → Option Value) (Q : Value → Shared → Prop) (E : Value → Shared → Prop), t ∈ all → Fr B L s'.heap m → m (Str.ofString "child") = some (.ref t.root) →
      wpAny (model PG w) (AG D' U') (call (.ref (fn t)) [.ref t.root]) Q E s' → wpAny (model PG w) (AG D' U') (eval (callOf meth ln col) (envOf qual gScope L f cdv)) Q E s')
    (hk : ∀ s₀ s, Mid x s₀ s → Own x B L root s → Lead (model PG w) (AG D U) x.prot ws s₀ (.block [] (envOf qual gScope L f cdv)) (.pure (.done .next)) [.ret k none false l (.func bd (envOf qual gScope L f cdv)) p []] s) :
    ∀ (ts : List Tr) (i : Nat) (s₀ s : Shared), (∀ t ∈ ts, t ∈ all ∧ GenC w B fn lst t ∧ D + 10 + 10 * (t.height + 1) < recursionLimit) → items.drop i = refs ts → Mid x s₀ s → Own x B L root s → s.heap.IsListIter I lc i →
      Lead (model PG w) (AG D U) x.prot (ts.flatMap lst ++ ws) s₀ (kidLoop meth ln col I (envOf qual gScope L f cdv)) ((model PG w).den (kidLoop meth ln col I (envOf qual gScope L f cdv))) [.ret k none false l (.func bd (envOf qual gScope L f cdv)) p []] s := by
  intro ts
  have lcI : lc ≠ I := by
    rintro rfl
    obtain ⟨o, e, _⟩ := hl
    exact absurd (g.low _ _ e).1 (Nat.not_lt.mpr haI)
  have lowL : ∀ b o, B.get? b = some o → b ≠ L := fun b o e => by rintro rfl; exact absurd (g.low _ _ e).1 (Nat.not_lt.mpr haL)
  have lowI : ∀ b o, B.get? b = some o → b ≠ I := fun b o e => by rintro rfl; exact absurd (g.low _ _ e).1 (Nat.not_lt.mpr haI)
  have offL : ∀ b, (b < x.a ∨ x.hid b) → b ≠ L := fun b hb => by
    rintro rfl
    rcases hb with hb | hb
    · exact absurd hb (Nat.not_lt.mpr haL)
    · exact hhL hb
  have offI : ∀ b, (b < x.a ∨ x.hid b) → b ≠ I := fun b hb => by
    rintro rfl
    rcases hb with hb | hb
    · exact absurd hb (Nat.not_lt.mpr haI)
    · exact hhI hb
  induction ts with
  | nil =>
    intro i s₀ s _ hd hm ho hit
    have hx : items.toArray[i]? = none := by
      have : items.length ≤ i := List.drop_eq_nil_iff.mp hd
      simpa using this
    obtain ⟨m₀, F, _⟩ := ho.fr
    have hl' : s.heap.IsList lc items.toArray := let ⟨o, e, r⟩ := hl; ⟨o, F.keep _ _ e, r⟩
    refine lead_forLoop (wpL_mono (wpL_life (wpL_of (wpAny_pyNext_list_end (Q := fun o s' => o = none ∧ ∃ h', s' = { s with heap := h' } ∧ Heap.ExtBut I s.heap h') (E := fun _ _ => False) rfl hit hl' hx fun h' hx' => ⟨rfl, h', rfl, hx'⟩))) ?_ fun _ _ q => q.1.elim)
    rintro o s' ⟨⟨rfl, h', rfl, hx'⟩, hg⟩
    refine hk _ _ (hm.heap (tk := s.toks) (fun b o e hb => hx' b o (offI b hb) e) hg) (ho.next (fun b o e e' => hx' b o (lowI b o e) e') (fun o e => hx' _ o (Ne.symm hIL) e) ho.fin ho.sz hg)
  | cons t ts ih =>
    intro i s₀ s hts hd hm ho hit
    obtain ⟨tall, tC, tD⟩ := hts t (List.mem_cons_self ..)
    have hx : items.toArray[i]? = some (.ref t.root) := by
      have : (items.drop i)[0]? = some (.ref t.root) := by rw [hd]; rfl
      simpa using this
    have hd' : items.drop (i + 1) = refs ts := by
      have : (items.drop i).drop 1 = refs ts := by rw [hd]; rfl
      rw [List.drop_drop] at this; exact this
    obtain ⟨m₀, F, hself⟩ := ho.fr
    have hl' : s.heap.IsList lc items.toArray := let ⟨o, e, r⟩ := hl; ⟨o, F.keep _ _ e, r⟩
    refine lead_forLoop (wpL_mono (wpL_life (wpL_of (wpAny_pyNext_list_item (Q := fun o s' => o = some (.ref t.root) ∧ ∃ h', s' = { s with heap := h' } ∧ h'.IsListIter I lc (i + 1) ∧ Heap.SameBut I s.heap h') (E := fun _ _ => False) hit hl' hx fun h' a b => ⟨rfl, h', rfl, a, b⟩))) ?_ fun _ _ q => q.1.elim)
    rintro o s' ⟨⟨rfl, h₁, rfl, hit₁, hs₁⟩, hg₁⟩
    refine wpL_of (wpAny_of_eq rfl ?_)
    have F₁ : Fr B L h₁ m₀ := Fr.at' F (fun b o e e' => hs₁.extBut b o (lowI b o e) e') fun o e => hs₁.extBut _ o (Ne.symm hIL) e
    refine wpL_mono (wpL_life (wpL_of (wpAny_assign_Name (Q := fun _ s' => ∃ h₂, s' = { s with heap := h₂, toks := s.toks + 1 } ∧ h₂.Ns L (fun y => if y = Str.ofString "child" then some (.ref t.root) else m₀ y) ∧ Heap.SameBut L h₁ h₂) (E := fun _ _ => False)
      (wpAny_storeName_local rfl F₁.ns (fun h₂ hn hs => ⟨h₂, rfl, hn, hs⟩) rfl)))) ?_ fun _ _ q => q.1.elim
    rintro _ s'' ⟨⟨h₂, rfl, hn₂, hs₂⟩, hg₂⟩ H'
    have F₂ : Fr B L h₂ (fun y => if y = Str.ofString "child" then some (.ref t.root) else m₀ y) := F₁.set hn₂ hs₂
    have hLs : L < h₂.objs.size := by obtain ⟨o, es, ep, e, _⟩ := hn₂; exact Heap.lt_size e
    have hga : x.a ≤ h₂.objs.size := Nat.le_of_lt (Nat.lt_of_le_of_lt haL hLs)
    have hit₂ : h₂.IsListIter I lc (i + 1) := let ⟨o, e, r⟩ := hit₁; ⟨o, hs₂.extBut _ o hIL e, r⟩
    have G₂ : Grew s { s with heap := h₂, toks := s.toks + 1 } := hg₁.trans hg₂
    have m₂ : Mid x s₀ { s with heap := h₂, toks := s.toks + 1 } := hm.heap (fun b o e hb => hs₂.extBut b o (offL b hb) (hs₁.extBut b o (offI b hb) e)) G₂
    have o₂ : Own x B L root { s with heap := h₂, toks := s.toks + 1 } :=
      ⟨⟨_, F₂, (if_neg (by decide)).trans hself⟩, ho.fin, by rw [G₂.1]; exact ho.reg, ho.sz, fun b hb => Nat.lt_of_lt_of_le (ho.hid b hb) G₂.2⟩
    rw [List.flatMap_cons, List.append_assoc]
    refine lead_execs_cons (lead_Expr_YieldFrom rfl (wpL_weaken (over_in rfl) (wpL_mono (wpL_life (wpL_of (hev t _ _ _ _ (fun u s' => ∃ it h₃ tk c, u = .ref it ∧ s' = { s with heap := h₃, toks := tk, gens := s.gens.push (.fresh c) } ∧ h₂.StaysIn h₃ ∧ h₂.objs.size < it ∧ h₃.IsGen it s.gens.size ∧ h₂.objs.size < h₃.objs.size ∧
      (∀ (y : GP) (D' U' : Nat) (s' : Shared), GB w y B → y.a ≤ h₂.objs.size → ¬ y.hid h₂.objs.size → (∀ b o, h₃.get? b = some o → ¬ y.hid b → s'.heap.get? b = some o) → AllFin y.g s' → s'.heap.life.registered = [] → y.g < s'.gens.size → (∀ b, y.hid b → b < s'.heap.objs.size) → D' + 10 * (t.height + 1) < recursionLimit →
        GoesL (model PG w) (AG D' U') y.prot (lst t) (.fresh c) s')) (fun _ _ => False) tall F₂ (if_pos rfl)
      (make_gen tC g.X g.NL F₂.keep (Nat.le_trans g.sz hga) (by show D + 1 < recursionLimit; omega) fun it h' tk c a1 a2 a3 a4 a5 => ⟨it, h', tk, c, rfl, rfl, a1, a2, a3, a4, a5⟩)))) ?_ (fun _ _ q => q.1.elim))) rfl)
    rintro u s3 ⟨⟨it, h₃, tk, c, rfl, rfl, st₃, hit₃, isg, hsz₃, goes⟩, hg₃⟩
    refine ⟨it, s.gens.size, rfl, isg, fun p' k' l' hk' => ?_⟩
    have hgens : ({ s with heap := h₃, toks := tk, gens := s.gens.push (.fresh c) } : Shared).gens[s.gens.size]? = some (.fresh c) := by simp
    have hnit : ¬ x.hid it := fun q => absurd (Nat.lt_of_lt_of_le (ho.hid it q) G₂.2) (Nat.not_lt.mpr (Nat.le_of_lt hit₃))
    have itlt : it < h₃.objs.size := by obtain ⟨o, _, _, e, _⟩ := isg; exact Heap.lt_size e
    have G₃ : Grew s { s with heap := h₃, toks := tk, gens := s.gens.push (.fresh c) } := G₂.trans hg₃
    have m₃ : Mid x s₀ { s with heap := h₃, toks := tk, gens := s.gens.push (.fresh c) } :=
      ⟨fun b o e hb => st₃ b o (m₂.1 b o e hb), fun i hi => by
        have : i < s.gens.size := Nat.lt_trans hi ho.sz
        show (s.gens.push (.fresh c))[i]? = _
        rw [Array.getElem?_push_lt this, ← Array.getElem?_eq_getElem this]; exact hm.2.1 i hi, by
        show _ ≤ (s.gens.push (.fresh c)).size
        rw [Array.size_push]; exact Nat.le_succ_of_le hm.2.2.1, hm.2.2.2.1, hm.2.2.2.2.1, hm.2.2.2.2.2.trans G₃⟩
    refine lead_yf (x := x) (y := ⟨h₂.objs.size, s.gens.size, fun b => x.hid b ∨ b = it⟩) (over_in rfl) rfl (by show D + 1 < recursionLimit; omega) rfl rfl ho.sz hga (Nat.le_trans hga (Nat.le_of_lt hit₃)) (fun b => Iff.rfl) hnit
      (g.NL.keeps fun b o e => st₃ b o (F₂.keep b o e)) g.cs.2 (Nat.lt_of_lt_of_le g.cs.1 hga) (Nat.ne_of_lt (Nat.lt_of_lt_of_le g.cs.1 (Nat.le_trans hga (Nat.le_of_lt hit₃)))) (by rw [G₃.1]; exact ho.reg) ?_ ?_ (lst t) (.fresh c) s₀ _ m₃
      ⟨fun b o e _ _ _ => e, fun _ _ _ => rfl, Grew.refl _⟩ (GenAt.of isg) hgens ?_
    · intro i z h1 h2 h3
      have : i < s.gens.size := h2
      refine ho.fin i z h1 ?_
      rw [← h3]
      show _ = (s.gens.push (.fresh c))[i]?
      rw [Array.getElem?_push_lt this, ← Array.getElem?_eq_getElem this]
    · intro s₀' s' hm' hown hfin hsz
      rw [hk']
      show Lead _ (AG D U) x.prot _ s₀' _ (.pure (.again (kidLoop meth ln col I (envOf qual gScope L f cdv)))) _ s'
      have up : ∀ b o, h₃.get? b = some o → ¬ x.hid b → b < h₂.objs.size → s'.heap.get? b = some o := fun b o e h1 h2 => hown.heap b o e h1 h2 (Nat.ne_of_lt (Nat.lt_trans h2 hit₃))
      have o' : Own x B L root s' := o₂.next (fun b o e e' => up b o (st₃ b o e') (g.low b o e).2 (Nat.lt_of_lt_of_le (g.low b o e).1 hga)) (fun o e => up _ o (st₃ _ o e) hhL hLs) hfin (Nat.lt_trans ho.sz hsz) (hg₃.trans hown.grew)
      have hit' : s'.heap.IsListIter I lc (i + 1) := let ⟨o, e, r⟩ := hit₂; ⟨o, up _ o (st₃ _ o e) hhI (Heap.lt_size e), r⟩
      exact lead_again rfl (ih (i + 1) s₀' s' (fun t' ht' => hts t' (List.mem_cons_of_mem _ ht')) hd' hm' o' hit')
    · refine goes _ (D + 1) _ _ ⟨g.X, g.NL, fun b o e => ⟨Nat.lt_of_lt_of_le (g.low b o e).1 hga, ?_⟩, Nat.le_trans g.sz hga⟩ (Nat.le_refl _) ?_ (fun b o e _ => e) ?_ (by show h₃.life.registered = []; rw [show h₃.life = s.heap.life from G₃.1]; exact ho.reg) ?_ ?_ (by omega)
      · rintro (q | rfl)
        · exact (g.low b o e).2 q
        · exact absurd (Nat.lt_of_lt_of_le (g.low b o e).1 hga) (Nat.not_lt.mpr (Nat.le_of_lt hit₃))
      · rintro (q | q)
        · exact absurd (Nat.lt_of_lt_of_le (ho.hid _ q) G₂.2) (Nat.lt_irrefl _)
        · exact absurd hit₃ (by rw [← q]; exact Nat.lt_irrefl _)
      · intro i z h1 h2
        have h2 : (Shared.setGen { s with heap := h₃, toks := tk, gens := s.gens.push (.fresh c) } s.gens.size .running).gens[i]? = some z := h2
        have h1 : s.gens.size < i := h1
        rw [setGen_get (by omega)] at h2
        have h2 : (s.gens.push (.fresh c))[i]? = some z := h2
        rw [Array.getElem?_eq_none (by rw [Array.size_push]; omega)] at h2
        cases h2
      · show s.gens.size < (Shared.setGen { s with heap := h₃, toks := tk, gens := s.gens.push (.fresh c) } s.gens.size .running).gens.size
        rw [setGen_size]
        show s.gens.size < (s.gens.push (.fresh c)).size
        rw [Array.size_push]; exact Nat.lt_succ_self _
      · rintro b (q | rfl)
        · exact Nat.lt_of_lt_of_le (ho.hid b q) G₃.2
        · exact itlt
end
def Tr.kids : Tr → List Tr
  | .leaf .. | .n0 .. => []
  | .n1 _ _ a => [a]
  | .n2 _ _ a b => [a, b]
  | .n3 _ _ a b c => [a, b, c]
def Tr.preL : Tr → List Value
  | .leaf x _ _ | .n0 x _ => [.ref x]
  | .n1 x _ a => .ref x :: a.preL
  | .n2 x _ a b => .ref x :: (a.preL ++ b.preL)
  | .n3 x _ a b c => .ref x :: (a.preL ++ (b.preL ++ c.preL))
def Tr.postL : Tr → List Value
  | .leaf x _ _ | .n0 x _ => [.ref x]
  | .n1 x _ a => a.postL ++ [.ref x]
  | .n2 x _ a b => a.postL ++ (b.postL ++ [.ref x])
  | .n3 x _ a b c => a.postL ++ (b.postL ++ (c.postL ++ [.ref x]))
def Tr.leavesL : Tr → List Value
  | .leaf x _ _ => [.ref x]
  | .n0 .. => []
  | .n1 _ _ a => a.leavesL
  | .n2 _ _ a b => a.leavesL ++ b.leavesL
  | .n3 _ _ a b c => a.leavesL ++ (b.leavesL ++ c.leavesL)
section
variable {w : World} {H₀ B : Heap}
theorem own_rel {x : GP} {L root : Addr} {s s' : Shared} (g : GB w x B) (hhL : ¬ x.hid L) (o : Own x B L root s) (r : Rel x s s') : Own x B L root s' :=
  o.next (fun b ob e e' => r.1 b ob e' (g.low b ob e).2) (fun ob e => r.1 _ ob e hhL) (fun i z h1 h2 => o.fin i z h1 ((r.2.1 i h1).symm.trans h2)) (Nat.lt_of_lt_of_le o.sz r.2.2.2) r.2.2.1
/-- what a generator needs to know of a child -/
def Kid (w : World) (B : Heap) (fn : Tr → Addr) (fN fL : Addr) (nm : Str) (lst : Tr → List Value) (t : Tr) : Prop :=
  GenC w B fn lst t ∧ ∃ C a, ((C = 225 ∧ fn t = fN) ∨ (C = 305 ∧ fn t = fL)) ∧ Inst B t.root C a ∧ a nm = none
theorem node_pre {t : Tr} {l : Addr} {a : Str → Option Value} {ts : List Tr} (I : Inst B t.root 225 a) (hc : a (Str.ofString "children") = some (.ref l)) (hL : B.IsList l (refs ts).toArray) (hf : t.fnPre = 184)
    (hk : ∀ t' ∈ ts, Kid w B Tr.fnPre 184 285 (Str.ofString "pre_order") Tr.preL t' ∧ t'.height + 1 ≤ t.height) (hlst : t.preL = .ref t.root :: ts.flatMap Tr.preL) : GenC w B Tr.fnPre Tr.preL t := by
  obtain ⟨q, c, hG⟩ := gen_184 (w := w)
  refine ⟨_, _, _, q, c, hf ▸ hG, .inl rfl, fun x D U L s g haL hhL F fin reg sz hid hD => ?_⟩
  rw [hlst]
  have o : Own x B L t.root s := ⟨⟨_, F, rfl⟩, fin, reg, sz, hid⟩
  show Lead _ (AG D U) x.prot _ s _ _ [] s
  refine lead_func fun H' => lead_execs_cons (lead_Expr_Yield rfl rfl rfl (wpL_weaken (over_in rfl) (wpL_of (ev_self F rfl ⟨rfl, Mid.refl x s, fun s₁ r₁ => ?_⟩))) rfl rfl)
  have o₁ := own_rel g hhL o r₁
  obtain ⟨m₁, F₁, hm₁⟩ := o₁.fr
  refine lead_execs_cons (lead_For rfl (wpL_weaken (over_in rfl) (wpL_of (ev_children g.X F₁ hm₁ I hc fun tk => ?_))) (fun _ => rfl))
  have hl₁ : s₁.heap.IsList l (refs ts).toArray := let ⟨o, e, r⟩ := hL; ⟨o, F₁.keep _ _ e, r⟩
  refine wpL_mono (wpL_life (wpL_of (wpAny_pyIter_list (E := fun _ _ => False) (Q := fun v s' => v = .ref s₁.heap.objs.size ∧ s' = { s₁ with heap := s₁.heap.push { cls := .type "list_iterator", data := .fields #[.ref l, .int 0 0] }, toks := tk }) hl₁ ⟨rfl, rfl⟩))) ?_ fun _ _ q => q.1.elim
  rintro v s₂ ⟨⟨rfl, rfl⟩, hg₂⟩ p k' l' hk'
  have pk : ∀ b ob, s₁.heap.get? b = some ob → (s₁.heap.push { cls := .type "list_iterator", data := .fields #[.ref l, .int 0 0] }).get? b = some ob := fun b ob e => Heap.get?_push_of_some _ e
  have hLs : L < s₁.heap.objs.size := by obtain ⟨o, es, ep, e, _⟩ := F₁.ns; exact Heap.lt_size e
  have o₂ : Own x B L t.root { s₁ with heap := s₁.heap.push { cls := .type "list_iterator", data := .fields #[.ref l, .int 0 0] }, toks := tk } := o₁.next (fun b ob _ e => pk b ob e) (fun ob e => pk _ ob e) o₁.fin o₁.sz hg₂
  have m₂ : Mid x s₁ { s₁ with heap := s₁.heap.push { cls := .type "list_iterator", data := .fields #[.ref l, .int 0 0] }, toks := tk } := (Mid.refl x s₁).heap (fun b ob e _ => pk b ob e) hg₂
  have := loop_lead (fn := Tr.fnPre) (lst := Tr.preL) (ws := []) (all := ts) (D := D) (U := U) (cdv := c) (qual := q) (f := t.fnPre) (k := k') (l := l') (p := p) (meth := Str.ofString "pre_order") (ln := 117) (col := 38) (I := s₁.heap.objs.size) (items := refs ts) (root := t.root)
    (bd := [ys 115, forKids "pre_order" 117 38]) g haL hhL (Nat.le_of_lt (Nat.lt_of_le_of_lt haL hLs)) (fun q => Nat.lt_irrefl _ (o₁.hid _ q)) (Nat.ne_of_gt hLs) hL (by omega) ?_ ?_ ts 0 s₁ _ (fun t' ht' => ⟨ht', (hk t' ht').1.1, by have := (hk t' ht').2; omega⟩) rfl m₂ o₂ ⟨_, Heap.get?_push_size _ rfl, rfl, rfl⟩
  · rw [List.append_nil] at this
    exact this
  · intro t' D' U' s' m' Q E ht' F' hm' hcall
    obtain ⟨_, C, a', hC, I', hn⟩ := (hk t' ht').1
    exact ev_pre g.X F' hm' hC I' hn hcall
  · intro s₀' s' hm' ho'
    refine lead_leaf (.ok .next) ?_
    rw [hk']
    exact lead_end ⟨hm', ho'.fin⟩
theorem node_leaves {t : Tr} {l : Addr} {a : Str → Option Value} {ts : List Tr} (I : Inst B t.root 225 a) (hc : a (Str.ofString "children") = some (.ref l)) (hL : B.IsList l (refs ts).toArray) (hf : t.fnLeaves = 115)
    (hk : ∀ t' ∈ ts, Kid w B Tr.fnLeaves 115 271 (Str.ofString "leaves") Tr.leavesL t' ∧ t'.height + 1 ≤ t.height) (hlst : t.leavesL = ts.flatMap Tr.leavesL) : GenC w B Tr.fnLeaves Tr.leavesL t := by
  obtain ⟨q, c, hG⟩ := gen_115 (w := w)
  refine ⟨_, _, _, q, c, hf ▸ hG, .inl rfl, fun x D U L s g haL hhL F fin reg sz hid hD => ?_⟩
  rw [hlst]
  have o : Own x B L t.root s := ⟨⟨_, F, rfl⟩, fin, reg, sz, hid⟩
  show Lead _ (AG D U) x.prot _ s _ _ [] s
  refine lead_func fun H' => ?_
  have o₁ : Own x B L t.root s := o
  obtain ⟨m₁, F₁, hm₁⟩ := o₁.fr
  refine lead_execs_cons (lead_For rfl (wpL_weaken (over_in rfl) (wpL_of (ev_children g.X F₁ hm₁ I hc fun tk => ?_))) (fun _ => rfl))
  have hl₁ : s.heap.IsList l (refs ts).toArray := let ⟨o, e, r⟩ := hL; ⟨o, F₁.keep _ _ e, r⟩
  refine wpL_mono (wpL_life (wpL_of (wpAny_pyIter_list (E := fun _ _ => False) (Q := fun v s' => v = .ref s.heap.objs.size ∧ s' = { s with heap := s.heap.push { cls := .type "list_iterator", data := .fields #[.ref l, .int 0 0] }, toks := tk }) hl₁ ⟨rfl, rfl⟩))) ?_ fun _ _ q => q.1.elim
  rintro v s₂ ⟨⟨rfl, rfl⟩, hg₂⟩ p k' l' hk'
  have pk : ∀ b ob, s.heap.get? b = some ob → (s.heap.push { cls := .type "list_iterator", data := .fields #[.ref l, .int 0 0] }).get? b = some ob := fun b ob e => Heap.get?_push_of_some _ e
  have hLs : L < s.heap.objs.size := by obtain ⟨o, es, ep, e, _⟩ := F₁.ns; exact Heap.lt_size e
  have o₂ : Own x B L t.root { s with heap := s.heap.push { cls := .type "list_iterator", data := .fields #[.ref l, .int 0 0] }, toks := tk } := o₁.next (fun b ob _ e => pk b ob e) (fun ob e => pk _ ob e) o₁.fin o₁.sz hg₂
  have m₂ : Mid x s { s with heap := s.heap.push { cls := .type "list_iterator", data := .fields #[.ref l, .int 0 0] }, toks := tk } := (Mid.refl x s).heap (fun b ob e _ => pk b ob e) hg₂
  have := loop_lead (fn := Tr.fnLeaves) (lst := Tr.leavesL) (ws := []) (all := ts) (D := D) (U := U) (cdv := c) (qual := q) (f := t.fnLeaves) (k := k') (l := l') (p := p) (meth := Str.ofString "leaves") (ln := 71) (col := 35) (I := s.heap.objs.size) (items := refs ts) (root := t.root)
    (bd := [forKids "leaves" 71 35]) g haL hhL (Nat.le_of_lt (Nat.lt_of_le_of_lt haL hLs)) (fun q => Nat.lt_irrefl _ (o₁.hid _ q)) (Nat.ne_of_gt hLs) hL (by omega) ?_ ?_ ts 0 s _ (fun t' ht' => ⟨ht', (hk t' ht').1.1, by have := (hk t' ht').2; omega⟩) rfl m₂ o₂ ⟨_, Heap.get?_push_size _ rfl, rfl, rfl⟩
  · rw [List.append_nil] at this
    exact this
  · intro t' D' U' s' m' Q E ht' F' hm' hcall
    obtain ⟨_, C, a', hC, I', hn⟩ := (hk t' ht').1
    exact ev_leaves g.X F' hm' hC I' hn hcall
  · intro s₀' s' hm' ho'
    refine lead_leaf (.ok .next) ?_
    rw [hk']
    exact lead_end ⟨hm', ho'.fin⟩
theorem node_post {t : Tr} {l : Addr} {a : Str → Option Value} {ts : List Tr} (I : Inst B t.root 225 a) (hc : a (Str.ofString "children") = some (.ref l)) (hL : B.IsList l (refs ts).toArray) (hf : t.fnPost = 177)
    (hk : ∀ t' ∈ ts, Kid w B Tr.fnPost 177 278 (Str.ofString "post_order") Tr.postL t' ∧ t'.height + 1 ≤ t.height) (hlst : t.postL = ts.flatMap Tr.postL ++ [.ref t.root]) : GenC w B Tr.fnPost Tr.postL t := by
  obtain ⟨q, c, hG⟩ := gen_177 (w := w)
  refine ⟨_, _, _, q, c, hf ▸ hG, .inl rfl, fun x D U L s g haL hhL F fin reg sz hid hD => ?_⟩
  rw [hlst]
  have o : Own x B L t.root s := ⟨⟨_, F, rfl⟩, fin, reg, sz, hid⟩
  show Lead _ (AG D U) x.prot _ s _ _ [] s
  refine lead_func fun H' => ?_
  have o₁ : Own x B L t.root s := o
  obtain ⟨m₁, F₁, hm₁⟩ := o₁.fr
  refine lead_execs_cons (lead_For rfl (wpL_weaken (over_in rfl) (wpL_of (ev_children g.X F₁ hm₁ I hc fun tk => ?_))) (fun _ => rfl))
  have hl₁ : s.heap.IsList l (refs ts).toArray := let ⟨o, e, r⟩ := hL; ⟨o, F₁.keep _ _ e, r⟩
  refine wpL_mono (wpL_life (wpL_of (wpAny_pyIter_list (E := fun _ _ => False) (Q := fun v s' => v = .ref s.heap.objs.size ∧ s' = { s with heap := s.heap.push { cls := .type "list_iterator", data := .fields #[.ref l, .int 0 0] }, toks := tk }) hl₁ ⟨rfl, rfl⟩))) ?_ fun _ _ q => q.1.elim
  rintro v s₂ ⟨⟨rfl, rfl⟩, hg₂⟩ p k' l' hk'
  have pk : ∀ b ob, s.heap.get? b = some ob → (s.heap.push { cls := .type "list_iterator", data := .fields #[.ref l, .int 0 0] }).get? b = some ob := fun b ob e => Heap.get?_push_of_some _ e
  have hLs : L < s.heap.objs.size := by obtain ⟨o, es, ep, e, _⟩ := F₁.ns; exact Heap.lt_size e
  have o₂ : Own x B L t.root { s with heap := s.heap.push { cls := .type "list_iterator", data := .fields #[.ref l, .int 0 0] }, toks := tk } := o₁.next (fun b ob _ e => pk b ob e) (fun ob e => pk _ ob e) o₁.fin o₁.sz hg₂
  have m₂ : Mid x s { s with heap := s.heap.push { cls := .type "list_iterator", data := .fields #[.ref l, .int 0 0] }, toks := tk } := (Mid.refl x s).heap (fun b ob e _ => pk b ob e) hg₂
  have := loop_lead (fn := Tr.fnPost) (lst := Tr.postL) (ws := [.ref t.root]) (all := ts) (D := D) (U := U) (cdv := c) (qual := q) (f := t.fnPost) (k := k') (l := l') (p := p) (meth := Str.ofString "post_order") (ln := 111) (col := 39) (I := s.heap.objs.size) (items := refs ts) (root := t.root)
    (bd := [forKids "post_order" 111 39, ys 112]) g haL hhL (Nat.le_of_lt (Nat.lt_of_le_of_lt haL hLs)) (fun q => Nat.lt_irrefl _ (o₁.hid _ q)) (Nat.ne_of_gt hLs) hL (by omega) ?_ ?_ ts 0 s _ (fun t' ht' => ⟨ht', (hk t' ht').1.1, by have := (hk t' ht').2; omega⟩) rfl m₂ o₂ ⟨_, Heap.get?_push_size _ rfl, rfl, rfl⟩
  · exact this
  · intro t' D' U' s' m' Q E ht' F' hm' hcall
    obtain ⟨_, C, a', hC, I', hn⟩ := (hk t' ht').1
    exact ev_post g.X F' hm' hC I' hn hcall
  · intro s₀' s' hm' ho'
    refine lead_leaf (.ok .next) ?_
    rw [hk']
    obtain ⟨m₃, F₃, hm₃⟩ := ho'.fr
    refine lead_execs_cons (lead_Expr_Yield rfl rfl rfl (wpL_weaken (over_in rfl) (wpL_of (ev_self F₃ hm₃ ⟨rfl, hm', fun s₄ r₄ => ?_⟩))) rfl rfl)
    exact lead_end ⟨Mid.refl x s₄, (own_rel g hhL ho' r₄).fin⟩
theorem leaf_pre {y : Addr} {pr : Str} {line : Int} : GenC w B Tr.fnPre Tr.preL (.leaf y pr line) := by
  obtain ⟨q, c, hG⟩ := gen_285 (w := w)
  refine ⟨_, _, _, q, c, hG, .inr rfl, fun x D U L s g haL hhL F fin reg sz hid hD => ?_⟩
  have o : Own x B L y s := ⟨⟨_, F, rfl⟩, fin, reg, sz, hid⟩
  show Lead _ (AG D U) x.prot [.ref y] s _ _ [] s
  refine lead_func fun H' => lead_execs_cons (lead_Expr_Yield rfl rfl rfl (wpL_weaken (over_in rfl) (wpL_of (ev_self1 F rfl ⟨rfl, Mid.refl x s, fun s₁ r₁ => ?_⟩))) rfl rfl)
  exact lead_end ⟨Mid.refl x s₁, (own_rel g hhL o r₁).fin⟩
theorem leaf_post {y : Addr} {pr : Str} {line : Int} : GenC w B Tr.fnPost Tr.postL (.leaf y pr line) := by
  obtain ⟨q, c, hG⟩ := gen_278 (w := w)
  refine ⟨_, _, _, q, c, hG, .inr rfl, fun x D U L s g haL hhL F fin reg sz hid hD => ?_⟩
  have o : Own x B L y s := ⟨⟨_, F, rfl⟩, fin, reg, sz, hid⟩
  show Lead _ (AG D U) x.prot [.ref y] s _ _ [] s
  refine lead_func fun H' => lead_execs_cons (lead_Expr_Yield rfl rfl rfl (wpL_weaken (over_in rfl) (wpL_of (ev_self1 F rfl ⟨rfl, Mid.refl x s, fun s₁ r₁ => ?_⟩))) rfl rfl)
  exact lead_end ⟨Mid.refl x s₁, (own_rel g hhL o r₁).fin⟩
theorem leaf_leaves {y : Addr} {pr : Str} {line : Int} : GenC w B Tr.fnLeaves Tr.leavesL (.leaf y pr line) := by
  obtain ⟨q, c, hG⟩ := gen_271 (w := w)
  refine ⟨_, _, _, q, c, hG, .inr rfl, fun x D U L s g haL hhL F fin reg sz hid hD => ?_⟩
  have o : Own x B L y s := ⟨⟨_, F, rfl⟩, fin, reg, sz, hid⟩
  show Lead _ (AG D U) x.prot [.ref y] s _ _ [] s
  refine lead_func fun H' => lead_execs_cons (lead_Expr_Yield rfl rfl rfl (wpL_weaken (over_in rfl) (wpL_of (ev_self1 F rfl ⟨rfl, Mid.refl x s, fun s₁ r₁ => ?_⟩))) rfl rfl)
  exact lead_end ⟨Mid.refl x s₁, (own_rel g hhL o r₁).fin⟩
theorem gen_pre : ∀ (t : Tr) {k : Nat} {par : Option Addr}, At H₀ B t k par → Kid w B Tr.fnPre 184 285 (Str.ofString "pre_order") Tr.preL t := by
  have no : ∀ {x l a k par}, Inst B x 225 a → NodeA a l k par → ∃ C a, ((C = 225 ∧ 184 = 184) ∨ (C = 305 ∧ 184 = 285)) ∧ Inst B x C a ∧ a (Str.ofString "pre_order") = none :=
    fun i na => ⟨225, _, .inl ⟨rfl, rfl⟩, i, NodeA.no na _ (by kernel_rfl)⟩
  have ls : ∀ {l vs}, LAt H₀ B l vs → B.IsList l vs.toArray := fun ⟨n, e, _⟩ => ⟨_, e, rfl, n, rfl⟩
  intro t
  induction t with
  | leaf x pre line =>
    rintro k par ⟨a, i, l⟩
    exact ⟨leaf_pre, 305, a, .inr ⟨rfl, rfl⟩, i, LeafA.no l _ (by kernel_rfl)⟩
  | n0 x l =>
    rintro k par ⟨a, i, na, hl⟩
    exact ⟨node_pre (ts := []) i na.ch (ls hl) rfl (fun _ h => nomatch h) rfl, no i na⟩
  | n1 x l u ihu =>
    rintro k par ⟨a, i, na, hl, hu⟩
    refine ⟨node_pre (ts := [u]) i na.ch (ls hl) rfl (fun t' ht' => ?_) (by simp [Tr.preL, Tr.root]), no i na⟩
    simp only [List.mem_cons, List.not_mem_nil, or_false] at ht'
    subst ht'
    exact ⟨ihu hu, by simp only [Tr.height]; omega⟩
  | n2 x l u v ihu ihv =>
    rintro k par ⟨a, i, na, hl, hu, hv⟩
    refine ⟨node_pre (ts := [u, v]) i na.ch (ls hl) rfl (fun t' ht' => ?_) (by simp [Tr.preL, Tr.root]), no i na⟩
    simp only [List.mem_cons, List.not_mem_nil, or_false] at ht'
    rcases ht' with rfl | rfl
    · exact ⟨ihu hu, by simp only [Tr.height]; omega⟩
    · exact ⟨ihv hv, by simp only [Tr.height]; omega⟩
  | n3 x l u v z ihu ihv ihz =>
    rintro k par ⟨a, i, na, hl, hu, hv, hz⟩
    refine ⟨node_pre (ts := [u, v, z]) i na.ch (ls hl) rfl (fun t' ht' => ?_) (by simp [Tr.preL, Tr.root]), no i na⟩
    simp only [List.mem_cons, List.not_mem_nil, or_false] at ht'
    rcases ht' with rfl | rfl | rfl
    · exact ⟨ihu hu, by simp only [Tr.height]; omega⟩
    · exact ⟨ihv hv, by simp only [Tr.height]; omega⟩
    · exact ⟨ihz hz, by simp only [Tr.height]; omega⟩
theorem gen_post : ∀ (t : Tr) {k : Nat} {par : Option Addr}, At H₀ B t k par → Kid w B Tr.fnPost 177 278 (Str.ofString "post_order") Tr.postL t := by
  have no : ∀ {x l a k par}, Inst B x 225 a → NodeA a l k par → ∃ C a, ((C = 225 ∧ 177 = 177) ∨ (C = 305 ∧ 177 = 278)) ∧ Inst B x C a ∧ a (Str.ofString "post_order") = none :=
    fun i na => ⟨225, _, .inl ⟨rfl, rfl⟩, i, NodeA.no na _ (by kernel_rfl)⟩
  have ls : ∀ {l vs}, LAt H₀ B l vs → B.IsList l vs.toArray := fun ⟨n, e, _⟩ => ⟨_, e, rfl, n, rfl⟩
  intro t
  induction t with
  | leaf x pre line =>
    rintro k par ⟨a, i, l⟩
    exact ⟨leaf_post, 305, a, .inr ⟨rfl, rfl⟩, i, LeafA.no l _ (by kernel_rfl)⟩
  | n0 x l =>
    rintro k par ⟨a, i, na, hl⟩
    exact ⟨node_post (ts := []) i na.ch (ls hl) rfl (fun _ h => nomatch h) rfl, no i na⟩
  | n1 x l u ihu =>
    rintro k par ⟨a, i, na, hl, hu⟩
    refine ⟨node_post (ts := [u]) i na.ch (ls hl) rfl (fun t' ht' => ?_) (by simp [Tr.postL, Tr.root]), no i na⟩
    simp only [List.mem_cons, List.not_mem_nil, or_false] at ht'
    subst ht'
    exact ⟨ihu hu, by simp only [Tr.height]; omega⟩
  | n2 x l u v ihu ihv =>
    rintro k par ⟨a, i, na, hl, hu, hv⟩
    refine ⟨node_post (ts := [u, v]) i na.ch (ls hl) rfl (fun t' ht' => ?_) (by simp [Tr.postL, Tr.root]), no i na⟩
    simp only [List.mem_cons, List.not_mem_nil, or_false] at ht'
    rcases ht' with rfl | rfl
    · exact ⟨ihu hu, by simp only [Tr.height]; omega⟩
    · exact ⟨ihv hv, by simp only [Tr.height]; omega⟩
  | n3 x l u v z ihu ihv ihz =>
    rintro k par ⟨a, i, na, hl, hu, hv, hz⟩
    refine ⟨node_post (ts := [u, v, z]) i na.ch (ls hl) rfl (fun t' ht' => ?_) (by simp [Tr.postL, Tr.root]), no i na⟩
    simp only [List.mem_cons, List.not_mem_nil, or_false] at ht'
    rcases ht' with rfl | rfl | rfl
    · exact ⟨ihu hu, by simp only [Tr.height]; omega⟩
    · exact ⟨ihv hv, by simp only [Tr.height]; omega⟩
    · exact ⟨ihz hz, by simp only [Tr.height]; omega⟩
theorem gen_leaves : ∀ (t : Tr) {k : Nat} {par : Option Addr}, At H₀ B t k par → Kid w B Tr.fnLeaves 115 271 (Str.ofString "leaves") Tr.leavesL t := by
  have no : ∀ {x l a k par}, Inst B x 225 a → NodeA a l k par → ∃ C a, ((C = 225 ∧ 115 = 115) ∨ (C = 305 ∧ 115 = 271)) ∧ Inst B x C a ∧ a (Str.ofString "leaves") = none :=
    fun i na => ⟨225, _, .inl ⟨rfl, rfl⟩, i, NodeA.no na _ (by kernel_rfl)⟩
  have ls : ∀ {l vs}, LAt H₀ B l vs → B.IsList l vs.toArray := fun ⟨n, e, _⟩ => ⟨_, e, rfl, n, rfl⟩
  intro t
  induction t with
  | leaf x pre line =>
    rintro k par ⟨a, i, l⟩
    exact ⟨leaf_leaves, 305, a, .inr ⟨rfl, rfl⟩, i, LeafA.no l _ (by kernel_rfl)⟩
  | n0 x l =>
    rintro k par ⟨a, i, na, hl⟩
    exact ⟨node_leaves (ts := []) i na.ch (ls hl) rfl (fun _ h => nomatch h) rfl, no i na⟩
  | n1 x l u ihu =>
    rintro k par ⟨a, i, na, hl, hu⟩
    refine ⟨node_leaves (ts := [u]) i na.ch (ls hl) rfl (fun t' ht' => ?_) (by simp [Tr.leavesL, Tr.root]), no i na⟩
    simp only [List.mem_cons, List.not_mem_nil, or_false] at ht'
    subst ht'
    exact ⟨ihu hu, by simp only [Tr.height]; omega⟩
  | n2 x l u v ihu ihv =>
    rintro k par ⟨a, i, na, hl, hu, hv⟩
    refine ⟨node_leaves (ts := [u, v]) i na.ch (ls hl) rfl (fun t' ht' => ?_) (by simp [Tr.leavesL, Tr.root]), no i na⟩
    simp only [List.mem_cons, List.not_mem_nil, or_false] at ht'
    rcases ht' with rfl | rfl
    · exact ⟨ihu hu, by simp only [Tr.height]; omega⟩
    · exact ⟨ihv hv, by simp only [Tr.height]; omega⟩
  | n3 x l u v z ihu ihv ihz =>
    rintro k par ⟨a, i, na, hl, hu, hv, hz⟩
    refine ⟨node_leaves (ts := [u, v, z]) i na.ch (ls hl) rfl (fun t' ht' => ?_) (by simp [Tr.leavesL, Tr.root]), no i na⟩
    simp only [List.mem_cons, List.not_mem_nil, or_false] at ht'
    rcases ht' with rfl | rfl | rfl
    · exact ⟨ihu hu, by simp only [Tr.height]; omega⟩
    · exact ⟨ihv hv, by simp only [Tr.height]; omega⟩
    · exact ⟨ihz hz, by simp only [Tr.height]; omega⟩
end
section
variable {prog : Program} {w : World} {A : Around} {s : Shared} {K : Frag} {H₀ : Heap}
/-- going into a def of the top's that has cells, the objects that it looks into laid on the ledger -/
theorem enterC {p : Program} {loose : List Str} {mean : ExcName → Option Value} {mg mb : Str → Option Value} {R : Result → Shared → Prop} {name qual : Str} {params : Arguments} {body : List Stmt} {scope : Scope} {dV kV doc pm cdv ct oc : Value} {an od : Option Addr} {osl : Array (Option Value)} {f : Addr} {args : Args} {binds : List (Str × Value)}
    (news : List (Addr × Obj)) (X : K.In H₀) (T : Top p loose mean mg mb H₀) (st : H₀.StaysIn s.heap) (hN : ∀ p ∈ news, s.heap.get? p.1 = some p.2 ∧ H₀.get? p.1 = none)
    (ho : K.lookup f = some ⟨oc, od, .func (fnOf name qual params body scope dV kV doc pm an cdv ct), osl⟩) (hcd : codeIn K cdv qual = true) (hroom : A.depth < recursionLimit)
    (hbind : BindsTo s (fnOf name qual params body scope dV kV doc pm an cdv ct) args binds)
    (hkind : (binds.all fun y => scope.names.lookup y.1 == some .local || scope.names.lookup y.1 == some .cell) = true)
    (hnd : ((cellsFrom 0 scope.names []).map (·.1)).Nodup)
    (h : ∀ g L' h₁ tk cells, g = hideAll s.heap (news.map (·.1)) → L' = s.heap.objs.size → K.In g → Top p loose mean mg mb g → Fr g L' h₁ (bindL (envOfC qual scope L' f cdv).kindOf binds fun _ => none) → News g L' h₁ (cells ++ news) →
      CellsAre (bindC (envOfC qual scope L' f cdv).kindOf binds fun _ => none) (cellsFrom (L' + 1) scope.names []) cells → (∀ p ∈ news, p.1 < L') →
      wpAny (model prog w) (A.deeper (envOfC qual scope L' f cdv)) (execs body (envOfC qual scope L' f cdv))
        (fun fl s' => R (.ok (.ret (match fl with | .ret v => v | _ => .none))) s')
        (fun e s' => wpAny (model prog w) (A.deeper (envOfC qual scope L' f cdv)) (leaving (envOfC qual scope L' f cdv) e) (fun _ s'' => R (.error e) s'') (fun e' s'' => R (.error e') s'') s')
        { s with heap := h₁, toks := tk })
    (hco : scope.isCoroutine = false) (hgen : scope.isGenerator = false) (hk : scope.kind = .function) : codeAny (model prog w) A (.call (.ref f) args) R s := by
  have sg : H₀.StaysIn (hideAll s.heap (news.map (·.1))) := fun b o e => hideAll_get _ (st b o e) fun q => by
    obtain ⟨p, hp, rfl⟩ := List.mem_map.mp q
    rw [(hN p hp).2] at e; cases e
  refine codeAny_call_function hroom (st _ _ (X _ _ ho)) rfl hco hgen rfl (codeRec_of (X.keeps st) hcd) (hbind _ _ _ _ ?_)
  refine wpAny_newFunctionEnv_cells hk (kindsX hkind _) fun env' he s' x => ?_
  subst he
  refine ⟨(T.keeps st).nolimit.keeps x.toInCall.keep, codeAny_func ?_⟩
  obtain ⟨h₁, tk, rfl, _⟩ := x.done
  have hk₁ := x.toInCall.keep
  obtain ⟨cells, NC, Y⟩ := Cl.news (h₀ := s.heap) (Nat.le_refl _) fun n c hm => ⟨x.cell n c (lookup_of_mem_nodup (cellsFrom_names scope.names 0 (s.heap.objs.size + 1) [] [] rfl ▸ hnd) hm), x.above n c hm⟩
  refine h _ s.heap.objs.size h₁ tk cells rfl rfl (X.keeps sg) (T.keeps sg) ⟨x.toInCall.ns, fun b o e => hk₁ b o (of_hideAll _ e), Nat.le_of_eq (hideAll_size _ _)⟩ (fun p hp => ?_) Y (fun p hp => Heap.lt_size (hN p hp).1)
  rcases List.mem_append.mp hp with hp | hp
  · refine ⟨(NC p hp).1, (NC p hp).2.1, ?_⟩
    cases q : (hideAll s.heap (news.map (·.1))).get? p.1 with
    | none => rfl
    | some o => have := of_hideAll _ q; rw [(NC p hp).2.2] at this; cases this
  · exact ⟨hk₁ _ _ (hN p hp).1, Nat.ne_of_lt (Heap.lt_size (hN p hp).1), hideAll_none _ (List.mem_map_of_mem hp)⟩
end
/-- two addresses that differ (hidden from the arithmetic, which would split on it) -/
structure NeA (a b : Nat) : Prop where
  h : a ≠ b
theorem NeA.s {a b : Nat} (x : NeA a b) : b ≠ a := Ne.symm x.h
/-- the opaque rest of a ledger: at lo or above, and none of the named -/
def Tail (fa : List (Addr × Obj)) (lo : Nat) (bad : List Addr) : Prop := ∀ p ∈ fa, lo ≤ p.1 ∧ p.1 ∉ bad
theorem Tail.lo {fa lo bad} (T : Tail fa lo bad) {d : Addr} (h : @LT.lt Nat _ d lo) : ∀ p ∈ fa, p.1 ≠ d := fun p hp e => by
  have := (T p hp).1
  rw [e] at this
  exact absurd (Nat.lt_of_lt_of_le h this) (Nat.lt_irrefl _)
theorem Tail.bad {fa lo bad} (T : Tail fa lo bad) {d : Addr} (h : d ∈ bad) : ∀ p ∈ fa, p.1 ≠ d := fun p hp e => (T p hp).2 (e ▸ h)
theorem Tail.nil {lo bad} : Tail [] lo bad := fun _ h => nomatch h
section
variable {prog : Program} {w : World} {A : Around} {E : Value → Shared → Prop} {s : Shared} {g H₀ : Heap} {L l D : Addr} {m : Str → Option Value} {vs : List Value} {v : Value} {Q : Value → Shared → Prop} {news news' : List (Addr × Obj)} {n k : Nat}
theorem len_own (N : News g L s.heap news) (hm : (l, listOf vs.toArray n) ∈ news) (hk : vs.length = k) (hr : k ≤ 1000) (h : ∀ t tk, Q (.int k t) { s with toks := tk }) :
    wpAny (model prog w) A (call (.builtin "len") [.ref l]) Q E s := by
  subst hk
  exact call_len_list ⟨_, (N _ hm).1, rfl, n, rfl⟩ (by simp only [List.size_toArray]; omega) (by simpa using h _ _)
theorem append_own {x : Value} (F : Fr g L s.heap m) (N : News g L s.heap news) (U : Upd D (listOf vs.toArray n) (listOf (vs ++ [x]).toArray (n + 1)) news news') (hr : vs.length ≤ 1000)
    (h : ∀ h', Fr g L h' m → News g L h' news' → Q .none { s with heap := h' }) : wpAny (model prog w) A (call (.builtin "list.append") [.ref D, x]) Q E s := by
  obtain ⟨pre, post, rfl, rfl, a, b⟩ := U.split
  have z := N (D, listOf vs.toArray n) (List.mem_append.mpr (.inr (.head _)))
  refine append_at (hsz := ?_) z.1 fun h' hs ho' => h h' (F.change hs z.2.1 z.2.2) (news_set N a b hs (ho'.trans ?_))
  · simp
  · rw [sizeLine_eq]; simp only [List.size_toArray]; omega
theorem item_own {value slice : PySem.Expr} {i : Int} {u : Tok} (N : News g L s.heap news) (hm : (l, listOf vs.toArray n) ∈ news) (h0 : 0 ≤ i) (hhi : i < 2 ^ 63) (hx : vs[i.toNat]? = some v) (h : Q v s)
    (hs : subscripted slice false (.ref l) (.int i u) = operate [.ref l, .int i u] (getItem (.ref l) (.int i u))) :
    wpAny (model prog w) A (subscriptTail value slice (.ref l) (.int i u)) Q E s :=
  have hl : s.heap.IsList l vs.toArray := ⟨_, (N _ hm).1, rfl, _, rfl⟩
  tail_any hl.typeIs slot_list_getitem.lookup (wpAny_getItem_list hl h0 hhi (by simpa using hx) h) hs
theorem set_own {i : Nat} {t : Tok} {Q : Unit → Shared → Prop} (F : Fr g L s.heap m) (N : News g L s.heap news) (hi : i < vs.length) (hr : vs.length ≤ 1000) (U : Upd D (listOf vs.toArray n) (listOf (vs.set i v).toArray n) news news')
    (h : ∀ h', Fr g L h' m → News g L h' news' → Q () { s with heap := h' }) : wpAny (model prog w) A (setItem (.ref D) (.int i t) v) Q E s := by
  obtain ⟨pre, post, rfl, rfl, a, b⟩ := U.split
  have z := N (D, listOf vs.toArray n) (List.mem_append.mpr (.inr (.head _)))
  refine ki_setAt z.1 (by omega) (by omega) (by simp only [List.size_toArray]; omega) (h _ (F.change (Heap.SameBut.update ..) z.2.1 z.2.2) (ki_turn _ N a b ?_ ?_))
  · show (vs.toArray).setIfInBounds i v = (vs.set i v).toArray
    simp
  · simp
theorem idx_at {pre rest : List Value} {x : Value} {i : Nat} (h : pre.length = i) : (pre ++ x :: rest)[i]? = some x := by
  subst h
  simp
theorem idx_left {pre rest : List Value} {x : Value} {i : Nat} (h : pre[i]? = some x) : (pre ++ rest)[i]? = some x := by
  have : i < pre.length := (List.getElem?_eq_some_iff.mp h).1
  rw [List.getElem?_append_left this]; exact h
end
/-- a step of the script's -/
theorem use_next {w : World} {H₀ : Heap} {mean : ExcName → Option Value} {mg mb : Str → Option Value} (G : Gd w H₀ mean mg mb) {g : Heap} {L : Addr} {mm : Str → Option Value} {news : List (Addr × Obj)} {up : Obj → List (Addr × Obj)} {E : Value → Shared → Prop} {Q : Value → Shared → Prop}
    {s : Shared} {dp un outer} {S sl : Addr} {vs : List Value} {ns : List Int} {p limit : Int} {t tl n m : Nat} (F : Fr g L s.heap mm) (N : News g L s.heap news) (st : H₀.StaysIn g)
    (U : UpdF S (listOf [Value.ref sl, .int p t].toArray n) news up) (hsl : g.get? sl = some (listOf vs.toArray m)) (hsl0 : H₀.get? sl = none) (hi : IntsAre vs ns) (hlen : ns.length ≤ 60)
    (hne : sl ≠ S) (hp : 0 ≤ p) (hp2 : p < 1000) (hlim : 0 < limit) (hlim2 : limit ≤ 4) (hd : dp + 2 < recursionLimit) (hS0 : H₀.get? S = none)
    (k : ∀ (k : Int) tk h' tks t' n', 0 ≤ k → k < limit → Fr g L h' mm → News g L h' (up (listOf [Value.ref sl, .int (p + 1) t'].toArray n')) → Q (.int k tk) { s with heap := h', toks := tks }) :
    wpAny (model PG w) (Ar dp un outer) (call (.ref 328) [.ref S, .int limit tl]) Q E s := by
  obtain ⟨pre, post, rfl, hup, a, b⟩ := U.split
  have z := N (S, listOf [Value.ref sl, .int p t].toArray n) (List.mem_append.mpr (.inr (.head _)))
  refine wpAny_call (next_ok G (fun b o e => F.keep b o (st b o e)) z.1 hS0 (F.keep _ _ hsl) hsl0 hi hlen hne hp hp2 hlim hlim2 hd fun kk tk h' tks t' n' h0 h1 hk hS' => ?_)
  refine k kk tk h' tks t' n' h0 h1 ?_ ?_
  · obtain ⟨o, es, ep, e, r⟩ := F.ns
    exact ⟨⟨o, es, ep, hk _ _ (Ne.symm z.2.1) e, r⟩, fun b o e => hk b o (fun q => by rw [q, z.2.2] at e; cases e) (F.keep b o e), F.above⟩
  · rw [hup]
    intro q hq
    rcases List.mem_append.mp hq with hq | hq
    · have y := N q (List.mem_append.mpr (.inl hq))
      exact ⟨hk _ _ (a q hq) y.1, y.2⟩
    · rcases List.mem_cons.mp hq with rfl | hq
      · exact ⟨hS', z.2⟩
      · have y := N q (List.mem_append.mpr (.inr (.tail _ hq)))
        exact ⟨hk _ _ (b q hq) y.1, y.2⟩
section
local macro_rules | `(tactic| k_room) => `(tactic| ((try simp only [depth_under_make, depth_under_kw, depth_in1, depth_deeper]); (try dsimp only [Ar] at *); (simp only [recursionLimit] at *); omega))
local macro_rules | `(tactic| k_all) => `(tactic| first | exact Tail.bad (by assumption) (by k_mem) | exact Tail.lo (by assumption) (by omega))
local macro_rules | `(tactic| walk_at "call builtin:len") => `(tactic| (k_here; (with_reducible show wpAny _ _ (call (Value.builtin "len") [Value.ref _]) _ _ _); k_dflt (refine' len_own ?k1 ?k2 ?k3 ?k4 ?_; (case k1 => k_asm); (case k2 => k_mem); (case k3 => assumption); (case k4 => omega); k_whole); intro t9 tk9))
local macro_rules | `(tactic| walk_at "call builtin:list.append") => `(tactic| (k_here; (with_reducible show wpAny _ _ (call (Value.builtin "list.append") [Value.ref _, _]) _ _ _); k_dflt (refine' append_own ?k1 ?k2 ?k3 ?k4 ?_; (case k1 => k_asm); (case k2 => k_asm); (case k3 => k_upd); (case k4 => ((try simp only [List.length_append, List.length_cons, List.length_nil]); omega)); k_whole); intro h' F' N'; (try dsimp only [List.nil_append, List.cons_append] at N'); (try k_sweep)))
local macro_rules | `(tactic| walk_at "mine:idx") => `(tactic| first | ((with_reducible show (HAppend.hAppend (_ : List Value) (_ : List Value))[_]? = some _); (first | exact idx_at (by (try simp only [List.length_append, List.length_cons, List.length_nil]); omega) | (refine' idx_left ?_; walk_at "mine:idx"))) | exact rfl)
local macro_rules | `(tactic| walk_at "subscriptTail") => `(tactic| (k_here; (with_reducible show wpAny _ _ (subscriptTail _ _ (Value.ref _) (Value.int _ _)) _ _ _); k_dflt (refine' item_own ?k1 ?k2 ?k3 ?k4 ?k5 ?_ ?k6; (case k1 => k_asm); (case k2 => k_mem); (case k3 => omega); (case k4 => ((try simp only [List.length_append, List.length_cons, List.length_nil]); omega)); (case k5 => walk_at "mine:idx"); (case k6 => with_unfolding_all rfl); k_whole)))
local macro_rules | `(tactic| walk_at "setItem ref int") => `(tactic| (k_here; (with_reducible show wpAny _ _ (setItem (Value.ref _) (Value.int _ _) _) _ _ _); k_dflt (refine' set_own ?k1 ?k2 ?k3 ?k4 ?k5 ?_; (case k1 => k_asm); (case k2 => k_asm); (case k5 => k_upd); (case k3 => ((try simp only [List.length_append, List.length_cons, List.length_nil]); omega)); (case k4 => ((try simp only [List.length_append, List.length_cons, List.length_nil]); omega)); k_whole); intro h' F' N'; (try k_sweep)))
set_option hygiene false in
local macro_rules | `(tactic| walk_at "call ref") => `(tactic| (k_here; (with_reducible show wpAny _ _ (call (Value.ref 328) _) _ _ _); k_dflt (refine' use_next G ?k1 ?k2 ?k3 ?k4 ?k5 ?k6 ?k7 ?k8 ?k9 ?k10 ?k11 ?k12 ?k13 ?k14 ?k15 ?_; (case k1 => k_asm); (case k2 => k_asm); (case k3 => assumption); (case k4 => k_updF); (case k5 => assumption); (case k6 => assumption); (case k7 => assumption); (case k8 => assumption); (case k9 => first | assumption | exact NeA.h (by assumption)); (case k10 => omega); (case k11 => omega); (case k12 => decide); (case k13 => decide); (case k14 => k_room); (case k15 => assumption); k_whole); intro kk tk9 h' tks t9 n9 hk0 hk1 F' N'; (try k_sweep)))
theorem getL_nil (nm : Str) : getL nm [] = some none := rfl
theorem isStr_str (nm k : Str) (t : Tok) : (Value.str k t).isStr nm = (k == nm) := by
  rfl
theorem getL_cons (nm : Str) (hsh : Int) (k : Str) (t : Tok) (v : Value) (r : List DictEntry) : getL nm (⟨hsh, .str k t, v⟩ :: r) = if k = nm then some (some v) else getL nm r := by
  unfold getL
  rw [List.find?_cons]
  simp only [isStr_str]
  by_cases h : k = nm
  · simp [h]
  · have : (k == nm) = false := beq_eq_false_iff_ne.mpr h
    have q : (⟨hsh, .str k t, v⟩ : DictEntry).refKey = false := rfl
    simp only [this, if_neg h, List.any_cons, q, Bool.false_or]

/-- what a dict of texts reads as -/
def entA : List (Str × Value) → Str → Option Value
  | [], _ => none
  | (k, v) :: r, nm => if k = nm then some v else entA r nm
theorem getL_step {nm : Str} {hsh : Int} {k : Str} {t : Tok} {v : Value} {r : List DictEntry} {kv : List (Str × Value)} (h : getL nm r = some (entA kv nm)) : getL nm (⟨hsh, .str k t, v⟩ :: r) = some (entA ((k, v) :: kv) nm) := by
  rw [getL_cons, entA]
  split
  · rfl
  · exact h
theorem entA_none {nm : Str} {keys : List Str} (h : keys.contains nm = false) : ∀ {kv : List (Str × Value)}, (kv.all fun p => keys.contains p.1) = true → entA kv nm = none
  | [], _ => rfl
  | (k, v) :: r, e => by
    rw [List.all_cons, Bool.and_eq_true] at e
    rw [entA, if_neg, entA_none h e.2]
    rintro rfl
    exact absurd (e.1.symm.trans h) (by decide)
/-- a dict whose keys are texts -/
abbrev tupO (vs : List Value) : Obj := { cls := Value.type "tuple", data := Data.seq vs.toArray }
/-- all but the one are as they were -/
theorem back_but {g h h' : Heap} {L D : Addr} {m : Str → Option Value} {news news' : List (Addr × Obj)} (hg : g = hideAll h (news.map (·.1))) (hN : ∀ p ∈ news, h.get? p.1 = some p.2) (F : Fr g L h' m) (N : News g L h' news') (hs : ∀ p ∈ news, p.1 ≠ D → p ∈ news') :
    ∀ b o, b ≠ D → h.get? b = some o → h'.get? b = some o := by
  subst hg
  intro b o hD e
  by_cases hb : b ∈ news.map (·.1)
  · obtain ⟨p, hp, rfl⟩ := List.mem_map.mp hb
    have := hN p hp
    rw [e] at this
    rw [Option.some.inj this]
    exact (N p (hs p hp hD)).1
  · exact F.keep b o (hideAll_get _ e hb)
section
variable {w : World} {H₀ : Heap} {mean : ExcName → Option Value} {mg mb : Str → Option Value}
theorem leaf_init (G : Gd w H₀ mean mg mb) {s : Shared} (st : H₀.StaysIn s.heap) {dp un : Nat} {outer : List Env} {x dx D D2 : Addr} {pre val : Str} {line : Int} {k t1 tv tp tl tk : Nat} {R : Result → Shared → Prop}
    (hx : s.heap.get? x = some (instObj 305 dx)) (hx0 : H₀.get? x = none) (hdx : s.heap.get? dx = some (dictOf [] 0)) (hdx0 : H₀.get? dx = none)
    (hD : s.heap.get? D = some (tupO [.str pre tp, .ref D2])) (hD0 : H₀.get? D = none) (hD2 : s.heap.get? D2 = some (tupO [.int line tl, .int k tk])) (hD20 : H₀.get? D2 = none)
    (n1 : @Ne Nat x dx) (n2 : @Ne Nat x D) (n3 : @Ne Nat x D2) (n4 : @Ne Nat dx D) (n5 : @Ne Nat dx D2) (n6 : @Ne Nat D D2) (hd : dp + 5 < recursionLimit)
    (hR : ∀ h' tks es n (a : Str → Option Value), (∀ b o, b ≠ dx → s.heap.get? b = some o → h'.get? b = some o) → h'.get? dx = some (dictOf es n) → es.length ≤ 20 → (∀ nm, getL nm es = some (a nm)) →
      (a (Str.ofString "value") = some (.str val tv) ∧ a (Str.ofString "_prefix") = some (.str pre tp) ∧ a (Str.ofString "lineno") = some (.int line tl) ∧ a (Str.ofString "column") = some (.int k tk) ∧ a (Str.ofString "parent") = none ∧ ∀ nm, leafKeys.contains nm = false → a nm = none) →
      R (.ok (.ret .none)) { s with heap := h', toks := tks }) :
    codeAny (model PG w) (Ar dp un outer) (.call (.ref 243) ⟨[.ref x, .int 1 t1, .str val tv, .ref D], []⟩) R s := by
  have hN : ∀ q ∈ [(x, instObj 305 dx), (dx, dictOf [] 0), (D, tupO [.str pre tp, .ref D2]), (D2, tupO [.int line tl, .int k tk])], s.heap.get? q.1 = some q.2 ∧ H₀.get? q.1 = none :=
    List.forall_mem_cons.mpr ⟨⟨hx, hx0⟩, List.forall_mem_cons.mpr ⟨⟨hdx, hdx0⟩, List.forall_mem_cons.mpr ⟨⟨hD, hD0⟩, List.forall_mem_cons.mpr ⟨⟨hD2, hD20⟩, List.forall_mem_nil _⟩⟩⟩⟩
  have hN1 := fun q hq => (hN q hq).1
  refine' enter _ ?k1 ?k2 ?k3 hN ?k5 ?k6 ?k7 ?k8 ?k9 ?_ ?c1 ?c2 ?c3 ?c4
  (case k1 => exact Gd.X G)
  (case k2 => exact Gd.T G)
  (case k3 => exact st)
  (case k5 => k_is)
  (case k6 => k_is)
  (case k7 => k_room)
  (case k8 => exact binds_K (G.X.keeps st) rfl (by k_is) rfl rfl rfl)
  (case k9 => exact locs rfl)
  (case c1 => exact rfl)
  (case c2 => exact rfl)
  (case c3 => exact rfl)
  (case c4 => decide)
  clear hx hx0 hdx hdx0 hD hD0 hD2 hD20
  intro g' L' h'' hg Xg Tg F'' N'' lt'
  (try dsimp only); (try k_fold)
  simp only [AllLt, and_true] at lt'
  have h235 : g'.IsList 235 #[] := ⟨_, Xg 235 { cls := .type "list", data := .seq #[] 0 } (by k_is), rfl, _, rfl⟩
  k_steps
  all_goals (
    refine hR _ _ _ _ (entA [(Str.ofString "notes", _), (Str.ofString "_prefix", _), (Str.ofString "lineno", _), (Str.ofString "column", _), (Str.ofString "type", _), (Str.ofString "value", _), (Str.ofString "fixers_applied", _)]) (back_but hg hN1 (by assumption) (by assumption) ?_) ((by assumption : News _ _ _ _) _ (.tail _ (.tail _ (.tail _ (.head _))))).1 (by simp only [List.length_cons, List.length_nil]; omega) (fun nm => getL_step (getL_step (getL_step (getL_step (getL_step (getL_step (getL_step (getL_nil nm)))))))) ⟨rfl, rfl, rfl, rfl, rfl, fun nm h => entA_none h (by kernel_rfl)⟩
    refine List.forall_mem_cons.mpr ⟨fun _ => ?_, List.forall_mem_cons.mpr ⟨fun q => absurd rfl q, List.forall_mem_cons.mpr ⟨fun _ => ?_, List.forall_mem_cons.mpr ⟨fun _ => ?_, List.forall_mem_nil _⟩⟩⟩⟩ <;> k_mem)
end
theorem putL_length (name : Str) (hsh : Int) (key v : Value) : ∀ es : List DictEntry, (putL name hsh key v es).length ≤ es.length + 1
  | [] => Nat.le_refl _
  | e :: r => by
    unfold putL
    split
    · exact Nat.le_succ _
    · exact Nat.succ_le_succ (putL_length name hsh key v r)
theorem isStr_other {v : Value} {a b : Str} (h : v.isStr a = true) (hab : a ≠ b) : v.isStr b = false := by
  cases v with
  | str k t =>
    rw [isStr_str] at *
    have : k = a := beq_iff_eq.mp h
    subst this
    exact beq_eq_false_iff_ne.mpr hab
  | _ => first | rfl | exact absurd h (by decide) | cases h
theorem isStr_noref {e : DictEntry} {a : Str} (h : e.key.isStr a = true) : e.refKey = false := by
  obtain ⟨hs, k, v⟩ := e
  cases k with
  | ref b => cases h
  | _ => rfl
theorem putL_any (name : Str) (hsh : Int) (t : Tok) (v : Value) : ∀ es : List DictEntry, (putL name hsh (.str name t) v es).any (·.refKey) = es.any (·.refKey)
  | [] => rfl
  | e :: r => by
    unfold putL
    split
    · rw [List.any_cons, List.any_cons]; rfl
    · rw [List.any_cons, List.any_cons, putL_any name hsh t v r]
theorem putL_find_same (name : Str) (hsh : Int) (t : Tok) (v : Value) : ∀ es : List DictEntry, ((putL name hsh (.str name t) v es).find? (·.key.isStr name)).map (·.val) = some v
  | [] => by
    unfold putL
    rw [List.find?_cons]
    simp [isStr_str]
  | e :: r => by
    unfold putL
    split
    · rename_i h; rw [List.find?_cons]; simp [h]
    · rename_i h; rw [List.find?_cons]; simp only [h]; exact putL_find_same name hsh t v r
theorem putL_find_other {nm name : Str} (hn : name ≠ nm) (hsh : Int) (t : Tok) (v : Value) : ∀ es : List DictEntry, (putL name hsh (.str name t) v es).find? (·.key.isStr nm) = es.find? (·.key.isStr nm)
  | [] => by
    unfold putL
    rw [List.find?_cons]
    have : (name == nm) = false := beq_eq_false_iff_ne.mpr hn
    simp only [isStr_str, this]
  | e :: r => by
    unfold putL
    split
    · rename_i h
      have := isStr_other h hn
      rw [List.find?_cons, List.find?_cons]; simp only [this]
    · rw [List.find?_cons, List.find?_cons, putL_find_other hn hsh t v r]
theorem getL_put {name : Str} {hsh : Int} {t : Tok} {v : Value} {es : List DictEntry} {a : Str → Option Value} (h : ∀ nm, getL nm es = some (a nm)) (nm : Str) : getL nm (putL name hsh (.str name t) v es) = some (if nm = name then some v else a nm) := by
  by_cases hn : nm = name
  · subst hn
    have := putL_find_same nm hsh t v es
    unfold getL
    cases q : (putL nm hsh (.str nm t) v es).find? (·.key.isStr nm) with
    | none => rw [q] at this; cases this
    | some e => rw [q] at this; rw [if_pos rfl]; exact congrArg some this
  · rw [if_neg hn, ← h nm]
    unfold getL
    rw [putL_find_other (Ne.symm hn), putL_any]
section
variable {prog : Program} {w : World} {A : Around} {E : Value → Shared → Prop} {s : Shared} {K : Frag} {x C dx L : Addr} {g : Heap} {m : Str → Option Value} {name : Str} {v : Value} {expr : Bool} {news news' : List (Addr × Obj)} {es : List DictEntry} {n : Nat}
theorem attr_cls_news {c : Value} {Q : Value → Shared → Prop} (F : Fr g L s.heap m) (X : K.In g) (N : News g L s.heap news) (h1 : (x, instObj C dx) ∈ news) (h2 : (dx, dictOf es n) ∈ news) (hl : getL name es = some none) (hg : plainGet K C name = true) (hh : hasDictIn K C = true)
    (ha : findIn K (.ref C) name = some (some c)) (hn : specialIn K c "__get__" = some none) (hv : handedIn c = true) (hc : copiedNames.contains name = false) (h : Q c { s with toks := s.toks + 1 }) :
    wpAny (model prog w) A (getAttr (.ref x) name expr) Q E s :=
  get_value (od := some (dictOf es n)) (X.keeps F.keep) (InstAt.of_news N h1 h2) (plainGet_of hg).1 (findObj_cls hh ha hn hv hc ((lookIn_dict name es n).trans hl)) hv h
end
section
set_option hygiene false in
local macro_rules | `(tactic| walk_at "mine:isC") => `(tactic| first | k_is | (rcases hC1 with hCC | hCC <;> subst hCC <;> k_is) | (rcases hC2 with hCC | hCC <;> subst hCC <;> k_is) | (rcases hC3 with hCC | hCC <;> subst hCC <;> k_is))
local macro_rules | `(tactic| walk_at "getAttr ref") => `(tactic| (k_here; k_dflt (
  refine' attr_cls_news ?k1 ?k2 ?k3 ?j1 ?j2 ?k4 ?k5 ?k6 ?k7 ?k8 ?k9 ?k10 ?_; (case k1 => k_asm); (case k2 => k_asm); (case k3 => k_asm); (case j1 => k_mem); (case j2 => k_mem); (case k4 => with_reducible assumption); (case k5 => walk_at "mine:isC"); (case k6 => walk_at "mine:isC"); (case k7 => walk_at "mine:isC"); (case k8 => walk_at "mine:isC"); (case k9 => k_handed); (case k10 => decide +kernel); k_whole)))
set_option hygiene false in
local macro_rules | `(tactic| walk_at "mine:have") => `(tactic| first | (rw [p1]; rfl) | (rw [p2]; rfl) | (rw [p3]; rfl))
local macro_rules | `(tactic| walk_at "setAttr ref") => `(tactic| (k_here; (with_reducible show wpAny _ _ (setAttr (Value.ref _) (Str.ofString "parent") _) _ _ _); k_dflt (
  refine' set_dict ?F ?X ?N ?I ?d ?hs ?hp ?ht ?hh ?hl ?e ?U ?hz ?_; (case F => k_asm); (case X => k_asm); (case N => k_asm); (case I => k_inst); (case d => exact rfl); (case hs => walk_at "mine:isC"); (case hp => walk_at "mine:isC"); (case ht => walk_at "mine:isC"); (case hh => walk_at "mine:isC"); (case hl => walk_at "mine:have"); (case e => exact rfl); (case U => k_upd); (case hz => exact Nat.le_trans (putL_length ..) (by omega)); k_whole); intro h' F' N'; (try k_sweep)))
theorem updF_all {d : Addr} {o o' : Obj} {news : List (Addr × Obj)} {up : Obj → List (Addr × Obj)} {P : Addr × Obj → Prop} (U : UpdF d o news up) (hP : ∀ p ∈ news, p.1 ≠ d → P p) (ho : P (d, o')) : ∀ p ∈ up o', P p := by
  obtain ⟨pre, post, rfl, hup, a, b⟩ := U.split
  rw [hup]
  intro p hp
  rcases List.mem_append.mp hp with hp | hp
  · exact hP p (List.mem_append.mpr (.inl hp)) (a p hp)
  · rcases List.mem_cons.mp hp with rfl | hp
    · exact ho
    · exact hP p (List.mem_append.mpr (.inr (.tail _ hp))) (b p hp)
theorem back_butP {g h h' : Heap} {L : Addr} {P : Addr → Prop} {m : Str → Option Value} {news news' : List (Addr × Obj)} (hg : g = hideAll h (news.map (·.1))) (hN : ∀ p ∈ news, h.get? p.1 = some p.2) (F : Fr g L h' m) (N : News g L h' news') (hs : ∀ p ∈ news, ¬ P p.1 → p ∈ news') :
    ∀ b o, ¬ P b → h.get? b = some o → h'.get? b = some o := by
  subst hg
  intro b o hD e
  by_cases hb : b ∈ news.map (·.1)
  · obtain ⟨p, hp, rfl⟩ := List.mem_map.mp hb
    have := hN p hp
    rw [e] at this
    rw [Option.some.inj this]
    exact (N p (hs p hp hD)).1
  · exact F.keep b o (hideAll_get _ e hb)
theorem hide_new {h g : Heap} {as : List Addr} {D : Addr} (hg : g = hideAll h as) (hn : g.get? D = none) (hd : D ∉ as) : h.get? D = none := by
  cases q : h.get? D with
  | none => rfl
  | some o => rw [hg, hideAll_get _ q hd] at hn; cases hn
theorem not_mem_of {news : List (Addr × Obj)} {D : Addr} (h : ∀ p ∈ news, p.1 ≠ D) : D ∉ news.map (·.1) := fun q => by
  obtain ⟨p, hp, e⟩ := List.mem_map.mp q
  exact h p hp e
local macro_rules | `(tactic| walk_at "mine:stay") => `(tactic| first | exact List.forall_mem_nil _ | (refine List.forall_mem_cons.mpr ⟨?_, ?_⟩; (first | (exact fun _ => by k_mem) | exact fun q => absurd (by simp) q); walk_at "mine:stay"))
section
variable {w : World} {H₀ : Heap} {mean : ExcName → Option Value} {mg mb : Str → Option Value}
theorem node_init_0 (G : Gd w H₀ mean mg mb) {s : Shared} (st : H₀.StaysIn s.heap) {dp un : Nat} {outer : List Env} {x dx Lc : Addr} {k tk nl : Nat} {R : Result → Shared → Prop}
    (hx : s.heap.get? x = some (instObj 225 dx)) (hx0 : H₀.get? x = none) (hdx : s.heap.get? dx = some (dictOf [] 0)) (hdx0 : H₀.get? dx = none) (hL : s.heap.get? Lc = some (listOf (List.toArray []) nl)) (hL0 : H₀.get? Lc = none)
    (q0 : @LT.lt Nat _ dx x) (qL : @LT.lt Nat _ Lc dx) 
    (hd : dp + 5 < recursionLimit)
    (hR : ∀ h' tks es n l nl' (a : Str → Option Value), (∀ b o, b ≠ dx → s.heap.get? b = some o → h'.get? b = some o) → h'.get? dx = some (dictOf es n) → es.length ≤ 20 → (∀ nm, getL nm es = some (a nm)) → h'.get? l = some (listOf (List.toArray []) nl') → s.heap.get? l = none → @LT.lt Nat _ x l →
      (a (Str.ofString "type") = some (.int (300 + k) tk) ∧ a (Str.ofString "children") = some (.ref l) ∧ a (Str.ofString "parent") = none ∧ ∀ nm, nodeKeys.contains nm = false → a nm = none) → R (.ok (.ret .none)) { s with heap := h', toks := tks }) :
    codeAny (model PG w) (Ar dp un outer) (.call (.ref 151) ⟨[.ref x, .int (300 + k) tk, .ref Lc], []⟩) R s := by
  have hN : ∀ q ∈ [(x, instObj 225 dx), (dx, dictOf [] 0), (Lc, listOf (List.toArray []) nl)], s.heap.get? q.1 = some q.2 ∧ H₀.get? q.1 = none := List.forall_mem_cons.mpr ⟨⟨hx, hx0⟩, List.forall_mem_cons.mpr ⟨⟨hdx, hdx0⟩, List.forall_mem_cons.mpr ⟨⟨hL, hL0⟩, List.forall_mem_nil _⟩⟩⟩
  have hN1 := fun q hq => (hN q hq).1
  refine' enter _ ?k1 ?k2 ?k3 hN ?k5 ?k6 ?k7 ?k8 ?k9 ?_ ?c1 ?c2 ?c3 ?c4
  (case k1 => exact Gd.X G)
  (case k2 => exact Gd.T G)
  (case k3 => exact st)
  (case k5 => k_is)
  (case k6 => k_is)
  (case k7 => k_room)
  (case k8 => exact binds_K (G.X.keeps st) rfl (by k_is) rfl rfl rfl)
  (case k9 => exact locs rfl)
  (case c1 => exact rfl)
  (case c2 => exact rfl)
  (case c3 => exact rfl)
  (case c4 => decide)
  clear hx hx0 hdx hdx0 hL hL0
  intro g' L' h'' hg Xg Tg F'' N'' lt'
  (try dsimp only); (try k_fold)
  simp only [AllLt, and_true] at lt'
  k_steps
  rename News _ _ _ _ => NN
  rename Fr _ _ _ _ => FF
  all_goals (
    refine hR _ _ _ _ _ _ (entA [(Str.ofString "notes", _), (Str.ofString "type", _), (Str.ofString "children", _), (Str.ofString "fixers_applied", _)]) (fun b o r0 => back_butP (P := fun b => b = dx) hg hN1 FF NN (by walk_at "mine:stay") b o (by exact r0)) (NN _ (.tail _ (.tail _ (.tail _ (.head _))))).1 (by simp only [List.length_cons, List.length_nil]; omega) (fun nm => getL_step (getL_step (getL_step (getL_step (getL_nil nm))))) (NN _ (.head _)).1 (hide_new hg (NN _ (.head _)).2.2 (not_mem_of (by k_all))) (by omega) ⟨rfl, rfl, rfl, fun nm h => entA_none h (by kernel_rfl)⟩
  )
theorem node_use_0 (G : Gd w H₀ mean mg mb) {g : Heap} {L : Addr} {mm : Str → Option Value} {news : List (Addr × Obj)} {E : Value → Shared → Prop} {Q : Value → Shared → Prop} {s : Shared} {dp un : Nat} {outer : List Env} {Lc  : Addr} {k tk nl : Nat} 
    (F : Fr g L s.heap mm) (N : News g L s.heap news) (X : (Mine.hd.heap_39 w.params).In g) (st : H₀.StaysIn g) (hLm : (Lc, listOf (List.toArray []) nl) ∈ news)
     
    (hd : dp + 6 < recursionLimit)
    (kk : ∀ x dx h' tks es n l nl' (a : Str → Option Value), Fr g L h' mm → News g L h' ((l, listOf (List.toArray []) nl') :: (x, instObj 225 dx) :: (dx, dictOf es n) :: news) → (∀ p ∈ news, p.1 < dx) → @LT.lt Nat _ dx x → @LT.lt Nat _ x l → es.length ≤ 20 → (∀ nm, getL nm es = some (a nm)) →
      (a (Str.ofString "type") = some (.int (300 + k) tk) ∧ a (Str.ofString "children") = some (.ref l) ∧ a (Str.ofString "parent") = none ∧ ∀ nm, nodeKeys.contains nm = false → a nm = none) → Q (.ref x) { s with heap := h', toks := tks }) :
    wpAny (model PG w) (Ar dp un outer) (call (.ref 225) [.int (300 + k) tk, .ref Lc]) Q E s := by
  refine' call_cls F X N ?h1 ?h2 ?h3 fun x dx h' F' N' lt lt2 => ?_
  (case h1 => k_is)
  (case h2 => k_is)
  (case h3 => k_is)
  have lt2' : @LT.lt Nat _ dx x := lt2
  have n0 : ∀ p : Addr × Obj, g.get? p.1 = none → H₀.get? p.1 = none := fun p hp => by
    cases q : H₀.get? p.1 with
    | none => rfl
    | some o => rw [st _ _ q] at hp; cases hp
  have gg : ∀ p ∈ ((x, instObj 225 dx) :: (dx, dictOf [] 0) :: news), h'.get? p.1 = some p.2 ∧ H₀.get? p.1 = none := fun p hp => ⟨(N' p hp).1, n0 p (N' p hp).2.2⟩
  have st' : H₀.StaysIn h' := fun b o e => F'.keep b o (st b o e)
  have ltL : @LT.lt Nat _ Lc dx := lt _ hLm
  have m : ∀ {q}, q ∈ news → q ∈ ((x, instObj 225 dx) :: (dx, dictOf [] 0) :: news) := fun h => .tail _ (.tail _ h)
  refine node_init_0 (s := { s with heap := h' }) G st' (gg _ (.head _)).1 (gg _ (.head _)).2 (gg _ (.tail _ (.head _))).1 (gg _ (.tail _ (.head _))).2 (gg _ (m hLm)).1 (gg _ (m hLm)).2 lt2' ltL (show dp + 1 + 5 < recursionLimit from hd) fun h'' tks es n l nl' a kp  D1 D2 D3 D4 D5 D6 D7 => And.intro rfl ?_
  have kpg : ∀ b o, g.get? b = some o → h''.get? b = some o := fun b o e => kp b o (fun q => by have z := (N' (dx, dictOf [] 0) (.tail _ (.head _))).2.2; rw [q] at e; rw [z] at e; cases e)  (F'.keep b o e)
  have F'' : Fr g L h'' mm := ⟨let ⟨o, es, ep, e, r⟩ := F'.ns; ⟨o, es, ep, kp _ _ (Ne.symm (N' (dx, dictOf [] 0) (.tail _ (.head _))).2.1)  e, r⟩, kpg, F'.above⟩
  have nl0 : h'.get? l = none := D5
  have lL : l ≠ L := fun q => by
    obtain ⟨o, es, ep, e, r⟩ := F'.ns
    rw [← q, nl0] at e; cases e
  have lg : g.get? l = none := by
    cases q : g.get? l with
    | none => rfl
    | some o => rw [F'.keep _ _ q] at nl0; cases nl0
  have B0 : ∀ p ∈ news, (h''.get? p.1 = some p.2 ∧ p.1 ≠ L ∧ g.get? p.1 = none) := fun p hp  => ⟨kp _ _ (fun q => by have z := lt p hp; rw [q] at z; exact absurd z (Nat.lt_irrefl _))  (N' p (m hp)).1, (N p hp).2⟩
  refine kk x dx h'' tks es n l nl' a  F'' ?_ lt lt2' D6 D2 D3 D7
  intro p hp
  rcases List.mem_cons.mp hp with rfl | hp
  · exact ⟨D4, lL, lg⟩
  rcases List.mem_cons.mp hp with rfl | hp
  · refine ⟨kp _ _ (Nat.ne_of_gt lt2')  (N' _ (.head _)).1, (N' _ (.head _)).2⟩
  rcases List.mem_cons.mp hp with rfl | hp
  · exact ⟨D1, (N' (dx, dictOf [] 0) (.tail _ (.head _))).2⟩
  exact B0 p hp
theorem node_init_1 (G : Gd w H₀ mean mg mb) {s : Shared} (st : H₀.StaysIn s.heap) {dp un : Nat} {outer : List Env} {x dx Lc c1 d1 : Addr} {k tk nl : Nat} {C1 : Addr} {e1 : List DictEntry} {n1 : Nat} {R : Result → Shared → Prop}
    (hx : s.heap.get? x = some (instObj 225 dx)) (hx0 : H₀.get? x = none) (hdx : s.heap.get? dx = some (dictOf [] 0)) (hdx0 : H₀.get? dx = none) (hL : s.heap.get? Lc = some (listOf (List.toArray [.ref c1]) nl)) (hL0 : H₀.get? Lc = none)
    (hc1 : s.heap.get? c1 = some (instObj C1 d1)) (hc10 : H₀.get? c1 = none) (hd1 : s.heap.get? d1 = some (dictOf e1 n1)) (hd10 : H₀.get? d1 = none) (hC1 : C1 = 225 ∨ C1 = 305) (p1 : getL (Str.ofString "parent") e1 = some none) (z1 : e1.length ≤ 20)
    (q0 : @LT.lt Nat _ d1 c1) (q1 : @LT.lt Nat _ c1 dx) (q2 : @LT.lt Nat _ dx x) (qL : @LT.lt Nat _ Lc dx) (qc1 : @Ne Nat Lc c1) (qd1 : @Ne Nat Lc d1)
    (hd : dp + 5 < recursionLimit)
    (hR : ∀ h' tks es n l nl' (a : Str → Option Value), (∀ b o, b ≠ dx → b ≠ d1 → s.heap.get? b = some o → h'.get? b = some o) → (∃ hsh t m, h'.get? d1 = some (dictOf (putL (Str.ofString "parent") hsh (.str (Str.ofString "parent") t) (.ref x) e1) m)) → h'.get? dx = some (dictOf es n) → es.length ≤ 20 → (∀ nm, getL nm es = some (a nm)) → h'.get? l = some (listOf (List.toArray [.ref c1]) nl') → s.heap.get? l = none → @LT.lt Nat _ x l →
      (a (Str.ofString "type") = some (.int (300 + k) tk) ∧ a (Str.ofString "children") = some (.ref l) ∧ a (Str.ofString "parent") = none ∧ ∀ nm, nodeKeys.contains nm = false → a nm = none) → R (.ok (.ret .none)) { s with heap := h', toks := tks }) :
    codeAny (model PG w) (Ar dp un outer) (.call (.ref 151) ⟨[.ref x, .int (300 + k) tk, .ref Lc], []⟩) R s := by
  have hN : ∀ q ∈ [(x, instObj 225 dx), (dx, dictOf [] 0), (Lc, listOf (List.toArray [.ref c1]) nl), (c1, instObj C1 d1), (d1, dictOf e1 n1)], s.heap.get? q.1 = some q.2 ∧ H₀.get? q.1 = none := List.forall_mem_cons.mpr ⟨⟨hx, hx0⟩, List.forall_mem_cons.mpr ⟨⟨hdx, hdx0⟩, List.forall_mem_cons.mpr ⟨⟨hL, hL0⟩, List.forall_mem_cons.mpr ⟨⟨hc1, hc10⟩, List.forall_mem_cons.mpr ⟨⟨hd1, hd10⟩, List.forall_mem_nil _⟩⟩⟩⟩⟩
  have hN1 := fun q hq => (hN q hq).1
  refine' enter _ ?k1 ?k2 ?k3 hN ?k5 ?k6 ?k7 ?k8 ?k9 ?_ ?c1 ?c2 ?c3 ?c4
  (case k1 => exact Gd.X G)
  (case k2 => exact Gd.T G)
  (case k3 => exact st)
  (case k5 => k_is)
  (case k6 => k_is)
  (case k7 => k_room)
  (case k8 => exact binds_K (G.X.keeps st) rfl (by k_is) rfl rfl rfl)
  (case k9 => exact locs rfl)
  (case c1 => exact rfl)
  (case c2 => exact rfl)
  (case c3 => exact rfl)
  (case c4 => decide)
  clear hx hx0 hdx hdx0 hL hL0 hc1 hc10 hd1 hd10
  intro g' L' h'' hg Xg Tg F'' N'' lt'
  (try dsimp only); (try k_fold)
  simp only [AllLt, and_true] at lt'
  k_steps
  rename News _ _ _ _ => NN
  rename Fr _ _ _ _ => FF
  have M1 := NN (d1, _) (by k_mem)
  all_goals (
    refine hR _ _ _ _ _ _ (entA [(Str.ofString "notes", _), (Str.ofString "type", _), (Str.ofString "children", _), (Str.ofString "fixers_applied", _)]) (fun b o r0 r1 => back_butP (P := fun b => b = dx ∨ b = d1) hg hN1 FF NN (by walk_at "mine:stay") b o (by simp only [not_or]; exact ⟨r0, r1⟩)) ⟨_, _, _, M1.1⟩ (NN _ (.tail _ (.tail _ (.tail _ (.head _))))).1 (by simp only [List.length_cons, List.length_nil]; omega) (fun nm => getL_step (getL_step (getL_step (getL_step (getL_nil nm))))) (NN _ (.head _)).1 (hide_new hg (NN _ (.head _)).2.2 (not_mem_of (by k_all))) (by omega) ⟨rfl, rfl, rfl, fun nm h => entA_none h (by kernel_rfl)⟩
  )
theorem node_use_1 (G : Gd w H₀ mean mg mb) {g : Heap} {L : Addr} {mm : Str → Option Value} {news : List (Addr × Obj)} {E : Value → Shared → Prop} {Q : Value → Shared → Prop} {s : Shared} {dp un : Nat} {outer : List Env} {Lc c1 d1 C1 : Addr} {k tk nl : Nat} {e1 : List DictEntry} {n1 : Nat} {up1 : Obj → List (Addr × Obj)}
    (F : Fr g L s.heap mm) (N : News g L s.heap news) (X : (Mine.hd.heap_39 w.params).In g) (st : H₀.StaysIn g) (hLm : (Lc, listOf (List.toArray [.ref c1]) nl) ∈ news)
    (hc1 : (c1, instObj C1 d1) ∈ news) (hd1 : (d1, dictOf e1 n1) ∈ news) (hC1 : C1 = 225 ∨ C1 = 305) (p1 : getL (Str.ofString "parent") e1 = some none) (z1 : e1.length ≤ 20) (U1 : UpdF d1 (dictOf e1 n1) news up1)
    (q0 : @LT.lt Nat _ d1 c1) (qc1 : @Ne Nat Lc c1) (qd1 : @Ne Nat Lc d1)
    (hd : dp + 6 < recursionLimit)
    (kk : ∀ x dx h' tks es n l nl' (a : Str → Option Value), ∀ o1 hsh1 t1 m1, o1 = dictOf (putL (Str.ofString "parent") hsh1 (.str (Str.ofString "parent") t1) (.ref x) e1) m1 → Fr g L h' mm → News g L h' ((l, listOf (List.toArray [.ref c1]) nl') :: (x, instObj 225 dx) :: (dx, dictOf es n) :: up1 o1) → (∀ p ∈ news, p.1 < dx) → @LT.lt Nat _ dx x → @LT.lt Nat _ x l → es.length ≤ 20 → (∀ nm, getL nm es = some (a nm)) →
      (a (Str.ofString "type") = some (.int (300 + k) tk) ∧ a (Str.ofString "children") = some (.ref l) ∧ a (Str.ofString "parent") = none ∧ ∀ nm, nodeKeys.contains nm = false → a nm = none) → Q (.ref x) { s with heap := h', toks := tks }) :
    wpAny (model PG w) (Ar dp un outer) (call (.ref 225) [.int (300 + k) tk, .ref Lc]) Q E s := by
  refine' call_cls F X N ?h1 ?h2 ?h3 fun x dx h' F' N' lt lt2 => ?_
  (case h1 => k_is)
  (case h2 => k_is)
  (case h3 => k_is)
  have lt2' : @LT.lt Nat _ dx x := lt2
  have n0 : ∀ p : Addr × Obj, g.get? p.1 = none → H₀.get? p.1 = none := fun p hp => by
    cases q : H₀.get? p.1 with
    | none => rfl
    | some o => rw [st _ _ q] at hp; cases hp
  have gg : ∀ p ∈ ((x, instObj 225 dx) :: (dx, dictOf [] 0) :: news), h'.get? p.1 = some p.2 ∧ H₀.get? p.1 = none := fun p hp => ⟨(N' p hp).1, n0 p (N' p hp).2.2⟩
  have st' : H₀.StaysIn h' := fun b o e => F'.keep b o (st b o e)
  have ltL : @LT.lt Nat _ Lc dx := lt _ hLm
  have m : ∀ {q}, q ∈ news → q ∈ ((x, instObj 225 dx) :: (dx, dictOf [] 0) :: news) := fun h => .tail _ (.tail _ h)
  refine node_init_1 (s := { s with heap := h' }) G st' (gg _ (.head _)).1 (gg _ (.head _)).2 (gg _ (.tail _ (.head _))).1 (gg _ (.tail _ (.head _))).2 (gg _ (m hLm)).1 (gg _ (m hLm)).2 (gg _ (m hc1)).1 (gg _ (m hc1)).2 (gg _ (m hd1)).1 (gg _ (m hd1)).2 hC1 p1 z1 q0 (lt _ hc1) lt2' ltL qc1 qd1 (show dp + 1 + 5 < recursionLimit from hd) fun h'' tks es n l nl' a kp M1 D1 D2 D3 D4 D5 D6 D7 => And.intro rfl ?_
  obtain ⟨hsh1, t1, m1, M1⟩ := M1
  have kpg : ∀ b o, g.get? b = some o → h''.get? b = some o := fun b o e => kp b o (fun q => by have z := (N' (dx, dictOf [] 0) (.tail _ (.head _))).2.2; rw [q] at e; rw [z] at e; cases e) (fun q => by have z := (N _ hd1).2.2; rw [q] at e; rw [z] at e; cases e) (F'.keep b o e)
  have F'' : Fr g L h'' mm := ⟨let ⟨o, es, ep, e, r⟩ := F'.ns; ⟨o, es, ep, kp _ _ (Ne.symm (N' (dx, dictOf [] 0) (.tail _ (.head _))).2.1) (Ne.symm (N _ hd1).2.1) e, r⟩, kpg, F'.above⟩
  have nl0 : h'.get? l = none := D5
  have lL : l ≠ L := fun q => by
    obtain ⟨o, es, ep, e, r⟩ := F'.ns
    rw [← q, nl0] at e; cases e
  have lg : g.get? l = none := by
    cases q : g.get? l with
    | none => rfl
    | some o => rw [F'.keep _ _ q] at nl0; cases nl0
  have B0 : ∀ p ∈ news, p.1 ≠ d1 → (h''.get? p.1 = some p.2 ∧ p.1 ≠ L ∧ g.get? p.1 = none) := fun p hp r1 => ⟨kp _ _ (fun q => by have z := lt p hp; rw [q] at z; exact absurd z (Nat.lt_irrefl _)) r1 (N' p (m hp)).1, (N p hp).2⟩
  have B1 := updF_all (P := fun p => (h''.get? p.1 = some p.2 ∧ p.1 ≠ L ∧ g.get? p.1 = none)) (o' := dictOf (putL (Str.ofString "parent") hsh1 (.str (Str.ofString "parent") t1) (.ref x) e1) m1) (U1) (fun p hp r1  => B0 p hp r1 ) (⟨M1, (N _ hd1).2⟩)
  refine kk x dx h'' tks es n l nl' a _ hsh1 t1 m1 rfl F'' ?_ lt lt2' D6 D2 D3 D7
  intro p hp
  rcases List.mem_cons.mp hp with rfl | hp
  · exact ⟨D4, lL, lg⟩
  rcases List.mem_cons.mp hp with rfl | hp
  · refine ⟨kp _ _ (Nat.ne_of_gt lt2') (Nat.ne_of_gt (Nat.lt_trans (lt _ hd1) lt2)) (N' _ (.head _)).1, (N' _ (.head _)).2⟩
  rcases List.mem_cons.mp hp with rfl | hp
  · exact ⟨D1, (N' (dx, dictOf [] 0) (.tail _ (.head _))).2⟩
  exact B1 p hp
theorem node_init_2 (G : Gd w H₀ mean mg mb) {s : Shared} (st : H₀.StaysIn s.heap) {dp un : Nat} {outer : List Env} {x dx Lc c1 c2 d1 d2 : Addr} {k tk nl : Nat} {C1 C2 : Addr} {e1 e2 : List DictEntry} {n1 n2 : Nat} {R : Result → Shared → Prop}
    (hx : s.heap.get? x = some (instObj 225 dx)) (hx0 : H₀.get? x = none) (hdx : s.heap.get? dx = some (dictOf [] 0)) (hdx0 : H₀.get? dx = none) (hL : s.heap.get? Lc = some (listOf (List.toArray [.ref c1, .ref c2]) nl)) (hL0 : H₀.get? Lc = none)
    (hc1 : s.heap.get? c1 = some (instObj C1 d1)) (hc10 : H₀.get? c1 = none) (hd1 : s.heap.get? d1 = some (dictOf e1 n1)) (hd10 : H₀.get? d1 = none) (hC1 : C1 = 225 ∨ C1 = 305) (p1 : getL (Str.ofString "parent") e1 = some none) (z1 : e1.length ≤ 20)
    (hc2 : s.heap.get? c2 = some (instObj C2 d2)) (hc20 : H₀.get? c2 = none) (hd2 : s.heap.get? d2 = some (dictOf e2 n2)) (hd20 : H₀.get? d2 = none) (hC2 : C2 = 225 ∨ C2 = 305) (p2 : getL (Str.ofString "parent") e2 = some none) (z2 : e2.length ≤ 20)
    (q0 : @LT.lt Nat _ d1 c1) (q1 : @LT.lt Nat _ c1 d2) (q2 : @LT.lt Nat _ d2 c2) (q3 : @LT.lt Nat _ c2 dx) (q4 : @LT.lt Nat _ dx x) (qL : @LT.lt Nat _ Lc dx) (qc1 : @Ne Nat Lc c1) (qd1 : @Ne Nat Lc d1) (qc2 : @Ne Nat Lc c2) (qd2 : @Ne Nat Lc d2)
    (hd : dp + 5 < recursionLimit)
    (hR : ∀ h' tks es n l nl' (a : Str → Option Value), (∀ b o, b ≠ dx → b ≠ d1 → b ≠ d2 → s.heap.get? b = some o → h'.get? b = some o) → (∃ hsh t m, h'.get? d1 = some (dictOf (putL (Str.ofString "parent") hsh (.str (Str.ofString "parent") t) (.ref x) e1) m)) → (∃ hsh t m, h'.get? d2 = some (dictOf (putL (Str.ofString "parent") hsh (.str (Str.ofString "parent") t) (.ref x) e2) m)) → h'.get? dx = some (dictOf es n) → es.length ≤ 20 → (∀ nm, getL nm es = some (a nm)) → h'.get? l = some (listOf (List.toArray [.ref c1, .ref c2]) nl') → s.heap.get? l = none → @LT.lt Nat _ x l →
      (a (Str.ofString "type") = some (.int (300 + k) tk) ∧ a (Str.ofString "children") = some (.ref l) ∧ a (Str.ofString "parent") = none ∧ ∀ nm, nodeKeys.contains nm = false → a nm = none) → R (.ok (.ret .none)) { s with heap := h', toks := tks }) :
    codeAny (model PG w) (Ar dp un outer) (.call (.ref 151) ⟨[.ref x, .int (300 + k) tk, .ref Lc], []⟩) R s := by
  have hN : ∀ q ∈ [(x, instObj 225 dx), (dx, dictOf [] 0), (Lc, listOf (List.toArray [.ref c1, .ref c2]) nl), (c1, instObj C1 d1), (d1, dictOf e1 n1), (c2, instObj C2 d2), (d2, dictOf e2 n2)], s.heap.get? q.1 = some q.2 ∧ H₀.get? q.1 = none := List.forall_mem_cons.mpr ⟨⟨hx, hx0⟩, List.forall_mem_cons.mpr ⟨⟨hdx, hdx0⟩, List.forall_mem_cons.mpr ⟨⟨hL, hL0⟩, List.forall_mem_cons.mpr ⟨⟨hc1, hc10⟩, List.forall_mem_cons.mpr ⟨⟨hd1, hd10⟩, List.forall_mem_cons.mpr ⟨⟨hc2, hc20⟩, List.forall_mem_cons.mpr ⟨⟨hd2, hd20⟩, List.forall_mem_nil _⟩⟩⟩⟩⟩⟩⟩
  have hN1 := fun q hq => (hN q hq).1
  refine' enter _ ?k1 ?k2 ?k3 hN ?k5 ?k6 ?k7 ?k8 ?k9 ?_ ?c1 ?c2 ?c3 ?c4
  (case k1 => exact Gd.X G)
  (case k2 => exact Gd.T G)
  (case k3 => exact st)
  (case k5 => k_is)
  (case k6 => k_is)
  (case k7 => k_room)
  (case k8 => exact binds_K (G.X.keeps st) rfl (by k_is) rfl rfl rfl)
  (case k9 => exact locs rfl)
  (case c1 => exact rfl)
  (case c2 => exact rfl)
  (case c3 => exact rfl)
  (case c4 => decide)
  clear hx hx0 hdx hdx0 hL hL0 hc1 hc10 hd1 hd10 hc2 hc20 hd2 hd20
  intro g' L' h'' hg Xg Tg F'' N'' lt'
  (try dsimp only); (try k_fold)
  simp only [AllLt, and_true] at lt'
  k_steps
  rename News _ _ _ _ => NN
  rename Fr _ _ _ _ => FF
  have M1 := NN (d1, _) (by k_mem)
  have M2 := NN (d2, _) (by k_mem)
  all_goals (
    refine hR _ _ _ _ _ _ (entA [(Str.ofString "notes", _), (Str.ofString "type", _), (Str.ofString "children", _), (Str.ofString "fixers_applied", _)]) (fun b o r0 r1 r2 => back_butP (P := fun b => b = dx ∨ b = d1 ∨ b = d2) hg hN1 FF NN (by walk_at "mine:stay") b o (by simp only [not_or]; exact ⟨r0, r1, r2⟩)) ⟨_, _, _, M1.1⟩ ⟨_, _, _, M2.1⟩ (NN _ (.tail _ (.tail _ (.tail _ (.head _))))).1 (by simp only [List.length_cons, List.length_nil]; omega) (fun nm => getL_step (getL_step (getL_step (getL_step (getL_nil nm))))) (NN _ (.head _)).1 (hide_new hg (NN _ (.head _)).2.2 (not_mem_of (by k_all))) (by omega) ⟨rfl, rfl, rfl, fun nm h => entA_none h (by kernel_rfl)⟩
  )
theorem node_use_2 (G : Gd w H₀ mean mg mb) {g : Heap} {L : Addr} {mm : Str → Option Value} {news : List (Addr × Obj)} {E : Value → Shared → Prop} {Q : Value → Shared → Prop} {s : Shared} {dp un : Nat} {outer : List Env} {Lc c1 d1 C1 c2 d2 C2 : Addr} {k tk nl : Nat} {e1 e2 : List DictEntry} {n1 n2 : Nat} {up1 : Obj → List (Addr × Obj)} {up2 : Obj → Obj → List (Addr × Obj)}
    (F : Fr g L s.heap mm) (N : News g L s.heap news) (X : (Mine.hd.heap_39 w.params).In g) (st : H₀.StaysIn g) (hLm : (Lc, listOf (List.toArray [.ref c1, .ref c2]) nl) ∈ news)
    (hc1 : (c1, instObj C1 d1) ∈ news) (hd1 : (d1, dictOf e1 n1) ∈ news) (hC1 : C1 = 225 ∨ C1 = 305) (p1 : getL (Str.ofString "parent") e1 = some none) (z1 : e1.length ≤ 20) (U1 : UpdF d1 (dictOf e1 n1) news up1)
    (hc2 : (c2, instObj C2 d2) ∈ news) (hd2 : (d2, dictOf e2 n2) ∈ news) (hC2 : C2 = 225 ∨ C2 = 305) (p2 : getL (Str.ofString "parent") e2 = some none) (z2 : e2.length ≤ 20) (U2 : ∀ a1, UpdF d2 (dictOf e2 n2) (up1 a1) (up2 a1))
    (q0 : @LT.lt Nat _ d1 c1) (q1 : @LT.lt Nat _ c1 d2) (q2 : @LT.lt Nat _ d2 c2) (qc1 : @Ne Nat Lc c1) (qd1 : @Ne Nat Lc d1) (qc2 : @Ne Nat Lc c2) (qd2 : @Ne Nat Lc d2)
    (hd : dp + 6 < recursionLimit)
    (kk : ∀ x dx h' tks es n l nl' (a : Str → Option Value), ∀ o1 hsh1 t1 m1, o1 = dictOf (putL (Str.ofString "parent") hsh1 (.str (Str.ofString "parent") t1) (.ref x) e1) m1 → ∀ o2 hsh2 t2 m2, o2 = dictOf (putL (Str.ofString "parent") hsh2 (.str (Str.ofString "parent") t2) (.ref x) e2) m2 → Fr g L h' mm → News g L h' ((l, listOf (List.toArray [.ref c1, .ref c2]) nl') :: (x, instObj 225 dx) :: (dx, dictOf es n) :: up2 o1 o2) → (∀ p ∈ news, p.1 < dx) → @LT.lt Nat _ dx x → @LT.lt Nat _ x l → es.length ≤ 20 → (∀ nm, getL nm es = some (a nm)) →
      (a (Str.ofString "type") = some (.int (300 + k) tk) ∧ a (Str.ofString "children") = some (.ref l) ∧ a (Str.ofString "parent") = none ∧ ∀ nm, nodeKeys.contains nm = false → a nm = none) → Q (.ref x) { s with heap := h', toks := tks }) :
    wpAny (model PG w) (Ar dp un outer) (call (.ref 225) [.int (300 + k) tk, .ref Lc]) Q E s := by
  refine' call_cls F X N ?h1 ?h2 ?h3 fun x dx h' F' N' lt lt2 => ?_
  (case h1 => k_is)
  (case h2 => k_is)
  (case h3 => k_is)
  have lt2' : @LT.lt Nat _ dx x := lt2
  have n0 : ∀ p : Addr × Obj, g.get? p.1 = none → H₀.get? p.1 = none := fun p hp => by
    cases q : H₀.get? p.1 with
    | none => rfl
    | some o => rw [st _ _ q] at hp; cases hp
  have gg : ∀ p ∈ ((x, instObj 225 dx) :: (dx, dictOf [] 0) :: news), h'.get? p.1 = some p.2 ∧ H₀.get? p.1 = none := fun p hp => ⟨(N' p hp).1, n0 p (N' p hp).2.2⟩
  have st' : H₀.StaysIn h' := fun b o e => F'.keep b o (st b o e)
  have ltL : @LT.lt Nat _ Lc dx := lt _ hLm
  have m : ∀ {q}, q ∈ news → q ∈ ((x, instObj 225 dx) :: (dx, dictOf [] 0) :: news) := fun h => .tail _ (.tail _ h)
  refine node_init_2 (s := { s with heap := h' }) G st' (gg _ (.head _)).1 (gg _ (.head _)).2 (gg _ (.tail _ (.head _))).1 (gg _ (.tail _ (.head _))).2 (gg _ (m hLm)).1 (gg _ (m hLm)).2 (gg _ (m hc1)).1 (gg _ (m hc1)).2 (gg _ (m hd1)).1 (gg _ (m hd1)).2 hC1 p1 z1 (gg _ (m hc2)).1 (gg _ (m hc2)).2 (gg _ (m hd2)).1 (gg _ (m hd2)).2 hC2 p2 z2 q0 q1 q2 (lt _ hc2) lt2' ltL qc1 qd1 qc2 qd2 (show dp + 1 + 5 < recursionLimit from hd) fun h'' tks es n l nl' a kp M1 M2 D1 D2 D3 D4 D5 D6 D7 => And.intro rfl ?_
  obtain ⟨hsh1, t1, m1, M1⟩ := M1
  obtain ⟨hsh2, t2, m2, M2⟩ := M2
  have kpg : ∀ b o, g.get? b = some o → h''.get? b = some o := fun b o e => kp b o (fun q => by have z := (N' (dx, dictOf [] 0) (.tail _ (.head _))).2.2; rw [q] at e; rw [z] at e; cases e) (fun q => by have z := (N _ hd1).2.2; rw [q] at e; rw [z] at e; cases e) (fun q => by have z := (N _ hd2).2.2; rw [q] at e; rw [z] at e; cases e) (F'.keep b o e)
  have F'' : Fr g L h'' mm := ⟨let ⟨o, es, ep, e, r⟩ := F'.ns; ⟨o, es, ep, kp _ _ (Ne.symm (N' (dx, dictOf [] 0) (.tail _ (.head _))).2.1) (Ne.symm (N _ hd1).2.1) (Ne.symm (N _ hd2).2.1) e, r⟩, kpg, F'.above⟩
  have nl0 : h'.get? l = none := D5
  have lL : l ≠ L := fun q => by
    obtain ⟨o, es, ep, e, r⟩ := F'.ns
    rw [← q, nl0] at e; cases e
  have lg : g.get? l = none := by
    cases q : g.get? l with
    | none => rfl
    | some o => rw [F'.keep _ _ q] at nl0; cases nl0
  have B0 : ∀ p ∈ news, p.1 ≠ d1 → p.1 ≠ d2 → (h''.get? p.1 = some p.2 ∧ p.1 ≠ L ∧ g.get? p.1 = none) := fun p hp r1 r2 => ⟨kp _ _ (fun q => by have z := lt p hp; rw [q] at z; exact absurd z (Nat.lt_irrefl _)) r1 r2 (N' p (m hp)).1, (N p hp).2⟩
  have B1 := updF_all (P := fun p => p.1 ≠ d2 → (h''.get? p.1 = some p.2 ∧ p.1 ≠ L ∧ g.get? p.1 = none)) (o' := dictOf (putL (Str.ofString "parent") hsh1 (.str (Str.ofString "parent") t1) (.ref x) e1) m1) (U1) (fun p hp r1 r2 => B0 p hp r1 r2) (fun r2 => ⟨M1, (N _ hd1).2⟩)
  have B2 := updF_all (P := fun p => (h''.get? p.1 = some p.2 ∧ p.1 ≠ L ∧ g.get? p.1 = none)) (o' := dictOf (putL (Str.ofString "parent") hsh2 (.str (Str.ofString "parent") t2) (.ref x) e2) m2) (U2 _) (fun p hp r2  => B1 p hp r2 ) (⟨M2, (N _ hd2).2⟩)
  refine kk x dx h'' tks es n l nl' a _ hsh1 t1 m1 rfl _ hsh2 t2 m2 rfl F'' ?_ lt lt2' D6 D2 D3 D7
  intro p hp
  rcases List.mem_cons.mp hp with rfl | hp
  · exact ⟨D4, lL, lg⟩
  rcases List.mem_cons.mp hp with rfl | hp
  · refine ⟨kp _ _ (Nat.ne_of_gt lt2') (Nat.ne_of_gt (Nat.lt_trans (lt _ hd1) lt2)) (Nat.ne_of_gt (Nat.lt_trans (lt _ hd2) lt2)) (N' _ (.head _)).1, (N' _ (.head _)).2⟩
  rcases List.mem_cons.mp hp with rfl | hp
  · exact ⟨D1, (N' (dx, dictOf [] 0) (.tail _ (.head _))).2⟩
  exact B2 p hp
theorem node_init_3 (G : Gd w H₀ mean mg mb) {s : Shared} (st : H₀.StaysIn s.heap) {dp un : Nat} {outer : List Env} {x dx Lc c1 c2 c3 d1 d2 d3 : Addr} {k tk nl : Nat} {C1 C2 C3 : Addr} {e1 e2 e3 : List DictEntry} {n1 n2 n3 : Nat} {R : Result → Shared → Prop}
    (hx : s.heap.get? x = some (instObj 225 dx)) (hx0 : H₀.get? x = none) (hdx : s.heap.get? dx = some (dictOf [] 0)) (hdx0 : H₀.get? dx = none) (hL : s.heap.get? Lc = some (listOf (List.toArray [.ref c1, .ref c2, .ref c3]) nl)) (hL0 : H₀.get? Lc = none)
    (hc1 : s.heap.get? c1 = some (instObj C1 d1)) (hc10 : H₀.get? c1 = none) (hd1 : s.heap.get? d1 = some (dictOf e1 n1)) (hd10 : H₀.get? d1 = none) (hC1 : C1 = 225 ∨ C1 = 305) (p1 : getL (Str.ofString "parent") e1 = some none) (z1 : e1.length ≤ 20)
    (hc2 : s.heap.get? c2 = some (instObj C2 d2)) (hc20 : H₀.get? c2 = none) (hd2 : s.heap.get? d2 = some (dictOf e2 n2)) (hd20 : H₀.get? d2 = none) (hC2 : C2 = 225 ∨ C2 = 305) (p2 : getL (Str.ofString "parent") e2 = some none) (z2 : e2.length ≤ 20)
    (hc3 : s.heap.get? c3 = some (instObj C3 d3)) (hc30 : H₀.get? c3 = none) (hd3 : s.heap.get? d3 = some (dictOf e3 n3)) (hd30 : H₀.get? d3 = none) (hC3 : C3 = 225 ∨ C3 = 305) (p3 : getL (Str.ofString "parent") e3 = some none) (z3 : e3.length ≤ 20)
    (q0 : @LT.lt Nat _ d1 c1) (q1 : @LT.lt Nat _ c1 d2) (q2 : @LT.lt Nat _ d2 c2) (q3 : @LT.lt Nat _ c2 d3) (q4 : @LT.lt Nat _ d3 c3) (q5 : @LT.lt Nat _ c3 dx) (q6 : @LT.lt Nat _ dx x) (qL : @LT.lt Nat _ Lc dx) (qc1 : @Ne Nat Lc c1) (qd1 : @Ne Nat Lc d1) (qc2 : @Ne Nat Lc c2) (qd2 : @Ne Nat Lc d2) (qc3 : @Ne Nat Lc c3) (qd3 : @Ne Nat Lc d3)
    (hd : dp + 5 < recursionLimit)
    (hR : ∀ h' tks es n l nl' (a : Str → Option Value), (∀ b o, b ≠ dx → b ≠ d1 → b ≠ d2 → b ≠ d3 → s.heap.get? b = some o → h'.get? b = some o) → (∃ hsh t m, h'.get? d1 = some (dictOf (putL (Str.ofString "parent") hsh (.str (Str.ofString "parent") t) (.ref x) e1) m)) → (∃ hsh t m, h'.get? d2 = some (dictOf (putL (Str.ofString "parent") hsh (.str (Str.ofString "parent") t) (.ref x) e2) m)) → (∃ hsh t m, h'.get? d3 = some (dictOf (putL (Str.ofString "parent") hsh (.str (Str.ofString "parent") t) (.ref x) e3) m)) → h'.get? dx = some (dictOf es n) → es.length ≤ 20 → (∀ nm, getL nm es = some (a nm)) → h'.get? l = some (listOf (List.toArray [.ref c1, .ref c2, .ref c3]) nl') → s.heap.get? l = none → @LT.lt Nat _ x l →
      (a (Str.ofString "type") = some (.int (300 + k) tk) ∧ a (Str.ofString "children") = some (.ref l) ∧ a (Str.ofString "parent") = none ∧ ∀ nm, nodeKeys.contains nm = false → a nm = none) → R (.ok (.ret .none)) { s with heap := h', toks := tks }) :
    codeAny (model PG w) (Ar dp un outer) (.call (.ref 151) ⟨[.ref x, .int (300 + k) tk, .ref Lc], []⟩) R s := by
  have hN : ∀ q ∈ [(x, instObj 225 dx), (dx, dictOf [] 0), (Lc, listOf (List.toArray [.ref c1, .ref c2, .ref c3]) nl), (c1, instObj C1 d1), (d1, dictOf e1 n1), (c2, instObj C2 d2), (d2, dictOf e2 n2), (c3, instObj C3 d3), (d3, dictOf e3 n3)], s.heap.get? q.1 = some q.2 ∧ H₀.get? q.1 = none := List.forall_mem_cons.mpr ⟨⟨hx, hx0⟩, List.forall_mem_cons.mpr ⟨⟨hdx, hdx0⟩, List.forall_mem_cons.mpr ⟨⟨hL, hL0⟩, List.forall_mem_cons.mpr ⟨⟨hc1, hc10⟩, List.forall_mem_cons.mpr ⟨⟨hd1, hd10⟩, List.forall_mem_cons.mpr ⟨⟨hc2, hc20⟩, List.forall_mem_cons.mpr ⟨⟨hd2, hd20⟩, List.forall_mem_cons.mpr ⟨⟨hc3, hc30⟩, List.forall_mem_cons.mpr ⟨⟨hd3, hd30⟩, List.forall_mem_nil _⟩⟩⟩⟩⟩⟩⟩⟩⟩
  have hN1 := fun q hq => (hN q hq).1
  refine' enter _ ?k1 ?k2 ?k3 hN ?k5 ?k6 ?k7 ?k8 ?k9 ?_ ?c1 ?c2 ?c3 ?c4
  (case k1 => exact Gd.X G)
  (case k2 => exact Gd.T G)
  (case k3 => exact st)
  (case k5 => k_is)
  (case k6 => k_is)
  (case k7 => k_room)
  (case k8 => exact binds_K (G.X.keeps st) rfl (by k_is) rfl rfl rfl)
  (case k9 => exact locs rfl)
  (case c1 => exact rfl)
  (case c2 => exact rfl)
  (case c3 => exact rfl)
  (case c4 => decide)
  clear hx hx0 hdx hdx0 hL hL0 hc1 hc10 hd1 hd10 hc2 hc20 hd2 hd20 hc3 hc30 hd3 hd30
  intro g' L' h'' hg Xg Tg F'' N'' lt'
  (try dsimp only); (try k_fold)
  simp only [AllLt, and_true] at lt'
  k_steps
  rename News _ _ _ _ => NN
  rename Fr _ _ _ _ => FF
  have M1 := NN (d1, _) (by k_mem)
  have M2 := NN (d2, _) (by k_mem)
  have M3 := NN (d3, _) (by k_mem)
  all_goals (
    refine hR _ _ _ _ _ _ (entA [(Str.ofString "notes", _), (Str.ofString "type", _), (Str.ofString "children", _), (Str.ofString "fixers_applied", _)]) (fun b o r0 r1 r2 r3 => back_butP (P := fun b => b = dx ∨ b = d1 ∨ b = d2 ∨ b = d3) hg hN1 FF NN (by walk_at "mine:stay") b o (by simp only [not_or]; exact ⟨r0, r1, r2, r3⟩)) ⟨_, _, _, M1.1⟩ ⟨_, _, _, M2.1⟩ ⟨_, _, _, M3.1⟩ (NN _ (.tail _ (.tail _ (.tail _ (.head _))))).1 (by simp only [List.length_cons, List.length_nil]; omega) (fun nm => getL_step (getL_step (getL_step (getL_step (getL_nil nm))))) (NN _ (.head _)).1 (hide_new hg (NN _ (.head _)).2.2 (not_mem_of (by k_all))) (by omega) ⟨rfl, rfl, rfl, fun nm h => entA_none h (by kernel_rfl)⟩
  )
theorem node_use_3 (G : Gd w H₀ mean mg mb) {g : Heap} {L : Addr} {mm : Str → Option Value} {news : List (Addr × Obj)} {E : Value → Shared → Prop} {Q : Value → Shared → Prop} {s : Shared} {dp un : Nat} {outer : List Env} {Lc c1 d1 C1 c2 d2 C2 c3 d3 C3 : Addr} {k tk nl : Nat} {e1 e2 e3 : List DictEntry} {n1 n2 n3 : Nat} {up1 : Obj → List (Addr × Obj)} {up2 : Obj → Obj → List (Addr × Obj)} {up3 : Obj → Obj → Obj → List (Addr × Obj)}
    (F : Fr g L s.heap mm) (N : News g L s.heap news) (X : (Mine.hd.heap_39 w.params).In g) (st : H₀.StaysIn g) (hLm : (Lc, listOf (List.toArray [.ref c1, .ref c2, .ref c3]) nl) ∈ news)
    (hc1 : (c1, instObj C1 d1) ∈ news) (hd1 : (d1, dictOf e1 n1) ∈ news) (hC1 : C1 = 225 ∨ C1 = 305) (p1 : getL (Str.ofString "parent") e1 = some none) (z1 : e1.length ≤ 20) (U1 : UpdF d1 (dictOf e1 n1) news up1)
    (hc2 : (c2, instObj C2 d2) ∈ news) (hd2 : (d2, dictOf e2 n2) ∈ news) (hC2 : C2 = 225 ∨ C2 = 305) (p2 : getL (Str.ofString "parent") e2 = some none) (z2 : e2.length ≤ 20) (U2 : ∀ a1, UpdF d2 (dictOf e2 n2) (up1 a1) (up2 a1))
    (hc3 : (c3, instObj C3 d3) ∈ news) (hd3 : (d3, dictOf e3 n3) ∈ news) (hC3 : C3 = 225 ∨ C3 = 305) (p3 : getL (Str.ofString "parent") e3 = some none) (z3 : e3.length ≤ 20) (U3 : ∀ a1 a2, UpdF d3 (dictOf e3 n3) (up2 a1 a2) (up3 a1 a2))
    (q0 : @LT.lt Nat _ d1 c1) (q1 : @LT.lt Nat _ c1 d2) (q2 : @LT.lt Nat _ d2 c2) (q3 : @LT.lt Nat _ c2 d3) (q4 : @LT.lt Nat _ d3 c3) (qc1 : @Ne Nat Lc c1) (qd1 : @Ne Nat Lc d1) (qc2 : @Ne Nat Lc c2) (qd2 : @Ne Nat Lc d2) (qc3 : @Ne Nat Lc c3) (qd3 : @Ne Nat Lc d3)
    (hd : dp + 6 < recursionLimit)
    (kk : ∀ x dx h' tks es n l nl' (a : Str → Option Value), ∀ o1 hsh1 t1 m1, o1 = dictOf (putL (Str.ofString "parent") hsh1 (.str (Str.ofString "parent") t1) (.ref x) e1) m1 → ∀ o2 hsh2 t2 m2, o2 = dictOf (putL (Str.ofString "parent") hsh2 (.str (Str.ofString "parent") t2) (.ref x) e2) m2 → ∀ o3 hsh3 t3 m3, o3 = dictOf (putL (Str.ofString "parent") hsh3 (.str (Str.ofString "parent") t3) (.ref x) e3) m3 → Fr g L h' mm → News g L h' ((l, listOf (List.toArray [.ref c1, .ref c2, .ref c3]) nl') :: (x, instObj 225 dx) :: (dx, dictOf es n) :: up3 o1 o2 o3) → (∀ p ∈ news, p.1 < dx) → @LT.lt Nat _ dx x → @LT.lt Nat _ x l → es.length ≤ 20 → (∀ nm, getL nm es = some (a nm)) →
      (a (Str.ofString "type") = some (.int (300 + k) tk) ∧ a (Str.ofString "children") = some (.ref l) ∧ a (Str.ofString "parent") = none ∧ ∀ nm, nodeKeys.contains nm = false → a nm = none) → Q (.ref x) { s with heap := h', toks := tks }) :
    wpAny (model PG w) (Ar dp un outer) (call (.ref 225) [.int (300 + k) tk, .ref Lc]) Q E s := by
  refine' call_cls F X N ?h1 ?h2 ?h3 fun x dx h' F' N' lt lt2 => ?_
  (case h1 => k_is)
  (case h2 => k_is)
  (case h3 => k_is)
  have lt2' : @LT.lt Nat _ dx x := lt2
  have n0 : ∀ p : Addr × Obj, g.get? p.1 = none → H₀.get? p.1 = none := fun p hp => by
    cases q : H₀.get? p.1 with
    | none => rfl
    | some o => rw [st _ _ q] at hp; cases hp
  have gg : ∀ p ∈ ((x, instObj 225 dx) :: (dx, dictOf [] 0) :: news), h'.get? p.1 = some p.2 ∧ H₀.get? p.1 = none := fun p hp => ⟨(N' p hp).1, n0 p (N' p hp).2.2⟩
  have st' : H₀.StaysIn h' := fun b o e => F'.keep b o (st b o e)
  have ltL : @LT.lt Nat _ Lc dx := lt _ hLm
  have m : ∀ {q}, q ∈ news → q ∈ ((x, instObj 225 dx) :: (dx, dictOf [] 0) :: news) := fun h => .tail _ (.tail _ h)
  refine node_init_3 (s := { s with heap := h' }) G st' (gg _ (.head _)).1 (gg _ (.head _)).2 (gg _ (.tail _ (.head _))).1 (gg _ (.tail _ (.head _))).2 (gg _ (m hLm)).1 (gg _ (m hLm)).2 (gg _ (m hc1)).1 (gg _ (m hc1)).2 (gg _ (m hd1)).1 (gg _ (m hd1)).2 hC1 p1 z1 (gg _ (m hc2)).1 (gg _ (m hc2)).2 (gg _ (m hd2)).1 (gg _ (m hd2)).2 hC2 p2 z2 (gg _ (m hc3)).1 (gg _ (m hc3)).2 (gg _ (m hd3)).1 (gg _ (m hd3)).2 hC3 p3 z3 q0 q1 q2 q3 q4 (lt _ hc3) lt2' ltL qc1 qd1 qc2 qd2 qc3 qd3 (show dp + 1 + 5 < recursionLimit from hd) fun h'' tks es n l nl' a kp M1 M2 M3 D1 D2 D3 D4 D5 D6 D7 => And.intro rfl ?_
  obtain ⟨hsh1, t1, m1, M1⟩ := M1
  obtain ⟨hsh2, t2, m2, M2⟩ := M2
  obtain ⟨hsh3, t3, m3, M3⟩ := M3
  have kpg : ∀ b o, g.get? b = some o → h''.get? b = some o := fun b o e => kp b o (fun q => by have z := (N' (dx, dictOf [] 0) (.tail _ (.head _))).2.2; rw [q] at e; rw [z] at e; cases e) (fun q => by have z := (N _ hd1).2.2; rw [q] at e; rw [z] at e; cases e) (fun q => by have z := (N _ hd2).2.2; rw [q] at e; rw [z] at e; cases e) (fun q => by have z := (N _ hd3).2.2; rw [q] at e; rw [z] at e; cases e) (F'.keep b o e)
  have F'' : Fr g L h'' mm := ⟨let ⟨o, es, ep, e, r⟩ := F'.ns; ⟨o, es, ep, kp _ _ (Ne.symm (N' (dx, dictOf [] 0) (.tail _ (.head _))).2.1) (Ne.symm (N _ hd1).2.1) (Ne.symm (N _ hd2).2.1) (Ne.symm (N _ hd3).2.1) e, r⟩, kpg, F'.above⟩
  have nl0 : h'.get? l = none := D5
  have lL : l ≠ L := fun q => by
    obtain ⟨o, es, ep, e, r⟩ := F'.ns
    rw [← q, nl0] at e; cases e
  have lg : g.get? l = none := by
    cases q : g.get? l with
    | none => rfl
    | some o => rw [F'.keep _ _ q] at nl0; cases nl0
  have B0 : ∀ p ∈ news, p.1 ≠ d1 → p.1 ≠ d2 → p.1 ≠ d3 → (h''.get? p.1 = some p.2 ∧ p.1 ≠ L ∧ g.get? p.1 = none) := fun p hp r1 r2 r3 => ⟨kp _ _ (fun q => by have z := lt p hp; rw [q] at z; exact absurd z (Nat.lt_irrefl _)) r1 r2 r3 (N' p (m hp)).1, (N p hp).2⟩
  have B1 := updF_all (P := fun p => p.1 ≠ d2 → p.1 ≠ d3 → (h''.get? p.1 = some p.2 ∧ p.1 ≠ L ∧ g.get? p.1 = none)) (o' := dictOf (putL (Str.ofString "parent") hsh1 (.str (Str.ofString "parent") t1) (.ref x) e1) m1) (U1) (fun p hp r1 r2 r3 => B0 p hp r1 r2 r3) (fun r2 r3 => ⟨M1, (N _ hd1).2⟩)
  have B2 := updF_all (P := fun p => p.1 ≠ d3 → (h''.get? p.1 = some p.2 ∧ p.1 ≠ L ∧ g.get? p.1 = none)) (o' := dictOf (putL (Str.ofString "parent") hsh2 (.str (Str.ofString "parent") t2) (.ref x) e2) m2) (U2 _) (fun p hp r2 r3 => B1 p hp r2 r3) (fun r3 => ⟨M2, (N _ hd2).2⟩)
  have B3 := updF_all (P := fun p => (h''.get? p.1 = some p.2 ∧ p.1 ≠ L ∧ g.get? p.1 = none)) (o' := dictOf (putL (Str.ofString "parent") hsh3 (.str (Str.ofString "parent") t3) (.ref x) e3) m3) (U3 _ _) (fun p hp r3  => B2 p hp r3 ) (⟨M3, (N _ hd3).2⟩)
  refine kk x dx h'' tks es n l nl' a _ hsh1 t1 m1 rfl _ hsh2 t2 m2 rfl _ hsh3 t3 m3 rfl F'' ?_ lt lt2' D6 D2 D3 D7
  intro p hp
  rcases List.mem_cons.mp hp with rfl | hp
  · exact ⟨D4, lL, lg⟩
  rcases List.mem_cons.mp hp with rfl | hp
  · refine ⟨kp _ _ (Nat.ne_of_gt lt2') (Nat.ne_of_gt (Nat.lt_trans (lt _ hd1) lt2)) (Nat.ne_of_gt (Nat.lt_trans (lt _ hd2) lt2)) (Nat.ne_of_gt (Nat.lt_trans (lt _ hd3) lt2)) (N' _ (.head _)).1, (N' _ (.head _)).2⟩
  rcases List.mem_cons.mp hp with rfl | hp
  · exact ⟨D1, (N' (dx, dictOf [] 0) (.tail _ (.head _))).2⟩
  exact B3 p hp
end
end
theorem leaf_use {w : World} {H₀ : Heap} {mean : ExcName → Option Value} {mg mb : Str → Option Value} (G : Gd w H₀ mean mg mb) {g : Heap} {L : Addr} {mm : Str → Option Value} {news : List (Addr × Obj)} {E : Value → Shared → Prop} {Q : Value → Shared → Prop}
    {s : Shared} {dp un : Nat} {outer : List Env} {D D2 : Addr} {pre val : Str} {line : Int} {k t1 tv tp tl tk : Nat} (F : Fr g L s.heap mm) (N : News g L s.heap news) (X : (Mine.hd.heap_39 w.params).In g) (st : H₀.StaysIn g)
    (hD : (D, tupO [.str pre tp, .ref D2]) ∈ news) (hD2 : (D2, tupO [.int line tl, .int k tk]) ∈ news) (n6 : @LT.lt Nat _ D2 D) (hd : dp + 6 < recursionLimit)
    (kk : ∀ x dx h' tks es n (a : Str → Option Value), Fr g L h' mm → News g L h' ((x, instObj 305 dx) :: (dx, dictOf es n) :: news) → (∀ p ∈ news, p.1 < dx) → @LT.lt Nat _ dx x → es.length ≤ 20 → (∀ nm, getL nm es = some (a nm)) →
      (a (Str.ofString "value") = some (.str val tv) ∧ a (Str.ofString "_prefix") = some (.str pre tp) ∧ a (Str.ofString "lineno") = some (.int line tl) ∧ a (Str.ofString "column") = some (.int k tk) ∧ a (Str.ofString "parent") = none ∧ ∀ nm, leafKeys.contains nm = false → a nm = none) →
      Q (.ref x) { s with heap := h', toks := tks }) :
    wpAny (model PG w) (Ar dp un outer) (call (.ref 305) [.int 1 t1, .str val tv, .ref D]) Q E s := by
  refine' call_cls F X N ?h1 ?h2 ?h3 fun x dx h' F' N' lt lt2 => ?_
  (case h1 => k_is)
  (case h2 => k_is)
  (case h3 => k_is)
  have lt2' : @LT.lt Nat _ dx x := lt2
  have n0 : ∀ p : Addr × Obj, g.get? p.1 = none → H₀.get? p.1 = none := fun p hp => by
    cases q : H₀.get? p.1 with
    | none => rfl
    | some o => rw [st _ _ q] at hp; cases hp
  have gg : ∀ p ∈ ((x, instObj 305 dx) :: (dx, dictOf [] 0) :: news), h'.get? p.1 = some p.2 ∧ H₀.get? p.1 = none := fun p hp => ⟨(N' p hp).1, n0 p (N' p hp).2.2⟩
  have st' : H₀.StaysIn h' := fun b o e => F'.keep b o (st b o e)
  have m : ∀ {q}, q ∈ news → q ∈ ((x, instObj 305 dx) :: (dx, dictOf [] 0) :: news) := fun h => .tail _ (.tail _ h)
  have ltD : @LT.lt Nat _ D dx := lt _ hD
  refine leaf_init (s := { s with heap := h' }) G st' (gg _ (.head _)).1 (gg _ (.head _)).2 (gg _ (.tail _ (.head _))).1 (gg _ (.tail _ (.head _))).2 (gg _ (m hD)).1 (gg _ (m hD)).2 (gg _ (m hD2)).1 (gg _ (m hD2)).2 (by omega) (by omega) (by omega) (by omega) (by omega) (by omega) (show dp + 1 + 5 < recursionLimit from hd) fun h'' tks es n a kp D1 D2 D3 D4 => And.intro rfl ?_
  have kpg : ∀ b o, g.get? b = some o → h''.get? b = some o := fun b o e => kp b o (fun q => by have z := (N' (dx, dictOf [] 0) (.tail _ (.head _))).2.2; rw [q] at e; rw [z] at e; cases e) (F'.keep b o e)
  have F'' : Fr g L h'' mm := ⟨let ⟨o, es, ep, e, r⟩ := F'.ns; ⟨o, es, ep, kp _ _ (Ne.symm (N' (dx, dictOf [] 0) (.tail _ (.head _))).2.1) e, r⟩, kpg, F'.above⟩
  refine kk x dx h'' tks es n a F'' ?_ lt lt2' D2 D3 D4
  intro p hp
  rcases List.mem_cons.mp hp with rfl | hp
  · exact ⟨kp _ _ (Nat.ne_of_gt lt2') (N' _ (.head _)).1, (N' _ (.head _)).2⟩
  rcases List.mem_cons.mp hp with rfl | hp
  · exact ⟨D1, (N' (dx, dictOf [] 0) (.tail _ (.head _))).2⟩
  exact ⟨kp _ _ (fun q => by have z := lt p hp; rw [q] at z; exact absurd z (Nat.lt_irrefl _)) (N' p (m hp)).1, (N p hp).2⟩
/-- siblings have roots of their own -/
def Tr.Apart : Tr → Prop
  | .leaf .. | .n0 .. => True
  | .n1 _ _ a => a.Apart
  | .n2 _ _ a b => a.Apart ∧ b.Apart ∧ a.root ≠ b.root
  | .n3 _ _ a b c => a.Apart ∧ b.Apart ∧ c.Apart ∧ a.root ≠ b.root ∧ a.root ≠ c.root ∧ b.root ≠ c.root
def ParV (v : Value) : Option Nat → Prop
  | none => v = .none
  | some k => ∃ t, v = .int k t
/-- a row of the table: the parent's number, the children's numbers -/
def Row (g : Heap) (R : Addr) (pn : Option Nat) (cs : List Nat) : Prop :=
  ∃ C nR nC pv csv, g.get? R = some (listOf [pv, .ref C].toArray nR) ∧ ParV pv pn ∧ g.get? C = some (listOf (List.toArray csv) nC) ∧ IntsAre csv (cs.map Int.ofNat)
/-- the tree with its rows in a heap -/
def Full (H₀ g : Heap) : Tr → Nat → Option Addr → Option Nat → List Value → Prop
  | .leaf x pre line, k, par, pn, rows => ∃ R, rows = [.ref R] ∧ Row g R pn [] ∧ ∃ a, Inst g x 305 a ∧ LeafA a pre line k par
  | .n0 x l, k, par, pn, rows => ∃ R, rows = [.ref R] ∧ Row g R pn [] ∧ ∃ a, Inst g x 225 a ∧ NodeA a l k par ∧ LAt H₀ g l []
  | .n1 x l t, k, par, pn, rows => ∃ R r1, rows = .ref R :: r1 ∧ Row g R pn [k + 1] ∧ (∃ a, Inst g x 225 a ∧ NodeA a l k par ∧ LAt H₀ g l [.ref t.root]) ∧ Full H₀ g t (k + 1) (some x) (some k) r1
  | .n2 x l t u, k, par, pn, rows => ∃ R r1 r2, rows = .ref R :: (r1 ++ r2) ∧ Row g R pn [k + 1, k + 1 + t.size] ∧ (∃ a, Inst g x 225 a ∧ NodeA a l k par ∧ LAt H₀ g l [.ref t.root, .ref u.root]) ∧ Full H₀ g t (k + 1) (some x) (some k) r1 ∧ Full H₀ g u (k + 1 + t.size) (some x) (some k) r2
  | .n3 x l t u v, k, par, pn, rows => ∃ R r1 r2 r3, rows = .ref R :: (r1 ++ (r2 ++ r3)) ∧ Row g R pn [k + 1, k + 1 + t.size, k + 1 + t.size + u.size] ∧ (∃ a, Inst g x 225 a ∧ NodeA a l k par ∧ LAt H₀ g l [.ref t.root, .ref u.root, .ref v.root]) ∧
      Full H₀ g t (k + 1) (some x) (some k) r1 ∧ Full H₀ g u (k + 1 + t.size) (some x) (some k) r2 ∧ Full H₀ g v (k + 1 + t.size + u.size) (some x) (some k) r3
theorem Full.at {H₀ g : Heap} : ∀ {t : Tr} {k par pn rows}, Full H₀ g t k par pn rows → At H₀ g t k par
  | .leaf .., _, _, _, _, ⟨_, _, _, h⟩ => h
  | .n0 .., _, _, _, _, ⟨_, _, _, h⟩ => h
  | .n1 .., _, _, _, _, ⟨_, _, _, _, ⟨a, b, c, d⟩, h⟩ => ⟨a, b, c, d, h.at⟩
  | .n2 .., _, _, _, _, ⟨_, _, _, _, _, ⟨a, b, c, d⟩, h, h'⟩ => ⟨a, b, c, d, h.at, h'.at⟩
  | .n3 .., _, _, _, _, ⟨_, _, _, _, _, _, ⟨a, b, c, d⟩, h, h', h''⟩ => ⟨a, b, c, d, h.at, h'.at, h''.at⟩
def setPar (a : Str → Option Value) (par : Option Addr) : Str → Option Value := fun nm => if nm = Str.ofString "parent" then par.map Value.ref else a nm
/-- a tree just made: its root has no parent yet; fa is all the rest of it -/
structure Made (H₀ : Heap) (h' : Heap) (t : Tr) (k : Nat) (lo : Nat) (R dx C Cl : Addr) (es : List DictEntry) (n nR : Nat) (rr : List Value) (fa : List (Addr × Obj)) : Prop where
  inst : h'.get? t.root = some (instObj C dx)
  dict : h'.get? dx = some (dictOf es n)
  row : h'.get? R = some (listOf [Value.none, .ref Cl].toArray nR)
  cls : C = 225 ∨ C = 305
  reads : ∃ a : Str → Option Value, ∀ nm, getL nm es = some (a nm)
  short : es.length ≤ 20
  nopar : getL (Str.ofString "parent") es = some none
  low : lo ≤ R
  o1 : @LT.lt Nat _ R dx
  o2 : @LT.lt Nat _ dx t.root
  rest : ∀ p ∈ fa, h'.get? p.1 = some p.2 ∧ lo ≤ p.1 ∧ p.1 ≠ R ∧ p.1 ≠ dx
  full : ∀ (g : Heap) (par : Option Addr) (pn : Option Nat) es' n' nR' pv a, (∀ p ∈ fa, g.get? p.1 = some p.2) → g.get? t.root = some (instObj C dx) → g.get? dx = some (dictOf es' n') → (∀ nm, getL nm es = some (a nm)) → (∀ nm, getL nm es' = some (setPar a par nm)) →
    g.get? R = some (listOf [pv, .ref Cl].toArray nR') → ParV pv pn → Full H₀ g t k par pn (.ref R :: rr)
theorem getL_fun {es : List DictEntry} {a b : Str → Option Value} (h : ∀ nm, getL nm es = some (a nm)) (h' : ∀ nm, getL nm es = some (b nm)) : a = b := funext fun nm => Option.some.inj ((h nm).symm.trans (h' nm))
def costN : Nat → Nat
  | 0 => 2
  | d + 1 => 3 * costN d + 3
def capN : Nat → Nat
  | 0 => 1
  | d + 1 => 3 * capN d + 1
theorem cap_pos : ∀ d, 1 ≤ capN d
  | 0 => Nat.le_refl _
  | d + 1 => by unfold capN; omega
theorem size_cap : ∀ (d : Nat) {t : Tr}, t.height ≤ d → t.size ≤ capN d
  | d, .leaf .., _ => cap_pos d
  | d, .n0 .., _ => cap_pos d
  | 0, .n1 .., h => by simp only [Tr.height] at h; omega
  | 0, .n2 .., h => by simp only [Tr.height] at h; omega
  | 0, .n3 .., h => by simp only [Tr.height] at h; omega
  | d + 1, .n1 _ _ a, h => by
    simp only [Tr.height] at h
    have := size_cap d (t := a) (by omega)
    have := cap_pos d
    simp only [Tr.size, capN]; omega
  | d + 1, .n2 _ _ a b, h => by
    simp only [Tr.height] at h
    have := size_cap d (t := a) (by omega)
    have := size_cap d (t := b) (by omega)
    simp only [Tr.size, capN]; omega
  | d + 1, .n3 _ _ a b c, h => by
    simp only [Tr.height] at h
    have := size_cap d (t := a) (by omega)
    have := size_cap d (t := b) (by omega)
    have := size_cap d (t := c) (by omega)
    simp only [Tr.size, capN]; omega
/-- what a call of _law_grown at depth d gives -/
def GrownPost (H₀ : Heap) (s : Shared) (S sl N V : Addr) (nv av : List Value) (p : Int) (d : Nat) (R : Result → Shared → Prop) : Prop :=
  ∀ h' tks (T : Tr) (p' : Int) tS nS nN nV Rw dx C Cl es n nR rr fa tk pr,
      (∀ b o, b ≠ S → b ≠ N → b ≠ V → s.heap.get? b = some o → h'.get? b = some o) → h'.get? S = some (listOf [Value.ref sl, .int p' tS].toArray nS) → p ≤ p' → p' ≤ p + costN d →
      h'.get? N = some (listOf (nv ++ .ref T.root :: pr).toArray nN) → T.preL = .ref T.root :: pr → h'.get? V = some (listOf (av ++ .ref Rw :: rr).toArray nV) → rr.length + 1 = T.size → pr.length + 1 = T.size → T.height ≤ d → T.Short → T.Apart →
      Made H₀ h' T nv.length s.heap.objs.size Rw dx C Cl es n nR rr fa → R (.ok (.ret (.int nv.length tk))) { s with heap := h', toks := tks }
def GrownOk (w : World) (H₀ : Heap) (d : Nat) : Prop :=
  ∀ {s : Shared} {dp un : Nat} {outer : List Env} {S sl N V : Addr} {vs nv av : List Value} {ns : List Int} {p : Int} {t td n m nn na : Nat} {R : Result → Shared → Prop},
    H₀.StaysIn s.heap → s.heap.get? S = some (listOf [Value.ref sl, .int p t].toArray n) → H₀.get? S = none → s.heap.get? sl = some (listOf vs.toArray m) → H₀.get? sl = none → IntsAre vs ns → ns.length ≤ 60 →
    s.heap.get? N = some (listOf nv.toArray nn) → H₀.get? N = none → s.heap.get? V = some (listOf av.toArray na) → H₀.get? V = none → av.length = nv.length → nv.length + capN d < 500 →
    @Ne Nat sl S → @Ne Nat S N → @Ne Nat S V → @Ne Nat N V → @Ne Nat sl N → @Ne Nat sl V → 0 ≤ p → p + costN d < 900 → dp + 2 * d + 10 < recursionLimit →
    GrownPost H₀ s S sl N V nv av p d R →
    codeAny (model PG w) (Ar dp un outer) (.call (.ref 333) ⟨[.ref S, .ref N, .ref V, .int d td], []⟩) R s
theorem tail_lo {g h : Heap} {L R : Addr} {o : Obj} {news : List (Addr × Obj)} {lo : Nat} (hl : @LE.le Nat _ lo R) (N : News g L h news) (hm : (R, o) ∈ news) : lo ≤ h.objs.size := Nat.le_of_lt (Nat.lt_of_le_of_lt hl (Heap.lt_size (N _ hm).1))
section
variable {w : World} {H₀ : Heap} {mean : ExcName → Option Value} {mg mb : Str → Option Value}
theorem use_grown {d : Nat} (ih : GrownOk w H₀ d) {g : Heap} {L : Addr} {mm : Str → Option Value} {news : List (Addr × Obj)} {E : Value → Shared → Prop} {Q : Value → Shared → Prop}
    {s : Shared} {dp un : Nat} {outer : List Env} {S sl N V : Addr} {vs nv av : List Value} {ns : List Int} {p e : Int} {t td n m nn na : Nat} {u1 : Obj → List (Addr × Obj)} {u2 : Obj → Obj → List (Addr × Obj)} {u3 : Obj → Obj → Obj → List (Addr × Obj)} {fa0 : List (Addr × Obj)} {lo : Nat} {bad : List Addr}
    (F : Fr g L s.heap mm) (NW : News g L s.heap news) (st : H₀.StaysIn g) (he : e = d)
    (hSm : (S, listOf [Value.ref sl, .int p t].toArray n) ∈ news) (hNm : (N, listOf nv.toArray nn) ∈ news) (hVm : (V, listOf av.toArray na) ∈ news)
    (U1 : UpdF S (listOf [Value.ref sl, .int p t].toArray n) news u1) (U2 : ∀ a, UpdF N (listOf nv.toArray nn) (u1 a) (u2 a)) (U3 : ∀ a b, UpdF V (listOf av.toArray na) (u2 a b) (u3 a b))
    (hS0 : H₀.get? S = none) (hN0 : H₀.get? N = none) (hV0 : H₀.get? V = none) (hsl : g.get? sl = some (listOf vs.toArray m)) (hsl0 : H₀.get? sl = none) (hi : IntsAre vs ns) (hlen : ns.length ≤ 60)
    (hav : av.length = nv.length) (hcap : nv.length + capN d < 500) (q1 : @Ne Nat sl S) (q2 : @Ne Nat S N) (q3 : @Ne Nat S V) (q4 : @Ne Nat N V) (q5 : @Ne Nat sl N) (q6 : @Ne Nat sl V) (hp : 0 ≤ p) (hp2 : p + costN d < 900) (hd : dp + 2 * d + 10 < recursionLimit)
    (T0 : Tail fa0 lo bad) (hsub : ∀ q ∈ fa0, q ∈ news) (hb : ∀ b ∈ bad, ∃ o, (b, o) ∈ news) (hlo : lo ≤ s.heap.objs.size)
    (k : ∀ h' tks (T : Tr) (p' : Int) tS nS nN nV Rw dx C Cl es n nR rr fa tk pr, Fr g L h' mm →
      News g L h' ((T.root, instObj C dx) :: (dx, dictOf es n) :: (Rw, listOf [Value.none, .ref Cl].toArray nR) :: (u3 (listOf [Value.ref sl, .int p' tS].toArray nS) (listOf (nv ++ .ref T.root :: pr).toArray nN) (listOf (av ++ .ref Rw :: rr).toArray nV) ++ fa)) →
      (∀ q ∈ news, q.1 < s.heap.objs.size) → @LE.le Nat _ s.heap.objs.size Rw → @LT.lt Nat _ Rw dx → @LT.lt Nat _ dx T.root → p ≤ p' → p' ≤ p + costN d →
      T.preL = .ref T.root :: pr → rr.length + 1 = T.size → pr.length + 1 = T.size → T.height ≤ d → T.Short → T.Apart → Made H₀ h' T nv.length s.heap.objs.size Rw dx C Cl es n nR rr fa → Tail (fa0 ++ fa) lo (Rw :: dx :: bad) → @LE.le Nat _ lo Rw →
      Q (.int nv.length tk) { s with heap := h', toks := tks }) :
    wpAny (model PG w) (Ar dp un outer) (call (.ref 333) [.ref S, .ref N, .ref V, .int e td]) Q E s := by
  subst he
  refine wpAny_call (ih (fun b o e => F.keep b o (st b o e)) (NW _ hSm).1 hS0 (F.keep _ _ hsl) hsl0 hi hlen (NW _ hNm).1 hN0 (NW _ hVm).1 hV0 hav hcap q1 q2 q3 q4 q5 q6 hp hp2 hd fun h' tks T p' tS nS nN nV Rw dx C Cl es n nR rr fa tk pr kp hS' hp1 hp2' hN' hpre hV' hrr hpr hh hsh hap M => ?_)
  have zS := (NW _ hSm).2
  have zN := (NW _ hNm).2
  have zV := (NW _ hVm).2
  have kpg : ∀ b o, g.get? b = some o → h'.get? b = some o := fun b o e => kp b o (fun q => by rw [q, zS.2] at e; cases e) (fun q => by rw [q, zN.2] at e; cases e) (fun q => by rw [q, zV.2] at e; cases e) (F.keep b o e)
  have F' : Fr g L h' mm := ⟨let ⟨o, es, ep, e, r⟩ := F.ns; ⟨o, es, ep, kp _ _ (Ne.symm zS.1) (Ne.symm zN.1) (Ne.symm zV.1) e, r⟩, kpg, F.above⟩
  have hL : @LT.lt Nat _ L s.heap.objs.size := by
    obtain ⟨o, es, ep, e, r⟩ := F.ns
    exact Heap.lt_size e
  have hg : ∀ b : Nat, s.heap.objs.size ≤ b → b ≠ L ∧ g.get? b = none := fun b hb => ⟨fun q => by subst q; exact absurd (Nat.lt_of_lt_of_le hL hb) (Nat.lt_irrefl _), by
    cases q : g.get? b with
    | none => rfl
    | some o => exact absurd (Nat.lt_of_lt_of_le (Heap.lt_size (F.keep b o q)) hb) (Nat.lt_irrefl _)⟩
  have B0 : ∀ q ∈ news, q.1 ≠ S → q.1 ≠ N → q.1 ≠ V → (h'.get? q.1 = some q.2 ∧ q.1 ≠ L ∧ g.get? q.1 = none) := fun q hq r1 r2 r3 => ⟨kp _ _ r1 r2 r3 (NW q hq).1, (NW q hq).2⟩
  have B1 := updF_all (P := fun q => q.1 ≠ N → q.1 ≠ V → (h'.get? q.1 = some q.2 ∧ q.1 ≠ L ∧ g.get? q.1 = none)) (o' := listOf [Value.ref sl, .int p' tS].toArray nS) U1 (fun q hq r1 r2 r3 => B0 q hq r1 r2 r3) (fun _ _ => ⟨hS', zS⟩)
  have B2 := updF_all (P := fun q => q.1 ≠ V → (h'.get? q.1 = some q.2 ∧ q.1 ≠ L ∧ g.get? q.1 = none)) (o' := listOf (nv ++ .ref T.root :: pr).toArray nN) (U2 _) (fun q hq r2 r3 => B1 q hq r2 r3) (fun _ => ⟨hN', zN⟩)
  have B3 := updF_all (P := fun q => (h'.get? q.1 = some q.2 ∧ q.1 ≠ L ∧ g.get? q.1 = none)) (o' := listOf (av ++ .ref Rw :: rr).toArray nV) (U3 _ _) (fun q hq r3 => B2 q hq r3) ⟨hV', zV⟩
  have l1 : s.heap.objs.size ≤ dx := Nat.le_of_lt (Nat.lt_of_le_of_lt M.low M.o1)
  have l2 : s.heap.objs.size ≤ T.root := Nat.le_of_lt (Nat.lt_of_le_of_lt l1 M.o2)
  refine k h' tks T p' tS nS nN nV Rw dx C Cl es n nR rr fa tk pr F' ?_ (fun q hq => Heap.lt_size (NW q hq).1) M.low M.o1 M.o2 hp1 hp2' hpre hrr hpr hh hsh hap M ?_ (Nat.le_trans hlo M.low)
  · intro q hq
    rcases List.mem_cons.mp hq with rfl | hq
    · exact ⟨M.inst, hg _ l2⟩
    rcases List.mem_cons.mp hq with rfl | hq
    · exact ⟨M.dict, hg _ l1⟩
    rcases List.mem_cons.mp hq with rfl | hq
    · exact ⟨M.row, hg _ M.low⟩
    rcases List.mem_append.mp hq with hq | hq
    · exact B3 q hq
    · exact ⟨(M.rest q hq).1, hg _ (M.rest q hq).2.1⟩
  · intro q hq
    rcases List.mem_append.mp hq with hq | hq
    · refine ⟨(T0 q hq).1, fun z => ?_⟩
      have lt : @LT.lt Nat _ q.1 s.heap.objs.size := Heap.lt_size (NW q (hsub q hq)).1
      rcases List.mem_cons.mp z with z | z
      · rw [z] at lt; exact absurd (Nat.lt_of_lt_of_le lt M.low) (Nat.lt_irrefl _)
      rcases List.mem_cons.mp z with z | z
      · rw [z] at lt; exact absurd (Nat.lt_of_lt_of_le lt l1) (Nat.lt_irrefl _)
      · exact (T0 q hq).2 z
    · obtain ⟨_, y1, y2, y3⟩ := M.rest q hq
      refine ⟨Nat.le_trans hlo y1, fun z => ?_⟩
      rcases List.mem_cons.mp z with z | z
      · exact y2 z
      rcases List.mem_cons.mp z with z | z
      · exact y3 z
      · obtain ⟨o, hm⟩ := hb _ z
        exact absurd (Nat.lt_of_lt_of_le (Heap.lt_size (NW _ hm).1) y1) (Nat.lt_irrefl _)
end
/-- a ledger without one entry -/
inductive Drop (I : Addr) (it : Obj) : List (Addr × Obj) → List (Addr × Obj) → Prop
  | head {r} : (∀ p ∈ r, p.1 ≠ I) → Drop I it ((I, it) :: r) r
  | tail {p r r'} : p.1 ≠ I → Drop I it r r' → Drop I it (p :: r) (p :: r')
theorem Drop.mem {I : Addr} {it : Obj} : ∀ {l l' : List (Addr × Obj)}, Drop I it l l' → (∀ p ∈ (I, it) :: l', p ∈ l) ∧ ∀ p ∈ l', p.1 ≠ I
  | _, _, .head h => ⟨fun _ hp => hp, h⟩
  | _, _, .tail h r => ⟨fun p hp => by
      rcases List.mem_cons.mp hp with rfl | hp
      · exact .tail _ (r.mem.1 _ (.head _))
      · rcases List.mem_cons.mp hp with rfl | hp
        · exact .head _
        · exact .tail _ (r.mem.1 _ (.tail _ hp)), fun p hp => by
      rcases List.mem_cons.mp hp with rfl | hp
      · exact h
      · exact r.mem.2 p hp⟩
theorem unrEnd_drop {h₀ : Heap} {L I : Addr} {it : Obj} {rest : (Str → Option Value) → List (Addr × Obj) → Prop} {s₁ : Shared} {h' : Heap} {tk : Nat} {m' : Str → Option Value} {all news' : List (Addr × Obj)} (F : Fr h₀ L h' m') (N : News h₀ L h' all)
    (D : Drop I it all news') (r : rest m' news') : UnrEnd h₀ L s₁ I it rest { s₁ with heap := h', toks := tk } := UnrEnd.intro F N news' D.mem.1 D.mem.2 r
section
set_option hygiene false in
local macro_rules | `(tactic| walk_at "call ref") => `(tactic| (k_here; (with_reducible show wpAny _ _ (call (Value.ref 305) _) _ _ _); k_dflt (refine' leaf_use G ?k1 ?k2 ?k3 ?k4 ?k5 ?k6 ?k7 ?k8 ?_; (case k1 => k_asm); (case k2 => k_asm); (case k3 => k_asm); (case k4 => assumption); (case k5 => k_mem); (case k6 => k_mem); (case k7 => omega); (case k8 => k_room); k_whole); intro x9 dx9 h' tks9 es9 n9 a9 F' N' l1 l2 z9 rd9 fa9; (try k_lt l1); (try k_sweep)))
theorem xy_item (k : Nat) : Txt.item (Str.ofString "xy") ((k : Int).fmod 2) = xy k := by
  unfold xy
  rcases Nat.mod_two_eq_zero_or_one k with h | h
  · have : ((k : Int).fmod 2) = 0 := by rw [Int.fmod_eq_emod_of_nonneg _ (by decide)]; omega
    rw [this, if_pos h]; decide
  · have : ((k : Int).fmod 2) = 1 := by rw [Int.fmod_eq_emod_of_nonneg _ (by decide)]; omega
    rw [this, if_neg (by omega)]; decide
theorem set_end (nv : List Value) (a b : Value) : (nv ++ [a]).set nv.length b = nv ++ [b] := by simp
theorem keep3 {h g h' : Heap} {S N V L : Addr} {oS oN oV : Obj} {m : Str → Option Value} (hg : g = hideAll h ([(S, oS), (N, oN), (V, oV)].map (·.1))) (F : Fr g L h' m) : ∀ b o, b ≠ S → b ≠ N → b ≠ V → h.get? b = some o → h'.get? b = some o := by
  subst hg
  intro b o h1 h2 h3 e
  refine F.keep b o (hideAll_get _ e ?_)
  simp only [List.map_cons, List.map_nil, List.mem_cons, List.not_mem_nil, or_false, not_or]
  exact ⟨h1, h2, h3⟩
theorem leafA_set {a : Str → Option Value} {pre : Str} {line : Int} {k : Nat} {tv tp tl tk : Tok} {par : Option Addr} (h : a (Str.ofString "value") = some (.str (xy k) tv) ∧ a (Str.ofString "_prefix") = some (.str pre tp) ∧ a (Str.ofString "lineno") = some (.int line tl) ∧ a (Str.ofString "column") = some (.int k tk) ∧ a (Str.ofString "parent") = none ∧ ∀ nm, leafKeys.contains nm = false → a nm = none) :
    LeafA (setPar a par) pre line k par := by
  obtain ⟨h1, h2, h3, h4, h5, h6⟩ := h
  refine ⟨⟨tv, ?_⟩, ⟨tp, ?_⟩, ⟨tl, ?_⟩, ⟨tk, ?_⟩, ?_, fun nm hn => ?_⟩
  · unfold setPar; rw [if_neg (by decide)]; exact h1
  · unfold setPar; rw [if_neg (by decide)]; exact h2
  · unfold setPar; rw [if_neg (by decide)]; exact h3
  · unfold setPar; rw [if_neg (by decide)]; exact h4
  · unfold setPar; rw [if_pos rfl]
  · unfold setPar
    rw [if_neg]
    · exact h6 nm hn
    · rintro rfl; revert hn; decide
theorem nodeA_set {a : Str → Option Value} {l : Addr} {k : Nat} {tk : Tok} {par : Option Addr} (h : a (Str.ofString "type") = some (.int (300 + k) tk) ∧ a (Str.ofString "children") = some (.ref l) ∧ a (Str.ofString "parent") = none ∧ ∀ nm, nodeKeys.contains nm = false → a nm = none) :
    NodeA (setPar a par) l k par := by
  obtain ⟨h1, h2, h5, h6⟩ := h
  refine ⟨⟨tk, ?_⟩, ?_, ?_, fun nm hn => ?_⟩
  · unfold setPar; rw [if_neg (by decide)]; exact h1
  · unfold setPar; rw [if_neg (by decide)]; exact h2
  · unfold setPar; rw [if_pos rfl]
  · unfold setPar
    rw [if_neg]
    · exact h6 nm hn
    · rintro rfl; revert hn; decide
theorem leaf_made {H₀ h' : Heap} {x dx R Cl : Addr} {es : List DictEntry} {n nR nC k lo : Nat} {a : Str → Option Value} {pre : Str} {line : Int} {tv tp tl tk : Tok} (hx : h'.get? x = some (instObj 305 dx)) (hdx : h'.get? dx = some (dictOf es n)) (hR : h'.get? R = some (listOf [Value.none, .ref Cl].toArray nR)) (hC : h'.get? Cl = some (listOf (List.toArray []) nC))
    (z : es.length ≤ 20) (rd : ∀ nm, getL nm es = some (a nm)) (fc : a (Str.ofString "value") = some (.str (xy k) tv) ∧ a (Str.ofString "_prefix") = some (.str pre tp) ∧ a (Str.ofString "lineno") = some (.int line tl) ∧ a (Str.ofString "column") = some (.int k tk) ∧ a (Str.ofString "parent") = none ∧ ∀ nm, leafKeys.contains nm = false → a nm = none)
    (q1 : @LT.lt Nat _ lo Cl) (q2 : @LT.lt Nat _ Cl R) (q3 : @LT.lt Nat _ R dx) (q4 : @LT.lt Nat _ dx x) : Made H₀ h' (.leaf x pre line) k lo R dx 305 Cl es n nR [] [(Cl, listOf (List.toArray []) nC)] := by
  refine ⟨hx, hdx, hR, .inr rfl, ⟨a, rd⟩, z, (rd _).trans (congrArg some fc.2.2.2.2.1), by omega, q3, q4, List.forall_mem_cons.mpr ⟨⟨hC, by show lo ≤ Cl; omega, fun e => ?_, fun e => ?_⟩, List.forall_mem_nil _⟩, ?_⟩
  · rw [show Cl = R from e] at q2; exact absurd q2 (Nat.lt_irrefl _)
  · have : @LT.lt Nat _ Cl dx := by omega
    rw [show Cl = dx from e] at this; exact absurd this (Nat.lt_irrefl _)
  · intro g par pn es' n' nR' pv a' gf g1 g2 r1 r2 g3 hp
    refine ⟨R, rfl, ⟨Cl, nR', nC, pv, [], g3, hp, gf _ (.head _), .nil⟩, setPar a' par, ⟨dx, es', n', g1, g2, r2⟩, ?_⟩
    rw [getL_fun r1 rd]
    exact leafA_set fc
section
variable {w : World} {H₀ : Heap} {mean : ExcName → Option Value} {mg mb : Str → Option Value}
theorem ledger3 {h : Heap} {a b c : Addr} {oa ob oc : Obj} (e1 : h.get? a = some oa) (e2 : H₀.get? a = none) (e3 : h.get? b = some ob) (e4 : H₀.get? b = none) (e5 : h.get? c = some oc) (e6 : H₀.get? c = none) : ∀ q ∈ [(a, oa), (b, ob), (c, oc)], h.get? q.1 = some q.2 ∧ H₀.get? q.1 = none :=
  List.forall_mem_cons.mpr ⟨⟨e1, e2⟩, List.forall_mem_cons.mpr ⟨⟨e3, e4⟩, List.forall_mem_cons.mpr ⟨⟨e5, e6⟩, List.forall_mem_nil _⟩⟩⟩
theorem sl_stays {h g : Heap} {S N V sl : Addr} {oS oN oV o : Obj} (hg : g = hideAll h ([(S, oS), (N, oN), (V, oV)].map (·.1))) (e : h.get? sl = some o) (q1 : @Ne Nat sl S) (q5 : @Ne Nat sl N) (q6 : @Ne Nat sl V) : g.get? sl = some o := by
  subst hg
  refine hideAll_get _ e ?_
  simp only [List.map_cons, List.map_nil, List.mem_cons, List.not_mem_nil, or_false, not_or]
  exact ⟨q1, q5, q6⟩
theorem ground_stays {h g : Heap} {news : List (Addr × Obj)} (hg : g = hideAll h (news.map (·.1))) (st : H₀.StaysIn h) (hN : ∀ q ∈ news, h.get? q.1 = some q.2 ∧ H₀.get? q.1 = none) : H₀.StaysIn g := by
  subst hg
  exact fun b o q => hideAll_get _ (st b o q) fun q' => (by obtain ⟨p9, hp9, e9⟩ := List.mem_map.mp q'; have z9 := (hN p9 hp9).2; rw [e9, q] at z9; cases z9)
theorem leaf_done {s : Shared} {S sl N V : Addr} {nv av : List Value} {p p' : Int} {d : Nat} {R : Result → Shared → Prop} (post : GrownPost H₀ s S sl N V nv av p d R) {h' g : Heap} {L : Addr} {news : List (Addr × Obj)} {tks : Nat} {x dx Rw Cl : Addr} {es : List DictEntry} {n nR nC nS nN nV : Nat} {a : Str → Option Value} {pre val : Str} {line : Int} {tv tp tl tk tS : Nat}
    (kp : ∀ b o, b ≠ S → b ≠ N → b ≠ V → s.heap.get? b = some o → h'.get? b = some o) (NW : News g L h' news) (hx : (x, instObj 305 dx) ∈ news) (hdx : (dx, dictOf es n) ∈ news) (hR : (Rw, listOf [Value.none, .ref Cl].toArray nR) ∈ news) (hC : (Cl, listOf (List.toArray []) nC) ∈ news)
    (hS : (S, listOf [Value.ref sl, .int p' tS].toArray nS) ∈ news) (hN : (N, listOf ((nv ++ [Value.none]).set nv.length (.ref x)).toArray nN) ∈ news) (hV : (V, listOf (av ++ [Value.ref Rw]).toArray nV) ∈ news)
    (hp1 : p ≤ p') (hp2 : p' ≤ p + costN d) (z : es.length ≤ 20) (rd : ∀ nm, getL nm es = some (a nm)) (hval : val = xy nv.length) (hpre : pre.length ≤ 1)
    (fc : a (Str.ofString "value") = some (.str val tv) ∧ a (Str.ofString "_prefix") = some (.str pre tp) ∧ a (Str.ofString "lineno") = some (.int line tl) ∧ a (Str.ofString "column") = some (.int nv.length tk) ∧ a (Str.ofString "parent") = none ∧ ∀ nm, leafKeys.contains nm = false → a nm = none)
    (q1 : @LT.lt Nat _ s.heap.objs.size Cl) (q2 : @LT.lt Nat _ Cl Rw) (q3 : @LT.lt Nat _ Rw dx) (q4 : @LT.lt Nat _ dx x) : R (.ok (.ret (.int nv.length tk))) { s with heap := h', toks := tks } := by
  subst hval
  refine post h' tks (.leaf x pre line) p' tS nS nN nV Rw dx 305 Cl es n nR [] [(Cl, listOf (List.toArray []) nC)] tk [] kp (NW _ hS).1 hp1 hp2 ?_ rfl (NW _ hV).1 rfl rfl (Nat.zero_le _) hpre trivial (leaf_made (NW _ hx).1 (NW _ hdx).1 (NW _ hR).1 (NW _ hC).1 z rd fc q1 q2 q3 q4)
  show h'.get? N = some (listOf (nv ++ [Value.ref x]).toArray nN)
  rw [← set_end nv Value.none (.ref x)]
  exact (NW _ hN).1
theorem grown_zero (G : Gd w H₀ mean mg mb) : GrownOk w H₀ 0 := by
  intro s dp un outer S sl N V vs nv av ns p t td n m nn na R st hS hS0 hsl hsl0 hi hlen hN hN0 hV hV0 hak hcap hslS hSN hSV hNV hslN hslV hp0 hp1 hd hR
  have hN := ledger3 hS hS0 hN hN0 hV hV0
  refine' enterC (binds := [(Str.ofString "state", .ref S), (Str.ofString "nodes", .ref N), (Str.ofString "above", .ref V), (Str.ofString "deep", .int ((0 : Nat) : Int) td)]) _ ?k1 ?k2 ?k3 hN ?k5 ?k6 ?k7 ?k8 ?k9 ?kD ?_ ?c1 ?c2 ?c3
  (case k1 => exact Gd.X G)
  (case k2 => exact Gd.T G)
  (case k3 => exact st)
  (case k5 => k_is)
  (case k6 => k_is)
  (case k7 => k_room)
  (case k8 => exact BindsTo.of_eq rfl)
  (case k9 => exact rfl)
  (case kD => decide +kernel)
  (case c1 => exact rfl)
  (case c2 => exact rfl)
  (case c3 => exact rfl)
  intro g L' h' tk' cells' hg hL' Xg Tg F' N' Y' lt'
  obtain ⟨o', hE', d1'⟩ := CellsAre.one Y'
  subst hE'
  clear Y'
  have hL2 : @Eq Nat L' s.heap.objs.size := hL'
  have hslg := sl_stays hg hsl hslS hslN hslV
  have stg := ground_stays hg st hN
  have hkeep := fun {h' m} (F : Fr g L' h' m) => keep3 hg F
  clear hg
  simp only [List.cons_append, List.nil_append] at N'
  (try dsimp only); (try k_fold)
  k_lt lt'
  dsimp only [bindL, bindC] at F' d1'
  have hnk : nv.length = nv.length := rfl
  have hp2 : p < 1000 := by dsimp only [costN] at hp1; omega
  have hp3 : p + 1 < 1000 := by dsimp only [costN] at hp1; omega
  have hp4 : 0 ≤ p + 1 := by omega
  dsimp only [capN] at hcap
  clear hS hsl hN hV hN0 hV0
  k_steps
  all_goals (
    refine' leaf_done hR (hkeep (by assumption)) (by assumption) (.head _) (.tail _ (.head _)) ?m1 ?m2 ?m3 ?m4 ?m5 ?o1 ?o2 z9 rd9 (xy_item _) ?o3 fa9 ?o4 ?o5 ?o6 ?o7
    (case m1 => k_mem)
    (case m2 => k_mem)
    (case m3 => k_mem)
    (case m4 => k_mem)
    (case m5 => k_mem)
    (case o1 => omega)
    (case o2 => simp only [costN]; omega)
    (case o3 => decide)
    (case o4 => omega)
    (case o5 => omega)
    (case o6 => omega)
    (case o7 => omega))
end
end
theorem allLt_mem {d : Addr} : ∀ {l : List (Addr × Obj)}, AllLt d l → ∀ q ∈ l, @LT.lt Nat _ q.1 d
  | [], _, q, h => nomatch h
  | p :: r, h, q, hq => by
    rcases List.mem_cons.mp hq with rfl | hq
    · exact h.1
    · exact allLt_mem h.2 q hq
section
variable {H₀ : Heap}
theorem node_done_0 {s : Shared} {S sl N V : Addr} {nv av : List Value} {p p' : Int} {d : Nat} {R : Result → Shared → Prop} (post : GrownPost H₀ s S sl N V nv av p (d + 1) R) {h' g : Heap} {L : Addr} {news : List (Addr × Obj)} {tks : Nat} {x dx l Rw Cl : Addr} {es : List DictEntry} {n nl nR nC nS nN nV : Nat} {a : Str → Option Value} {tt tk tS : Nat}
    (st : H₀.StaysIn g) (kp : ∀ b o, b ≠ S → b ≠ N → b ≠ V → s.heap.get? b = some o → h'.get? b = some o) (NW : News g L h' news) (hx : (x, instObj 225 dx) ∈ news) (hdx : (dx, dictOf es n) ∈ news) (hl : (l, listOf (List.toArray []) nl) ∈ news) (hR : (Rw, listOf [Value.none, .ref Cl].toArray nR) ∈ news) (hC : (Cl, listOf (List.toArray []) nC) ∈ news)
    (hS : (S, listOf [Value.ref sl, .int p' tS].toArray nS) ∈ news) (hN : (N, listOf ((nv ++ [Value.none]).set nv.length (.ref x)).toArray nN) ∈ news) (hV : (V, listOf (av ++ [Value.ref Rw]).toArray nV) ∈ news)
    (hp1 : p ≤ p') (hp2 : p' ≤ p + costN (d + 1)) (z : es.length ≤ 20) (rd : ∀ nm, getL nm es = some (a nm))
    (fc : a (Str.ofString "type") = some (.int (300 + nv.length) tt) ∧ a (Str.ofString "children") = some (.ref l) ∧ a (Str.ofString "parent") = none ∧ ∀ nm, nodeKeys.contains nm = false → a nm = none)
    (q1 : @LT.lt Nat _ s.heap.objs.size Cl) (q2 : @LT.lt Nat _ Cl Rw) (q3 : @LT.lt Nat _ Rw dx) (q4 : @LT.lt Nat _ dx x) (q5 : @LT.lt Nat _ x l) : R (.ok (.ret (.int nv.length tk))) { s with heap := h', toks := tks } := by
  have hl0 : H₀.get? l = none := by
    cases q : H₀.get? l with
    | none => rfl
    | some o => have z := (NW _ hl).2.2; rw [st _ _ q] at z; cases z
  refine post h' tks (Tr.n0 x l) p' tS nS nN nV Rw dx 225 Cl es n nR ([]) ((Cl, listOf (List.toArray []) nC) :: (l, listOf (List.toArray []) nl) :: ([] : List (Addr × Obj))) tk ([]) kp (NW _ hS).1 hp1 hp2 ?eN ?ePre ?eV ?e1 ?e2 ?e3 ?e4 ?e5 ?made
  case eN =>
    have := (NW _ hN).1
    rw [show (nv ++ [Value.none]).set nv.length (.ref x) = nv ++ Value.ref x :: ([]) by simp] at this
    exact this
  case ePre => rfl
  case eV =>
    have := (NW _ hV).1
    rw [show av ++ [Value.ref Rw] = av ++ Value.ref Rw :: ([]) by simp] at this
    exact this
  case e1 => simp only [Tr.size, List.length_append, List.length_cons, List.length_nil]
  case e2 => simp only [Tr.size, List.length_append, List.length_cons, List.length_nil]
  case e3 => simp only [Tr.height]; omega
  case e4 => exact trivial
  case e5 => exact trivial
  case made =>
    refine ⟨(NW _ hx).1, (NW _ hdx).1, (NW _ hR).1, .inl rfl, ⟨a, rd⟩, z, (rd _).trans (congrArg some fc.2.2.1), by omega, q3, q4, ?rest, ?full⟩
    case rest =>
      exact List.forall_mem_cons.mpr ⟨⟨(NW _ hC).1, by show s.heap.objs.size ≤ Cl; omega, neN (a := Cl) (b := Rw) (by omega), neN (a := Cl) (b := dx) (by omega)⟩, List.forall_mem_cons.mpr ⟨⟨(NW _ hl).1, by show s.heap.objs.size ≤ l; omega, neN (a := l) (b := Rw) (by omega), neN (a := l) (b := dx) (by omega)⟩, List.forall_mem_nil _⟩⟩
    case full =>
      intro g2 par pn es' n' nR' pv a' gf g1 g3 r1 r2 g4 hp
      refine ⟨Rw, rfl, ⟨Cl, nR', nC, pv, _, g4, hp, gf _ (.head _), .nil⟩, setPar a' par, ⟨dx, es', n', g1, g3, r2⟩, ?nodeA, nl, gf _ (.tail _ (.head _)), hl0⟩
      rw [getL_fun r1 rd]
      exact nodeA_set fc
theorem node_done_1 {s : Shared} {S sl N V : Addr} {nv av : List Value} {p p' : Int} {d : Nat} {R : Result → Shared → Prop} (post : GrownPost H₀ s S sl N V nv av p (d + 1) R) {h' g : Heap} {L : Addr} {news : List (Addr × Obj)} {tks : Nat} {x dx l Rw Cl : Addr} {es : List DictEntry} {n nl nR nC nS nN nV : Nat} {a : Str → Option Value} {tt tk tS : Nat}
    {h1 : Heap} {T1 : Tr} {k1 lo1 tk1 tn1 tt1 m1 n1 nR1 nQ1 : Nat} {Rw1 dx1 C1 Cl1 : Addr} {es1 : List DictEntry} {hs1 : Int} {rr1 pr1 : List Value} {fa1 : List (Addr × Obj)}
    (st : H₀.StaysIn g) (kp : ∀ b o, b ≠ S → b ≠ N → b ≠ V → s.heap.get? b = some o → h'.get? b = some o) (NW : News g L h' news) (hx : (x, instObj 225 dx) ∈ news) (hdx : (dx, dictOf es n) ∈ news) (hl : (l, listOf (List.toArray [.ref T1.root]) nl) ∈ news) (hR : (Rw, listOf [Value.none, .ref Cl].toArray nR) ∈ news) (hC : (Cl, listOf (List.toArray [.int k1 tk1]) nC) ∈ news)
    (hS : (S, listOf [Value.ref sl, .int p' tS].toArray nS) ∈ news) (hN : (N, listOf (((nv ++ [Value.none]) ++ Value.ref T1.root :: pr1).set nv.length (.ref x)).toArray nN) ∈ news) (hV : (V, listOf ((av ++ [Value.ref Rw]) ++ Value.ref Rw1 :: rr1).toArray nV) ∈ news)
    (hR1 : (Rw1, listOf ([Value.none, .ref Cl1].set 0 (.int nv.length tn1)).toArray nQ1) ∈ news) (hc1 : (T1.root, instObj C1 dx1) ∈ news) (hd1 : (dx1, dictOf (putL (Str.ofString "parent") hs1 (.str (Str.ofString "parent") tt1) (.ref x) es1) m1) ∈ news)
    (hfa : ∀ q ∈ fa1, q ∈ news) (lo : Nat) (bad : List Addr) (hT : Tail (fa1) lo bad) (hat : AllLt dx (fa1)) (hlo : @LT.lt Nat _ Rw lo)
    (M1 : Made H₀ h1 T1 k1 lo1 Rw1 dx1 C1 Cl1 es1 n1 nR1 rr1 fa1) (e1 : k1 = nv.length + 1) (hh1 : T1.height ≤ d) (hsh1 : T1.Short) (hap1 : T1.Apart) (hpre1 : T1.preL = .ref T1.root :: pr1) (hrr1 : rr1.length + 1 = T1.size) (hpr1 : pr1.length + 1 = T1.size) (g1 : @LT.lt Nat _ Rw Rw1) (y1 : @LT.lt Nat _ Rw1 dx1) (w1 : @LT.lt Nat _ dx1 T1.root) (v1 : @LT.lt Nat _ T1.root dx)
    (hp1 : p ≤ p') (hp2 : p' ≤ p + costN (d + 1)) (z : es.length ≤ 20) (rd : ∀ nm, getL nm es = some (a nm))
    (fc : a (Str.ofString "type") = some (.int (300 + nv.length) tt) ∧ a (Str.ofString "children") = some (.ref l) ∧ a (Str.ofString "parent") = none ∧ ∀ nm, nodeKeys.contains nm = false → a nm = none)
    (q1 : @LT.lt Nat _ s.heap.objs.size Cl) (q2 : @LT.lt Nat _ Cl Rw) (q3 : @LT.lt Nat _ Rw dx) (q4 : @LT.lt Nat _ dx x) (q5 : @LT.lt Nat _ x l) : R (.ok (.ret (.int nv.length tk))) { s with heap := h', toks := tks } := by
  subst e1
  have hl0 : H₀.get? l = none := by
    cases q : H₀.get? l with
    | none => rfl
    | some o => have z := (NW _ hl).2.2; rw [st _ _ q] at z; cases z
  obtain ⟨a1, ra1⟩ := M1.reads
  refine post h' tks (Tr.n1 x l T1) p' tS nS nN nV Rw dx 225 Cl es n nR (.ref Rw1 :: rr1) ((Cl, listOf (List.toArray [.int ((nv.length + 1 : Nat) : Int) tk1]) nC) :: (l, listOf (List.toArray [.ref T1.root]) nl) :: (T1.root, instObj C1 dx1) :: (dx1, dictOf (putL (Str.ofString "parent") hs1 (.str (Str.ofString "parent") tt1) (.ref x) es1) m1) :: (Rw1, listOf ([Value.none, .ref Cl1].set 0 (.int nv.length tn1)).toArray nQ1) :: (fa1)) tk (.ref T1.root :: pr1) kp (NW _ hS).1 hp1 hp2 ?eN ?ePre ?eV ?e1 ?e2 ?e3 ?e4 ?e5 ?made
  case eN =>
    have := (NW _ hN).1
    rw [show ((nv ++ [Value.none]) ++ Value.ref T1.root :: pr1).set nv.length (.ref x) = nv ++ Value.ref x :: (.ref T1.root :: pr1) by simp] at this
    exact this
  case ePre => simp only [Tr.preL, Tr.root, hpre1]
  case eV =>
    have := (NW _ hV).1
    rw [show (av ++ [Value.ref Rw]) ++ Value.ref Rw1 :: rr1 = av ++ Value.ref Rw :: (.ref Rw1 :: rr1) by simp] at this
    exact this
  case e1 => simp only [Tr.size, List.length_append, List.length_cons, List.length_nil]; omega
  case e2 => simp only [Tr.size, List.length_append, List.length_cons, List.length_nil]; omega
  case e3 => simp only [Tr.height]; omega
  case e4 => exact hsh1
  case e5 => exact hap1
  case made =>
    refine ⟨(NW _ hx).1, (NW _ hdx).1, (NW _ hR).1, .inl rfl, ⟨a, rd⟩, z, (rd _).trans (congrArg some fc.2.2.1), by omega, q3, q4, ?rest, ?full⟩
    case rest =>
      exact List.forall_mem_cons.mpr ⟨⟨(NW _ hC).1, by show s.heap.objs.size ≤ Cl; omega, neN (a := Cl) (b := Rw) (by omega), neN (a := Cl) (b := dx) (by omega)⟩, List.forall_mem_cons.mpr ⟨⟨(NW _ hl).1, by show s.heap.objs.size ≤ l; omega, neN (a := l) (b := Rw) (by omega), neN (a := l) (b := dx) (by omega)⟩, List.forall_mem_cons.mpr ⟨⟨(NW _ hc1).1, by show s.heap.objs.size ≤ T1.root; omega, neN (a := T1.root) (b := Rw) (by omega), neN (a := T1.root) (b := dx) (by omega)⟩, List.forall_mem_cons.mpr ⟨⟨(NW _ hd1).1, by show s.heap.objs.size ≤ dx1; omega, neN (a := dx1) (b := Rw) (by omega), neN (a := dx1) (b := dx) (by omega)⟩, List.forall_mem_cons.mpr ⟨⟨(NW _ hR1).1, by show s.heap.objs.size ≤ Rw1; omega, neN (a := Rw1) (b := Rw) (by omega), neN (a := Rw1) (b := dx) (by omega)⟩, fun q hq => ⟨(NW _ (hfa q hq)).1, by have := (hT q hq).1; omega, fun e => by have := (hT q hq).1; rw [e] at this; exact absurd (Nat.lt_of_lt_of_le hlo this) (Nat.lt_irrefl _), fun e => by have := allLt_mem hat q hq; rw [e] at this; exact absurd this (Nat.lt_irrefl _)⟩⟩⟩⟩⟩⟩
    case full =>
      intro g2 par pn es' n' nR' pv a' gf g1 g3 r1 r2 g4 hp
      have gt : ∀ q ∈ fa1, g2.get? q.1 = some q.2 := fun q hq => gf q (List.mem_cons_of_mem _ (List.mem_cons_of_mem _ (List.mem_cons_of_mem _ (List.mem_cons_of_mem _ (List.mem_cons_of_mem _ (hq))))))
      refine ⟨Rw, .ref Rw1 :: rr1, rfl, ⟨Cl, nR', nC, pv, _, g4, hp, gf _ (.head _), .cons _ tk1 (.nil)⟩, ⟨setPar a' par, ⟨dx, es', n', g1, g3, r2⟩, ?nodeA, nl, gf _ (.tail _ (.head _)), hl0⟩, M1.full g2 (some x) (some nv.length) _ m1 nQ1 (.int nv.length tn1) a1 (gt) (gf _ (.tail _ (.tail _ (.head _)))) (gf _ (.tail _ (.tail _ (.tail _ (.head _))))) ra1 (fun nm => getL_put ra1 nm) (gf _ (.tail _ (.tail _ (.tail _ (.tail _ (.head _)))))) ⟨tn1, rfl⟩⟩
      rw [getL_fun r1 rd]
      exact nodeA_set fc
theorem node_done_2 {s : Shared} {S sl N V : Addr} {nv av : List Value} {p p' : Int} {d : Nat} {R : Result → Shared → Prop} (post : GrownPost H₀ s S sl N V nv av p (d + 1) R) {h' g : Heap} {L : Addr} {news : List (Addr × Obj)} {tks : Nat} {x dx l Rw Cl : Addr} {es : List DictEntry} {n nl nR nC nS nN nV : Nat} {a : Str → Option Value} {tt tk tS : Nat}
    {h1 : Heap} {T1 : Tr} {k1 lo1 tk1 tn1 tt1 m1 n1 nR1 nQ1 : Nat} {Rw1 dx1 C1 Cl1 : Addr} {es1 : List DictEntry} {hs1 : Int} {rr1 pr1 : List Value} {fa1 : List (Addr × Obj)} {h2 : Heap} {T2 : Tr} {k2 lo2 tk2 tn2 tt2 m2 n2 nR2 nQ2 : Nat} {Rw2 dx2 C2 Cl2 : Addr} {es2 : List DictEntry} {hs2 : Int} {rr2 pr2 : List Value} {fa2 : List (Addr × Obj)}
    (st : H₀.StaysIn g) (kp : ∀ b o, b ≠ S → b ≠ N → b ≠ V → s.heap.get? b = some o → h'.get? b = some o) (NW : News g L h' news) (hx : (x, instObj 225 dx) ∈ news) (hdx : (dx, dictOf es n) ∈ news) (hl : (l, listOf (List.toArray [.ref T1.root, .ref T2.root]) nl) ∈ news) (hR : (Rw, listOf [Value.none, .ref Cl].toArray nR) ∈ news) (hC : (Cl, listOf (List.toArray [.int k1 tk1, .int k2 tk2]) nC) ∈ news)
    (hS : (S, listOf [Value.ref sl, .int p' tS].toArray nS) ∈ news) (hN : (N, listOf ((((nv ++ [Value.none]) ++ Value.ref T1.root :: pr1) ++ Value.ref T2.root :: pr2).set nv.length (.ref x)).toArray nN) ∈ news) (hV : (V, listOf (((av ++ [Value.ref Rw]) ++ Value.ref Rw1 :: rr1) ++ Value.ref Rw2 :: rr2).toArray nV) ∈ news)
    (hR1 : (Rw1, listOf ([Value.none, .ref Cl1].set 0 (.int nv.length tn1)).toArray nQ1) ∈ news) (hc1 : (T1.root, instObj C1 dx1) ∈ news) (hd1 : (dx1, dictOf (putL (Str.ofString "parent") hs1 (.str (Str.ofString "parent") tt1) (.ref x) es1) m1) ∈ news)
    (hR2 : (Rw2, listOf ([Value.none, .ref Cl2].set 0 (.int nv.length tn2)).toArray nQ2) ∈ news) (hc2 : (T2.root, instObj C2 dx2) ∈ news) (hd2 : (dx2, dictOf (putL (Str.ofString "parent") hs2 (.str (Str.ofString "parent") tt2) (.ref x) es2) m2) ∈ news)
    (hfa : ∀ q ∈ fa1 ++ fa2, q ∈ news) (lo : Nat) (bad : List Addr) (hT : Tail (fa1 ++ fa2) lo bad) (hat : AllLt dx (fa1 ++ fa2)) (hlo : @LT.lt Nat _ Rw lo)
    (M1 : Made H₀ h1 T1 k1 lo1 Rw1 dx1 C1 Cl1 es1 n1 nR1 rr1 fa1) (e1 : k1 = nv.length + 1) (hh1 : T1.height ≤ d) (hsh1 : T1.Short) (hap1 : T1.Apart) (hpre1 : T1.preL = .ref T1.root :: pr1) (hrr1 : rr1.length + 1 = T1.size) (hpr1 : pr1.length + 1 = T1.size) (g1 : @LT.lt Nat _ Rw Rw1) (y1 : @LT.lt Nat _ Rw1 dx1) (w1 : @LT.lt Nat _ dx1 T1.root) (v1 : @LT.lt Nat _ T1.root dx)
    (M2 : Made H₀ h2 T2 k2 lo2 Rw2 dx2 C2 Cl2 es2 n2 nR2 rr2 fa2) (e2 : k2 = nv.length + 1 + T1.size) (hh2 : T2.height ≤ d) (hsh2 : T2.Short) (hap2 : T2.Apart) (hpre2 : T2.preL = .ref T2.root :: pr2) (hrr2 : rr2.length + 1 = T2.size) (hpr2 : pr2.length + 1 = T2.size) (g2 : @LT.lt Nat _ Rw Rw2) (y2 : @LT.lt Nat _ Rw2 dx2) (w2 : @LT.lt Nat _ dx2 T2.root) (v2 : @LT.lt Nat _ T2.root dx)
    (u12 : @LT.lt Nat _ T1.root T2.root)
    (hp1 : p ≤ p') (hp2 : p' ≤ p + costN (d + 1)) (z : es.length ≤ 20) (rd : ∀ nm, getL nm es = some (a nm))
    (fc : a (Str.ofString "type") = some (.int (300 + nv.length) tt) ∧ a (Str.ofString "children") = some (.ref l) ∧ a (Str.ofString "parent") = none ∧ ∀ nm, nodeKeys.contains nm = false → a nm = none)
    (q1 : @LT.lt Nat _ s.heap.objs.size Cl) (q2 : @LT.lt Nat _ Cl Rw) (q3 : @LT.lt Nat _ Rw dx) (q4 : @LT.lt Nat _ dx x) (q5 : @LT.lt Nat _ x l) : R (.ok (.ret (.int nv.length tk))) { s with heap := h', toks := tks } := by
  subst e1; subst e2
  have hl0 : H₀.get? l = none := by
    cases q : H₀.get? l with
    | none => rfl
    | some o => have z := (NW _ hl).2.2; rw [st _ _ q] at z; cases z
  obtain ⟨a1, ra1⟩ := M1.reads
  obtain ⟨a2, ra2⟩ := M2.reads
  refine post h' tks (Tr.n2 x l T1 T2) p' tS nS nN nV Rw dx 225 Cl es n nR ((.ref Rw1 :: rr1) ++ ((.ref Rw2 :: rr2))) ((Cl, listOf (List.toArray [.int ((nv.length + 1 : Nat) : Int) tk1, .int ((nv.length + 1 + T1.size : Nat) : Int) tk2]) nC) :: (l, listOf (List.toArray [.ref T1.root, .ref T2.root]) nl) :: (T1.root, instObj C1 dx1) :: (dx1, dictOf (putL (Str.ofString "parent") hs1 (.str (Str.ofString "parent") tt1) (.ref x) es1) m1) :: (Rw1, listOf ([Value.none, .ref Cl1].set 0 (.int nv.length tn1)).toArray nQ1) :: (T2.root, instObj C2 dx2) :: (dx2, dictOf (putL (Str.ofString "parent") hs2 (.str (Str.ofString "parent") tt2) (.ref x) es2) m2) :: (Rw2, listOf ([Value.none, .ref Cl2].set 0 (.int nv.length tn2)).toArray nQ2) :: (fa1 ++ fa2)) tk ((.ref T1.root :: pr1) ++ ((.ref T2.root :: pr2))) kp (NW _ hS).1 hp1 hp2 ?eN ?ePre ?eV ?e1 ?e2 ?e3 ?e4 ?e5 ?made
  case eN =>
    have := (NW _ hN).1
    rw [show (((nv ++ [Value.none]) ++ Value.ref T1.root :: pr1) ++ Value.ref T2.root :: pr2).set nv.length (.ref x) = nv ++ Value.ref x :: ((.ref T1.root :: pr1) ++ ((.ref T2.root :: pr2))) by simp] at this
    exact this
  case ePre => simp only [Tr.preL, Tr.root, hpre1, hpre2]
  case eV =>
    have := (NW _ hV).1
    rw [show ((av ++ [Value.ref Rw]) ++ Value.ref Rw1 :: rr1) ++ Value.ref Rw2 :: rr2 = av ++ Value.ref Rw :: ((.ref Rw1 :: rr1) ++ ((.ref Rw2 :: rr2))) by simp] at this
    exact this
  case e1 => simp only [Tr.size, List.length_append, List.length_cons, List.length_nil]; omega
  case e2 => simp only [Tr.size, List.length_append, List.length_cons, List.length_nil]; omega
  case e3 => simp only [Tr.height]; omega
  case e4 => exact ⟨hsh1, hsh2⟩
  case e5 => exact ⟨hap1, hap2, Nat.ne_of_lt u12⟩
  case made =>
    refine ⟨(NW _ hx).1, (NW _ hdx).1, (NW _ hR).1, .inl rfl, ⟨a, rd⟩, z, (rd _).trans (congrArg some fc.2.2.1), by omega, q3, q4, ?rest, ?full⟩
    case rest =>
      exact List.forall_mem_cons.mpr ⟨⟨(NW _ hC).1, by show s.heap.objs.size ≤ Cl; omega, neN (a := Cl) (b := Rw) (by omega), neN (a := Cl) (b := dx) (by omega)⟩, List.forall_mem_cons.mpr ⟨⟨(NW _ hl).1, by show s.heap.objs.size ≤ l; omega, neN (a := l) (b := Rw) (by omega), neN (a := l) (b := dx) (by omega)⟩, List.forall_mem_cons.mpr ⟨⟨(NW _ hc1).1, by show s.heap.objs.size ≤ T1.root; omega, neN (a := T1.root) (b := Rw) (by omega), neN (a := T1.root) (b := dx) (by omega)⟩, List.forall_mem_cons.mpr ⟨⟨(NW _ hd1).1, by show s.heap.objs.size ≤ dx1; omega, neN (a := dx1) (b := Rw) (by omega), neN (a := dx1) (b := dx) (by omega)⟩, List.forall_mem_cons.mpr ⟨⟨(NW _ hR1).1, by show s.heap.objs.size ≤ Rw1; omega, neN (a := Rw1) (b := Rw) (by omega), neN (a := Rw1) (b := dx) (by omega)⟩, List.forall_mem_cons.mpr ⟨⟨(NW _ hc2).1, by show s.heap.objs.size ≤ T2.root; omega, neN (a := T2.root) (b := Rw) (by omega), neN (a := T2.root) (b := dx) (by omega)⟩, List.forall_mem_cons.mpr ⟨⟨(NW _ hd2).1, by show s.heap.objs.size ≤ dx2; omega, neN (a := dx2) (b := Rw) (by omega), neN (a := dx2) (b := dx) (by omega)⟩, List.forall_mem_cons.mpr ⟨⟨(NW _ hR2).1, by show s.heap.objs.size ≤ Rw2; omega, neN (a := Rw2) (b := Rw) (by omega), neN (a := Rw2) (b := dx) (by omega)⟩, fun q hq => ⟨(NW _ (hfa q hq)).1, by have := (hT q hq).1; omega, fun e => by have := (hT q hq).1; rw [e] at this; exact absurd (Nat.lt_of_lt_of_le hlo this) (Nat.lt_irrefl _), fun e => by have := allLt_mem hat q hq; rw [e] at this; exact absurd this (Nat.lt_irrefl _)⟩⟩⟩⟩⟩⟩⟩⟩⟩
    case full =>
      intro g2 par pn es' n' nR' pv a' gf g1 g3 r1 r2 g4 hp
      have gt : ∀ q ∈ fa1 ++ fa2, g2.get? q.1 = some q.2 := fun q hq => gf q (List.mem_cons_of_mem _ (List.mem_cons_of_mem _ (List.mem_cons_of_mem _ (List.mem_cons_of_mem _ (List.mem_cons_of_mem _ (List.mem_cons_of_mem _ (List.mem_cons_of_mem _ (List.mem_cons_of_mem _ (hq)))))))))
      refine ⟨Rw, .ref Rw1 :: rr1, .ref Rw2 :: rr2, rfl, ⟨Cl, nR', nC, pv, _, g4, hp, gf _ (.head _), .cons _ tk1 (.cons _ tk2 (.nil))⟩, ⟨setPar a' par, ⟨dx, es', n', g1, g3, r2⟩, ?nodeA, nl, gf _ (.tail _ (.head _)), hl0⟩, M1.full g2 (some x) (some nv.length) _ m1 nQ1 (.int nv.length tn1) a1 (fun q hq => gt q (List.mem_append_left _ hq)) (gf _ (.tail _ (.tail _ (.head _)))) (gf _ (.tail _ (.tail _ (.tail _ (.head _))))) ra1 (fun nm => getL_put ra1 nm) (gf _ (.tail _ (.tail _ (.tail _ (.tail _ (.head _)))))) ⟨tn1, rfl⟩, M2.full g2 (some x) (some nv.length) _ m2 nQ2 (.int nv.length tn2) a2 (fun q hq => gt q (List.mem_append_right _ hq)) (gf _ (.tail _ (.tail _ (.tail _ (.tail _ (.tail _ (.head _))))))) (gf _ (.tail _ (.tail _ (.tail _ (.tail _ (.tail _ (.tail _ (.head _)))))))) ra2 (fun nm => getL_put ra2 nm) (gf _ (.tail _ (.tail _ (.tail _ (.tail _ (.tail _ (.tail _ (.tail _ (.head _))))))))) ⟨tn2, rfl⟩⟩
      rw [getL_fun r1 rd]
      exact nodeA_set fc
theorem node_done_3 {s : Shared} {S sl N V : Addr} {nv av : List Value} {p p' : Int} {d : Nat} {R : Result → Shared → Prop} (post : GrownPost H₀ s S sl N V nv av p (d + 1) R) {h' g : Heap} {L : Addr} {news : List (Addr × Obj)} {tks : Nat} {x dx l Rw Cl : Addr} {es : List DictEntry} {n nl nR nC nS nN nV : Nat} {a : Str → Option Value} {tt tk tS : Nat}
    {h1 : Heap} {T1 : Tr} {k1 lo1 tk1 tn1 tt1 m1 n1 nR1 nQ1 : Nat} {Rw1 dx1 C1 Cl1 : Addr} {es1 : List DictEntry} {hs1 : Int} {rr1 pr1 : List Value} {fa1 : List (Addr × Obj)} {h2 : Heap} {T2 : Tr} {k2 lo2 tk2 tn2 tt2 m2 n2 nR2 nQ2 : Nat} {Rw2 dx2 C2 Cl2 : Addr} {es2 : List DictEntry} {hs2 : Int} {rr2 pr2 : List Value} {fa2 : List (Addr × Obj)} {h3 : Heap} {T3 : Tr} {k3 lo3 tk3 tn3 tt3 m3 n3 nR3 nQ3 : Nat} {Rw3 dx3 C3 Cl3 : Addr} {es3 : List DictEntry} {hs3 : Int} {rr3 pr3 : List Value} {fa3 : List (Addr × Obj)}
    (st : H₀.StaysIn g) (kp : ∀ b o, b ≠ S → b ≠ N → b ≠ V → s.heap.get? b = some o → h'.get? b = some o) (NW : News g L h' news) (hx : (x, instObj 225 dx) ∈ news) (hdx : (dx, dictOf es n) ∈ news) (hl : (l, listOf (List.toArray [.ref T1.root, .ref T2.root, .ref T3.root]) nl) ∈ news) (hR : (Rw, listOf [Value.none, .ref Cl].toArray nR) ∈ news) (hC : (Cl, listOf (List.toArray [.int k1 tk1, .int k2 tk2, .int k3 tk3]) nC) ∈ news)
    (hS : (S, listOf [Value.ref sl, .int p' tS].toArray nS) ∈ news) (hN : (N, listOf (((((nv ++ [Value.none]) ++ Value.ref T1.root :: pr1) ++ Value.ref T2.root :: pr2) ++ Value.ref T3.root :: pr3).set nv.length (.ref x)).toArray nN) ∈ news) (hV : (V, listOf ((((av ++ [Value.ref Rw]) ++ Value.ref Rw1 :: rr1) ++ Value.ref Rw2 :: rr2) ++ Value.ref Rw3 :: rr3).toArray nV) ∈ news)
    (hR1 : (Rw1, listOf ([Value.none, .ref Cl1].set 0 (.int nv.length tn1)).toArray nQ1) ∈ news) (hc1 : (T1.root, instObj C1 dx1) ∈ news) (hd1 : (dx1, dictOf (putL (Str.ofString "parent") hs1 (.str (Str.ofString "parent") tt1) (.ref x) es1) m1) ∈ news)
    (hR2 : (Rw2, listOf ([Value.none, .ref Cl2].set 0 (.int nv.length tn2)).toArray nQ2) ∈ news) (hc2 : (T2.root, instObj C2 dx2) ∈ news) (hd2 : (dx2, dictOf (putL (Str.ofString "parent") hs2 (.str (Str.ofString "parent") tt2) (.ref x) es2) m2) ∈ news)
    (hR3 : (Rw3, listOf ([Value.none, .ref Cl3].set 0 (.int nv.length tn3)).toArray nQ3) ∈ news) (hc3 : (T3.root, instObj C3 dx3) ∈ news) (hd3 : (dx3, dictOf (putL (Str.ofString "parent") hs3 (.str (Str.ofString "parent") tt3) (.ref x) es3) m3) ∈ news)
    (hfa : ∀ q ∈ fa1 ++ fa2 ++ fa3, q ∈ news) (lo : Nat) (bad : List Addr) (hT : Tail (fa1 ++ fa2 ++ fa3) lo bad) (hat : AllLt dx (fa1 ++ fa2 ++ fa3)) (hlo : @LT.lt Nat _ Rw lo)
    (M1 : Made H₀ h1 T1 k1 lo1 Rw1 dx1 C1 Cl1 es1 n1 nR1 rr1 fa1) (e1 : k1 = nv.length + 1) (hh1 : T1.height ≤ d) (hsh1 : T1.Short) (hap1 : T1.Apart) (hpre1 : T1.preL = .ref T1.root :: pr1) (hrr1 : rr1.length + 1 = T1.size) (hpr1 : pr1.length + 1 = T1.size) (g1 : @LT.lt Nat _ Rw Rw1) (y1 : @LT.lt Nat _ Rw1 dx1) (w1 : @LT.lt Nat _ dx1 T1.root) (v1 : @LT.lt Nat _ T1.root dx)
    (M2 : Made H₀ h2 T2 k2 lo2 Rw2 dx2 C2 Cl2 es2 n2 nR2 rr2 fa2) (e2 : k2 = nv.length + 1 + T1.size) (hh2 : T2.height ≤ d) (hsh2 : T2.Short) (hap2 : T2.Apart) (hpre2 : T2.preL = .ref T2.root :: pr2) (hrr2 : rr2.length + 1 = T2.size) (hpr2 : pr2.length + 1 = T2.size) (g2 : @LT.lt Nat _ Rw Rw2) (y2 : @LT.lt Nat _ Rw2 dx2) (w2 : @LT.lt Nat _ dx2 T2.root) (v2 : @LT.lt Nat _ T2.root dx)
    (M3 : Made H₀ h3 T3 k3 lo3 Rw3 dx3 C3 Cl3 es3 n3 nR3 rr3 fa3) (e3 : k3 = nv.length + 1 + T1.size + T2.size) (hh3 : T3.height ≤ d) (hsh3 : T3.Short) (hap3 : T3.Apart) (hpre3 : T3.preL = .ref T3.root :: pr3) (hrr3 : rr3.length + 1 = T3.size) (hpr3 : pr3.length + 1 = T3.size) (g3 : @LT.lt Nat _ Rw Rw3) (y3 : @LT.lt Nat _ Rw3 dx3) (w3 : @LT.lt Nat _ dx3 T3.root) (v3 : @LT.lt Nat _ T3.root dx)
    (u12 : @LT.lt Nat _ T1.root T2.root) (u13 : @LT.lt Nat _ T1.root T3.root) (u23 : @LT.lt Nat _ T2.root T3.root)
    (hp1 : p ≤ p') (hp2 : p' ≤ p + costN (d + 1)) (z : es.length ≤ 20) (rd : ∀ nm, getL nm es = some (a nm))
    (fc : a (Str.ofString "type") = some (.int (300 + nv.length) tt) ∧ a (Str.ofString "children") = some (.ref l) ∧ a (Str.ofString "parent") = none ∧ ∀ nm, nodeKeys.contains nm = false → a nm = none)
    (q1 : @LT.lt Nat _ s.heap.objs.size Cl) (q2 : @LT.lt Nat _ Cl Rw) (q3 : @LT.lt Nat _ Rw dx) (q4 : @LT.lt Nat _ dx x) (q5 : @LT.lt Nat _ x l) : R (.ok (.ret (.int nv.length tk))) { s with heap := h', toks := tks } := by
  subst e1; subst e2; subst e3
  have hl0 : H₀.get? l = none := by
    cases q : H₀.get? l with
    | none => rfl
    | some o => have z := (NW _ hl).2.2; rw [st _ _ q] at z; cases z
  obtain ⟨a1, ra1⟩ := M1.reads
  obtain ⟨a2, ra2⟩ := M2.reads
  obtain ⟨a3, ra3⟩ := M3.reads
  refine post h' tks (Tr.n3 x l T1 T2 T3) p' tS nS nN nV Rw dx 225 Cl es n nR ((.ref Rw1 :: rr1) ++ ((.ref Rw2 :: rr2) ++ ((.ref Rw3 :: rr3)))) ((Cl, listOf (List.toArray [.int ((nv.length + 1 : Nat) : Int) tk1, .int ((nv.length + 1 + T1.size : Nat) : Int) tk2, .int ((nv.length + 1 + T1.size + T2.size : Nat) : Int) tk3]) nC) :: (l, listOf (List.toArray [.ref T1.root, .ref T2.root, .ref T3.root]) nl) :: (T1.root, instObj C1 dx1) :: (dx1, dictOf (putL (Str.ofString "parent") hs1 (.str (Str.ofString "parent") tt1) (.ref x) es1) m1) :: (Rw1, listOf ([Value.none, .ref Cl1].set 0 (.int nv.length tn1)).toArray nQ1) :: (T2.root, instObj C2 dx2) :: (dx2, dictOf (putL (Str.ofString "parent") hs2 (.str (Str.ofString "parent") tt2) (.ref x) es2) m2) :: (Rw2, listOf ([Value.none, .ref Cl2].set 0 (.int nv.length tn2)).toArray nQ2) :: (T3.root, instObj C3 dx3) :: (dx3, dictOf (putL (Str.ofString "parent") hs3 (.str (Str.ofString "parent") tt3) (.ref x) es3) m3) :: (Rw3, listOf ([Value.none, .ref Cl3].set 0 (.int nv.length tn3)).toArray nQ3) :: (fa1 ++ fa2 ++ fa3)) tk ((.ref T1.root :: pr1) ++ ((.ref T2.root :: pr2) ++ ((.ref T3.root :: pr3)))) kp (NW _ hS).1 hp1 hp2 ?eN ?ePre ?eV ?e1 ?e2 ?e3 ?e4 ?e5 ?made
  case eN =>
    have := (NW _ hN).1
    rw [show ((((nv ++ [Value.none]) ++ Value.ref T1.root :: pr1) ++ Value.ref T2.root :: pr2) ++ Value.ref T3.root :: pr3).set nv.length (.ref x) = nv ++ Value.ref x :: ((.ref T1.root :: pr1) ++ ((.ref T2.root :: pr2) ++ ((.ref T3.root :: pr3)))) by simp] at this
    exact this
  case ePre => simp only [Tr.preL, Tr.root, hpre1, hpre2, hpre3]
  case eV =>
    have := (NW _ hV).1
    rw [show (((av ++ [Value.ref Rw]) ++ Value.ref Rw1 :: rr1) ++ Value.ref Rw2 :: rr2) ++ Value.ref Rw3 :: rr3 = av ++ Value.ref Rw :: ((.ref Rw1 :: rr1) ++ ((.ref Rw2 :: rr2) ++ ((.ref Rw3 :: rr3)))) by simp] at this
    exact this
  case e1 => simp only [Tr.size, List.length_append, List.length_cons, List.length_nil]; omega
  case e2 => simp only [Tr.size, List.length_append, List.length_cons, List.length_nil]; omega
  case e3 => simp only [Tr.height]; omega
  case e4 => exact ⟨hsh1, hsh2, hsh3⟩
  case e5 => exact ⟨hap1, hap2, hap3, Nat.ne_of_lt u12, Nat.ne_of_lt u13, Nat.ne_of_lt u23⟩
  case made =>
    refine ⟨(NW _ hx).1, (NW _ hdx).1, (NW _ hR).1, .inl rfl, ⟨a, rd⟩, z, (rd _).trans (congrArg some fc.2.2.1), by omega, q3, q4, ?rest, ?full⟩
    case rest =>
      exact List.forall_mem_cons.mpr ⟨⟨(NW _ hC).1, by show s.heap.objs.size ≤ Cl; omega, neN (a := Cl) (b := Rw) (by omega), neN (a := Cl) (b := dx) (by omega)⟩, List.forall_mem_cons.mpr ⟨⟨(NW _ hl).1, by show s.heap.objs.size ≤ l; omega, neN (a := l) (b := Rw) (by omega), neN (a := l) (b := dx) (by omega)⟩, List.forall_mem_cons.mpr ⟨⟨(NW _ hc1).1, by show s.heap.objs.size ≤ T1.root; omega, neN (a := T1.root) (b := Rw) (by omega), neN (a := T1.root) (b := dx) (by omega)⟩, List.forall_mem_cons.mpr ⟨⟨(NW _ hd1).1, by show s.heap.objs.size ≤ dx1; omega, neN (a := dx1) (b := Rw) (by omega), neN (a := dx1) (b := dx) (by omega)⟩, List.forall_mem_cons.mpr ⟨⟨(NW _ hR1).1, by show s.heap.objs.size ≤ Rw1; omega, neN (a := Rw1) (b := Rw) (by omega), neN (a := Rw1) (b := dx) (by omega)⟩, List.forall_mem_cons.mpr ⟨⟨(NW _ hc2).1, by show s.heap.objs.size ≤ T2.root; omega, neN (a := T2.root) (b := Rw) (by omega), neN (a := T2.root) (b := dx) (by omega)⟩, List.forall_mem_cons.mpr ⟨⟨(NW _ hd2).1, by show s.heap.objs.size ≤ dx2; omega, neN (a := dx2) (b := Rw) (by omega), neN (a := dx2) (b := dx) (by omega)⟩, List.forall_mem_cons.mpr ⟨⟨(NW _ hR2).1, by show s.heap.objs.size ≤ Rw2; omega, neN (a := Rw2) (b := Rw) (by omega), neN (a := Rw2) (b := dx) (by omega)⟩, List.forall_mem_cons.mpr ⟨⟨(NW _ hc3).1, by show s.heap.objs.size ≤ T3.root; omega, neN (a := T3.root) (b := Rw) (by omega), neN (a := T3.root) (b := dx) (by omega)⟩, List.forall_mem_cons.mpr ⟨⟨(NW _ hd3).1, by show s.heap.objs.size ≤ dx3; omega, neN (a := dx3) (b := Rw) (by omega), neN (a := dx3) (b := dx) (by omega)⟩, List.forall_mem_cons.mpr ⟨⟨(NW _ hR3).1, by show s.heap.objs.size ≤ Rw3; omega, neN (a := Rw3) (b := Rw) (by omega), neN (a := Rw3) (b := dx) (by omega)⟩, fun q hq => ⟨(NW _ (hfa q hq)).1, by have := (hT q hq).1; omega, fun e => by have := (hT q hq).1; rw [e] at this; exact absurd (Nat.lt_of_lt_of_le hlo this) (Nat.lt_irrefl _), fun e => by have := allLt_mem hat q hq; rw [e] at this; exact absurd this (Nat.lt_irrefl _)⟩⟩⟩⟩⟩⟩⟩⟩⟩⟩⟩⟩
    case full =>
      intro g2 par pn es' n' nR' pv a' gf g1 g3 r1 r2 g4 hp
      have gt : ∀ q ∈ fa1 ++ fa2 ++ fa3, g2.get? q.1 = some q.2 := fun q hq => gf q (List.mem_cons_of_mem _ (List.mem_cons_of_mem _ (List.mem_cons_of_mem _ (List.mem_cons_of_mem _ (List.mem_cons_of_mem _ (List.mem_cons_of_mem _ (List.mem_cons_of_mem _ (List.mem_cons_of_mem _ (List.mem_cons_of_mem _ (List.mem_cons_of_mem _ (List.mem_cons_of_mem _ (hq))))))))))))
      refine ⟨Rw, .ref Rw1 :: rr1, .ref Rw2 :: rr2, .ref Rw3 :: rr3, rfl, ⟨Cl, nR', nC, pv, _, g4, hp, gf _ (.head _), .cons _ tk1 (.cons _ tk2 (.cons _ tk3 (.nil)))⟩, ⟨setPar a' par, ⟨dx, es', n', g1, g3, r2⟩, ?nodeA, nl, gf _ (.tail _ (.head _)), hl0⟩, M1.full g2 (some x) (some nv.length) _ m1 nQ1 (.int nv.length tn1) a1 (fun q hq => gt q (List.mem_append_left _ (List.mem_append_left _ hq))) (gf _ (.tail _ (.tail _ (.head _)))) (gf _ (.tail _ (.tail _ (.tail _ (.head _))))) ra1 (fun nm => getL_put ra1 nm) (gf _ (.tail _ (.tail _ (.tail _ (.tail _ (.head _)))))) ⟨tn1, rfl⟩, M2.full g2 (some x) (some nv.length) _ m2 nQ2 (.int nv.length tn2) a2 (fun q hq => gt q (List.mem_append_left _ (List.mem_append_right _ hq))) (gf _ (.tail _ (.tail _ (.tail _ (.tail _ (.tail _ (.head _))))))) (gf _ (.tail _ (.tail _ (.tail _ (.tail _ (.tail _ (.tail _ (.head _)))))))) ra2 (fun nm => getL_put ra2 nm) (gf _ (.tail _ (.tail _ (.tail _ (.tail _ (.tail _ (.tail _ (.tail _ (.head _))))))))) ⟨tn2, rfl⟩, M3.full g2 (some x) (some nv.length) _ m3 nQ3 (.int nv.length tn3) a3 (fun q hq => gt q (List.mem_append_right _ hq)) (gf _ (.tail _ (.tail _ (.tail _ (.tail _ (.tail _ (.tail _ (.tail _ (.tail _ (.head _)))))))))) (gf _ (.tail _ (.tail _ (.tail _ (.tail _ (.tail _ (.tail _ (.tail _ (.tail _ (.tail _ (.head _))))))))))) ra3 (fun nm => getL_put ra3 nm) (gf _ (.tail _ (.tail _ (.tail _ (.tail _ (.tail _ (.tail _ (.tail _ (.tail _ (.tail _ (.tail _ (.head _)))))))))))) ⟨tn3, rfl⟩⟩
      rw [getL_fun r1 rd]
      exact nodeA_set fc
end
section
set_option hygiene false in
local macro_rules | `(tactic| walk_at "mine:isC") => `(tactic| first | k_is | (rcases hC1 with hCC | hCC <;> subst hCC <;> k_is) | (rcases hC2 with hCC | hCC <;> subst hCC <;> k_is) | (rcases hC3 with hCC | hCC <;> subst hCC <;> k_is))
local macro_rules | `(tactic| walk_at "getAttr ref") => `(tactic| (k_here; k_dflt (
  refine' attr_cls_news ?k1 ?k2 ?k3 ?j1 ?j2 ?k4 ?k5 ?k6 ?k7 ?k8 ?k9 ?k10 ?_; (case k1 => k_asm); (case k2 => k_asm); (case k3 => k_asm); (case j1 => k_mem); (case j2 => k_mem); (case k4 => with_reducible assumption); (case k5 => walk_at "mine:isC"); (case k6 => walk_at "mine:isC"); (case k7 => walk_at "mine:isC"); (case k8 => walk_at "mine:isC"); (case k9 => k_handed); (case k10 => decide +kernel); k_whole)))
set_option hygiene false in
local macro_rules | `(tactic| walk_at "mine:have") => `(tactic| first | (rw [p1]; rfl) | (rw [p2]; rfl) | (rw [p3]; rfl))
local macro_rules | `(tactic| walk_at "setAttr ref") => `(tactic| (k_here; (with_reducible show wpAny _ _ (setAttr (Value.ref _) (Str.ofString "parent") _) _ _ _); k_dflt (
  refine' set_dict ?F ?X ?N ?I ?d ?hs ?hp ?ht ?hh ?hl ?e ?U ?hz ?_; (case F => k_asm); (case X => k_asm); (case N => k_asm); (case I => k_inst); (case d => exact rfl); (case hs => walk_at "mine:isC"); (case hp => walk_at "mine:isC"); (case ht => walk_at "mine:isC"); (case hh => walk_at "mine:isC"); (case hl => walk_at "mine:have"); (case e => exact rfl); (case U => k_upd); (case hz => exact Nat.le_trans (putL_length ..) (by omega)); k_whole); intro h' F' N'; (try k_sweep)))
set_option hygiene false in
local macro_rules | `(tactic| walk_at "call ref") => `(tactic| (k_here; (with_reducible show wpAny _ _ (call (Value.ref 305) _) _ _ _); k_dflt (refine' leaf_use G ?k1 ?k2 ?k3 ?k4 ?k5 ?k6 ?k7 ?k8 ?_; (case k1 => k_asm); (case k2 => k_asm); (case k3 => k_asm); (case k4 => assumption); (case k5 => k_mem); (case k6 => k_mem); (case k7 => omega); (case k8 => k_room); k_whole); intro x9 dx9 h' tks9 es9 n9 a9 F' N' l1 l2 z9 rd9 fa9; (try k_lt l1); (try k_sweep)))
local macro_rules | `(tactic| k_ne) => `(tactic| first | exact NeA.h (by with_reducible assumption) | exact NeA.s (by with_reducible assumption) | (refine neN ?_; (try dsimp only); omega))
local macro_rules | `(tactic| walk_at "mine:thin") => `(tactic| (repeat (rename (@LT.lt Nat _ _ _ ∧ _) => hq9; (have hq8 := hq9.1); (try have hq7 := hq9.2.1); clear hq9)))
local macro_rules | `(tactic| walk_at "mine:bad") => `(tactic| first | exact List.forall_mem_nil _ | (refine' List.forall_mem_cons.mpr ⟨⟨_, ?a⟩, ?b⟩; (case a => k_mem); (case b => walk_at "mine:bad")))
local macro_rules | `(tactic| walk_at "mine:tail") => `(tactic| first | exact List.forall_mem_nil _ | (intro q9 hq9; repeat (first | exact hq9 | refine List.mem_cons_of_mem _ ?_)))
set_option hygiene false in
local macro_rules | `(tactic| walk_at "call ref") => `(tactic| (k_here; (with_reducible show wpAny _ _ (call (Value.ref 333) _) _ _ _); (walk_at "mine:thin"); k_dflt (refine' use_grown ihG ?k1 ?k2 ?k3 ?k4 ?j1 ?j2 ?j3 ?u1 ?u2 ?u3 ?k5 ?k6 ?k7 ?k8 ?k9 ?k10 ?k11 ?k12 ?k13 ?q1 ?q2 ?q3 ?q4 ?q5 ?q6 ?k14 ?k15 ?k16 ?t1 ?t2 ?t3 ?t4 ?_; (case k1 => k_asm); (case k2 => k_asm); (case k3 => assumption); (case k4 => omega); (case j1 => k_mem); (case j2 => k_mem); (case j3 => k_mem); (case u1 => k_updF); (case u2 => (intro a9; k_updF)); (case u3 => (intro a9 b9; k_updF)); (case k5 => assumption); (case k6 => assumption); (case k7 => assumption); (case k8 => assumption); (case k9 => assumption); (case k10 => assumption); (case k11 => assumption); (case k12 => (simp only [List.length_append, List.length_cons, List.length_nil]; omega)); (case k13 => (simp only [List.length_append, List.length_cons, List.length_nil]; omega)); (case q1 => exact NeA.h (by assumption)); (case q2 => exact NeA.h (by assumption)); (case q3 => exact NeA.h (by assumption)); (case q4 => exact NeA.h (by assumption)); (case q5 => exact NeA.h (by assumption)); (case q6 => exact NeA.h (by assumption)); (case k14 => omega); (case k15 => omega); (case k16 => k_room); (case t1 => first | exact hT9 | exact (Tail.nil : Tail [] _ [])); (case t2 => walk_at "mine:tail"); (case t3 => walk_at "mine:bad"); (case t4 => first | exact Nat.le_refl _ | exact tail_lo hlo9 (by k_asm) (by k_mem)); k_whole); (try clear hT9); (try clear hlo9); intro h' tks9 T9 p9 tS9 nS9 nN9 nV9 Rw9 dx9 C9 Cl9 es9 n9 nR9 rr9 fa9 tk9 pr9 F' N' l1 l2 l3 l4 hp91 hp92 hpre9 hrr9 hpr9 hh9 hsh9 hap9 M9 hT9 hlo9; (have hsz9 := size_cap _ hh9); (have hrp9 : rr9.length = pr9.length := by omega); (try dsimp only at N'); (try simp only [List.cons_append, List.nil_append] at N' hT9); (try dsimp only at l2); (try dsimp only at hT9); (try dsimp only at M9); k_lt l1; (have l1a := l1.1); (have l1b := l1.2.1); clear l1; (try k_sweep)))
set_option hygiene false in
local macro_rules | `(tactic| walk_at "call type:range") => `(tactic| (k_here; (with_reducible show wpAny _ _ (call (Value.type "range") [Value.int kk _]) _ _ _); (have h9 : kk = 0 ∨ kk = 1 ∨ kk = 2 ∨ kk = 3 := by omega); rcases h9 with h9 | h9 | h9 | h9 <;> subst h9))
local macro_rules | `(tactic| k_all) => `(tactic| exact fun p hp => Nat.ne_of_lt (allLt_mem (by assumption) p hp))
local macro_rules | `(tactic| walk_at "mine:drop") => `(tactic| first | (refine' Drop.head ?a; (case a => k_all)) | (refine' Drop.tail ?a ?b; (case a => k_ne); (case b => walk_at "mine:drop")))
local macro_rules | `(tactic| walk_at "UnrEnd") => `(tactic| (k_here; k_dflt (refine' unrEnd_drop ?k1 ?k2 ?k3 ?_; (case k1 => k_asm); (case k2 => k_asm); (case k3 => walk_at "mine:drop")); (try dsimp only); (first | (refine' And.intro ?mm ?_; (case mm => k_mem)) | skip)))
local macro_rules | `(tactic| walk_at "exec For Name Subscript cons nil") => `(tactic| (k_here; (walk_at "mine:thin"); (rename Fr _ _ _ _ => lF'); (with_unfolding_all refine' For_invVF lF' ?k1 ?k2 ?_; (case k1 => exact rfl); (case k2 => exact rfl); k_whole)))
local macro_rules | `(tactic| walk_at "pyIter ref") => `(tactic| (k_here; (with_reducible show wpAny _ _ (pyIter (Value.ref _)) (fun it s₂ => LoopAtV _ _ _ _ _ _ _ _ _ it s₂) _ _); k_dflt (refine' iter_listUnr ?k0 ?k1 ?k2 ?k3 ?k4 ?k5 ?_; (case k0 => exact rfl); (case k1 => k_asm); (case k2 => k_asm); (case k3 => k_mem); (case k4 => exact rfl); (case k5 => exact rfl); k_whole); intro I9 l1; k_lt l1; ((have hat8 := l1); (repeat replace hat8 := hat8.2); (have l1a := l1.1); (have l1b := l1.2.1); clear l1)))
local macro_rules | `(tactic| walk_at "CompSrc") => `(tactic| (k_here; k_dflt (refine LCg.CompSrc.ledger (by rfl) (by k_asm) (by k_asm) (by k_mem) (by exact Nat.le_of_ble_eq_true rfl) ?_; intro g'; lcg_lit)))
local macro_rules | `(tactic| walk_at "CompRest") => `(tactic| (with_unfolding_all first
  | (refine LCg.CompRest.succ ?_; intro v' I' oI' C' oC' D' m' h' tk' E' hv' hC' hx' F' N' off' ne'; lcg_open hv')
  | refine LCg.CompRest.zero ?_))
local macro_rules | `(tactic| walk_at "CompEnd") => `(tactic| (k_here; k_dflt (refine LCg.CompEnd.intro (by k_asm) (by k_asm) _ (fun p hp => hp) (by with_reducible assumption) (by lcg_src) ?_)))
set_option hygiene false in
local macro_rules | `(tactic| walk_at "call ref") => `(tactic| (k_here; (with_reducible show wpAny _ _ (call (Value.ref 225) _) _ _ _); k_dflt (refine' node_use_0 G ?a1 ?a2 ?a3 ?a4 ?a5 ?hd ?_; (case a1 => k_asm); (case a2 => k_asm); (case a3 => k_asm); (case a4 => assumption); (case a5 => k_mem); (case hd => k_room); k_whole); intro x9 dx9 h' tks9 es9 n9 l9 nl9 a9 F' N' l1 l2 l3 z9 rd9 fa9; (try dsimp only at N'); k_lt l1; ((have l1a := l1.1); (have l1b := l1.2.1); clear l1); (try k_sweep)))
set_option hygiene false in
local macro_rules | `(tactic| walk_at "call ref") => `(tactic| (k_here; (with_reducible show wpAny _ _ (call (Value.ref 225) _) _ _ _); k_dflt (refine' node_use_1 G ?a1 ?a2 ?a3 ?a4 ?a5 ?b1 ?c1 ?e1 ?f1 ?g1 ?u1 ?q0 ?r1 ?s1 ?hd ?_; (case a1 => k_asm); (case a2 => k_asm); (case a3 => k_asm); (case a4 => assumption); (case a5 => k_mem); (case b1 => k_mem); (case c1 => k_mem); (case e1 => exact Made.cls (by with_reducible assumption)); (case f1 => exact Made.nopar (by with_reducible assumption)); (case g1 => exact Made.short (by with_reducible assumption)); (case u1 => k_updF); (case q0 => omega); (case r1 => omega); (case s1 => omega); (case hd => k_room); k_whole); intro x9 dx9 h' tks9 es9 n9 l9 nl9 a9 ob1 hs1 tt1 mm1 eq1 F' N' l1 l2 l3 z9 rd9 fa9; subst eq1; (try dsimp only at N'); k_lt l1; (have hat9 := l1); (repeat replace hat9 := hat9.2); ((have l1a := l1.1); (have l1b := l1.2.1); clear l1); (try k_sweep)))
set_option hygiene false in
local macro_rules | `(tactic| walk_at "call ref") => `(tactic| (k_here; (with_reducible show wpAny _ _ (call (Value.ref 225) _) _ _ _); k_dflt (refine' node_use_2 G ?a1 ?a2 ?a3 ?a4 ?a5 ?b1 ?c1 ?e1 ?f1 ?g1 ?u1 ?b2 ?c2 ?e2 ?f2 ?g2 ?u2 ?q0 ?q1 ?q2 ?r1 ?s1 ?r2 ?s2 ?hd ?_; (case a1 => k_asm); (case a2 => k_asm); (case a3 => k_asm); (case a4 => assumption); (case a5 => k_mem); (case b1 => k_mem); (case c1 => k_mem); (case e1 => exact Made.cls (by with_reducible assumption)); (case f1 => exact Made.nopar (by with_reducible assumption)); (case g1 => exact Made.short (by with_reducible assumption)); (case u1 => k_updF); (case b2 => k_mem); (case c2 => k_mem); (case e2 => exact Made.cls (by with_reducible assumption)); (case f2 => exact Made.nopar (by with_reducible assumption)); (case g2 => exact Made.short (by with_reducible assumption)); (case u2 => (intro y1; k_updF)); (case q0 => omega); (case q1 => omega); (case q2 => omega); (case r1 => omega); (case s1 => omega); (case r2 => omega); (case s2 => omega); (case hd => k_room); k_whole); intro x9 dx9 h' tks9 es9 n9 l9 nl9 a9 ob1 hs1 tt1 mm1 eq1 ob2 hs2 tt2 mm2 eq2 F' N' l1 l2 l3 z9 rd9 fa9; subst eq1; subst eq2; (try dsimp only at N'); k_lt l1; (have hat9 := l1); (repeat replace hat9 := hat9.2); ((have l1a := l1.1); (have l1b := l1.2.1); clear l1); (try k_sweep)))
set_option hygiene false in
local macro_rules | `(tactic| walk_at "call ref") => `(tactic| (k_here; (with_reducible show wpAny _ _ (call (Value.ref 225) _) _ _ _); k_dflt (refine' node_use_3 G ?a1 ?a2 ?a3 ?a4 ?a5 ?b1 ?c1 ?e1 ?f1 ?g1 ?u1 ?b2 ?c2 ?e2 ?f2 ?g2 ?u2 ?b3 ?c3 ?e3 ?f3 ?g3 ?u3 ?q0 ?q1 ?q2 ?q3 ?q4 ?r1 ?s1 ?r2 ?s2 ?r3 ?s3 ?hd ?_; (case a1 => k_asm); (case a2 => k_asm); (case a3 => k_asm); (case a4 => assumption); (case a5 => k_mem); (case b1 => k_mem); (case c1 => k_mem); (case e1 => exact Made.cls (by with_reducible assumption)); (case f1 => exact Made.nopar (by with_reducible assumption)); (case g1 => exact Made.short (by with_reducible assumption)); (case u1 => k_updF); (case b2 => k_mem); (case c2 => k_mem); (case e2 => exact Made.cls (by with_reducible assumption)); (case f2 => exact Made.nopar (by with_reducible assumption)); (case g2 => exact Made.short (by with_reducible assumption)); (case u2 => (intro y1; k_updF)); (case b3 => k_mem); (case c3 => k_mem); (case e3 => exact Made.cls (by with_reducible assumption)); (case f3 => exact Made.nopar (by with_reducible assumption)); (case g3 => exact Made.short (by with_reducible assumption)); (case u3 => (intro y1 y2; k_updF)); (case q0 => omega); (case q1 => omega); (case q2 => omega); (case q3 => omega); (case q4 => omega); (case r1 => omega); (case s1 => omega); (case r2 => omega); (case s2 => omega); (case r3 => omega); (case s3 => omega); (case hd => k_room); k_whole); intro x9 dx9 h' tks9 es9 n9 l9 nl9 a9 ob1 hs1 tt1 mm1 eq1 ob2 hs2 tt2 mm2 eq2 ob3 hs3 tt3 mm3 eq3 F' N' l1 l2 l3 z9 rd9 fa9; subst eq1; subst eq2; subst eq3; (try dsimp only at N'); k_lt l1; (have hat9 := l1); (repeat replace hat9 := hat9.2); ((have l1a := l1.1); (have l1b := l1.2.1); clear l1); (try k_sweep)))
set_option hygiene false in
local macro_rules | `(tactic| walk_at "mine:leaf") => `(tactic| (refine' leaf_done hR (hkeep (by assumption)) (by assumption) (.head _) (.tail _ (.head _)) ?m1 ?m2 ?m3 ?m4 ?m5 ?o1 ?o2 z9 rd9 (xy_item _) ?o3 fa9 ?o4 ?o5 ?o6 ?o7; (case m1 => k_mem); (case m2 => k_mem); (case m3 => k_mem); (case m4 => k_mem); (case m5 => k_mem); (case o1 => omega); (case o2 => (simp only [costN]; omega)); (case o3 => decide); (case o4 => omega); (case o5 => omega); (case o6 => omega); (case o7 => omega)))
set_option hygiene false in
local macro_rules | `(tactic| walk_at "mine:done0") => `(tactic| (k_dflt (refine' node_done_0 hR stg (hkeep (by assumption)) (by assumption) ?hx ?hdx ?hl ?hR ?hC ?hS ?hN ?hV ?p1 ?p2 z9 rd9 fa9 ?q1 ?q2 ?q3 ?q4 ?q5); (case hx => k_mem); (case hdx => k_mem); (case hl => k_mem); (case hR => k_mem); (case hC => k_mem); (case hS => k_mem); (case hN => k_mem); (case hV => k_mem); (case p1 => omega); (case p2 => (simp only [costN]; omega)); (case q1 => omega); (case q2 => omega); (case q3 => omega); (case q4 => omega); (case q5 => omega)))
set_option hygiene false in
local macro_rules | `(tactic| walk_at "mine:done1") => `(tactic| (k_dflt (refine' node_done_1 hR stg (hkeep (by assumption)) (by assumption) ?hx ?hdx ?hl ?hR ?hC ?hS ?hN ?hV ?hR1 ?hc1 ?hd1 ?hfa _ _ ?hT ?hat ?hlo ?M1 ?e1 ?hh1 ?hsh1 ?hap1 ?pre1 ?rr1 ?pr1 ?g1 ?y1 ?w1 ?v1 ?p1 ?p2 z9 rd9 fa9 ?q1 ?q2 ?q3 ?q4 ?q5); (case hx => k_mem); (case hdx => k_mem); (case hl => k_mem); (case M1 => with_reducible assumption); (case pre1 => with_reducible assumption); (case hR => k_mem); (case hC => k_mem); (case hS => k_mem); (case hN => k_mem); (case hV => k_mem); (case hc1 => k_mem); (case hd1 => k_mem); (case hR1 => k_mem); (case hT => exact hT9); (case hfa => walk_at "mine:tail"); (case hat => exact hat9); (case hlo => omega); (case hh1 => with_reducible assumption); (case hsh1 => with_reducible assumption); (case hap1 => with_reducible assumption); (case rr1 => with_reducible assumption); (case pr1 => with_reducible assumption); (case e1 => (simp only [List.length_append, List.length_cons, List.length_nil]; try omega)); (case g1 => omega); (case y1 => omega); (case w1 => omega); (case v1 => omega); (case p1 => omega); (case p2 => (simp only [costN]; omega)); (case q1 => omega); (case q2 => omega); (case q3 => omega); (case q4 => omega); (case q5 => omega)))
set_option hygiene false in
local macro_rules | `(tactic| walk_at "mine:done2") => `(tactic| (k_dflt (refine' node_done_2 hR stg (hkeep (by assumption)) (by assumption) ?hx ?hdx ?hl ?hR ?hC ?hS ?hN ?hV ?hR1 ?hc1 ?hd1 ?hR2 ?hc2 ?hd2 ?hfa _ _ ?hT ?hat ?hlo ?M1 ?e1 ?hh1 ?hsh1 ?hap1 ?pre1 ?rr1 ?pr1 ?g1 ?y1 ?w1 ?v1 ?M2 ?e2 ?hh2 ?hsh2 ?hap2 ?pre2 ?rr2 ?pr2 ?g2 ?y2 ?w2 ?v2 ?u12 ?p1 ?p2 z9 rd9 fa9 ?q1 ?q2 ?q3 ?q4 ?q5); (case hx => k_mem); (case hdx => k_mem); (case hl => k_mem); (case M1 => with_reducible assumption); (case M2 => with_reducible assumption); (case pre1 => with_reducible assumption); (case pre2 => with_reducible assumption); (case hR => k_mem); (case hC => k_mem); (case hS => k_mem); (case hN => k_mem); (case hV => k_mem); (case hc1 => k_mem); (case hd1 => k_mem); (case hR1 => k_mem); (case hc2 => k_mem); (case hd2 => k_mem); (case hR2 => k_mem); (case hT => exact hT9); (case hfa => walk_at "mine:tail"); (case hat => exact hat9); (case hlo => omega); (case hh1 => with_reducible assumption); (case hsh1 => with_reducible assumption); (case hap1 => with_reducible assumption); (case rr1 => with_reducible assumption); (case pr1 => with_reducible assumption); (case e1 => (simp only [List.length_append, List.length_cons, List.length_nil]; try omega)); (case g1 => omega); (case y1 => omega); (case w1 => omega); (case v1 => omega); (case hh2 => with_reducible assumption); (case hsh2 => with_reducible assumption); (case hap2 => with_reducible assumption); (case rr2 => with_reducible assumption); (case pr2 => with_reducible assumption); (case e2 => (simp only [List.length_append, List.length_cons, List.length_nil]; try omega)); (case g2 => omega); (case y2 => omega); (case w2 => omega); (case v2 => omega); (case u12 => omega); (case p1 => omega); (case p2 => (simp only [costN]; omega)); (case q1 => omega); (case q2 => omega); (case q3 => omega); (case q4 => omega); (case q5 => omega)))
set_option hygiene false in
local macro_rules | `(tactic| walk_at "mine:done3") => `(tactic| (k_dflt (refine' node_done_3 hR stg (hkeep (by assumption)) (by assumption) ?hx ?hdx ?hl ?hR ?hC ?hS ?hN ?hV ?hR1 ?hc1 ?hd1 ?hR2 ?hc2 ?hd2 ?hR3 ?hc3 ?hd3 ?hfa _ _ ?hT ?hat ?hlo ?M1 ?e1 ?hh1 ?hsh1 ?hap1 ?pre1 ?rr1 ?pr1 ?g1 ?y1 ?w1 ?v1 ?M2 ?e2 ?hh2 ?hsh2 ?hap2 ?pre2 ?rr2 ?pr2 ?g2 ?y2 ?w2 ?v2 ?M3 ?e3 ?hh3 ?hsh3 ?hap3 ?pre3 ?rr3 ?pr3 ?g3 ?y3 ?w3 ?v3 ?u12 ?u13 ?u23 ?p1 ?p2 z9 rd9 fa9 ?q1 ?q2 ?q3 ?q4 ?q5); (case hx => k_mem); (case hdx => k_mem); (case hl => k_mem); (case M1 => with_reducible assumption); (case M2 => with_reducible assumption); (case M3 => with_reducible assumption); (case pre1 => with_reducible assumption); (case pre2 => with_reducible assumption); (case pre3 => with_reducible assumption); (case hR => k_mem); (case hC => k_mem); (case hS => k_mem); (case hN => k_mem); (case hV => k_mem); (case hc1 => k_mem); (case hd1 => k_mem); (case hR1 => k_mem); (case hc2 => k_mem); (case hd2 => k_mem); (case hR2 => k_mem); (case hc3 => k_mem); (case hd3 => k_mem); (case hR3 => k_mem); (case hT => exact hT9); (case hfa => walk_at "mine:tail"); (case hat => exact hat9); (case hlo => omega); (case hh1 => with_reducible assumption); (case hsh1 => with_reducible assumption); (case hap1 => with_reducible assumption); (case rr1 => with_reducible assumption); (case pr1 => with_reducible assumption); (case e1 => (simp only [List.length_append, List.length_cons, List.length_nil]; try omega)); (case g1 => omega); (case y1 => omega); (case w1 => omega); (case v1 => omega); (case hh2 => with_reducible assumption); (case hsh2 => with_reducible assumption); (case hap2 => with_reducible assumption); (case rr2 => with_reducible assumption); (case pr2 => with_reducible assumption); (case e2 => (simp only [List.length_append, List.length_cons, List.length_nil]; try omega)); (case g2 => omega); (case y2 => omega); (case w2 => omega); (case v2 => omega); (case hh3 => with_reducible assumption); (case hsh3 => with_reducible assumption); (case hap3 => with_reducible assumption); (case rr3 => with_reducible assumption); (case pr3 => with_reducible assumption); (case e3 => (simp only [List.length_append, List.length_cons, List.length_nil]; try omega)); (case g3 => omega); (case y3 => omega); (case w3 => omega); (case v3 => omega); (case u12 => omega); (case u13 => omega); (case u23 => omega); (case p1 => omega); (case p2 => (simp only [costN]; omega)); (case q1 => omega); (case q2 => omega); (case q3 => omega); (case q4 => omega); (case q5 => omega)))
section
variable {w : World} {H₀ : Heap} {mean : ExcName → Option Value} {mg mb : Str → Option Value}
set_option maxHeartbeats 40000000 in
theorem grown_succ (G : Gd w H₀ mean mg mb) {d : Nat} (ihG : GrownOk w H₀ d) : GrownOk w H₀ (d + 1) := by
  intro s dp un outer S sl N V vs nv av ns p t td n m nn na R st hS hS0 hsl hsl0 hi hlen hN hN0 hV hV0 hak hcap hslS hSN hSV hNV hslN hslV hp0 hp1 hd hR
  have hNN0 := hN0
  have hVV0 := hV0
  have hN := ledger3 hS hS0 hN hN0 hV hV0
  refine' enterC (binds := [(Str.ofString "state", .ref S), (Str.ofString "nodes", .ref N), (Str.ofString "above", .ref V), (Str.ofString "deep", .int ((d + 1 : Nat) : Int) td)]) _ ?k1 ?k2 ?k3 hN ?k5 ?k6 ?k7 ?k8 ?k9 ?kD ?_ ?c1 ?c2 ?c3
  (case k1 => exact Gd.X G)
  (case k2 => exact Gd.T G)
  (case k3 => exact st)
  (case k5 => k_is)
  (case k6 => k_is)
  (case k7 => k_room)
  (case k8 => exact BindsTo.of_eq rfl)
  (case k9 => exact rfl)
  (case kD => decide +kernel)
  (case c1 => exact rfl)
  (case c2 => exact rfl)
  (case c3 => exact rfl)
  intro g L' h' tk' cells' hg hL' Xg Tg F' N' Y' lt'
  obtain ⟨o', hE', d1'⟩ := CellsAre.one Y'
  subst hE'
  clear Y'
  have hL2 : @Eq Nat L' s.heap.objs.size := hL'
  have hslg := sl_stays hg hsl hslS hslN hslV
  have stg := ground_stays hg st hN
  have hkeep := fun {h' m} (F : Fr g L' h' m) => keep3 hg F
  clear hg
  simp only [List.cons_append, List.nil_append] at N'
  (try dsimp only); (try k_fold)
  k_lt lt'
  obtain ⟨lS, lN, lV⟩ := lt'
  dsimp only [bindL, bindC] at F' d1'
  have hnk : nv.length = nv.length := rfl
  have hdd : ¬ ((d + 1 : Nat) : Int) = 0 := by omega
  dsimp only [costN] at hp1
  have hp2 : p < 1000 := by omega
  have hp3 : p + 1 < 1000 := by omega
  have hp4 : 0 ≤ p + 1 := by omega
  have hp5 : p + 1 + 1 < 1000 := by omega
  have hp6 : 0 ≤ p + 1 + 1 := by omega
  dsimp only [capN] at hcap
  clear hS hsl hN hV hN0 hV0
  have z1 := NeA.mk hslS; have z2 := NeA.mk hSN; have z3 := NeA.mk hSV; have z4 := NeA.mk hNV; have z5 := NeA.mk hslN; have z6 := NeA.mk hslV
  clear hslS hSN hSV hNV hslN hslV
  k_steps
  all_goals (first | k_mem | (dsimp only; first | walk_at "mine:leaf" | walk_at "mine:done0" | walk_at "mine:done1" | walk_at "mine:done2" | walk_at "mine:done3"))
end
end
/-- the nodes with their numbers, in the order ahead -/
def Tr.nodeL : Tr → Nat → List (Nat × Tr)
  | .leaf x p l, k => [(k, .leaf x p l)]
  | .n0 x l, k => [(k, .n0 x l)]
  | .n1 x l a, k => (k, .n1 x l a) :: a.nodeL (k + 1)
  | .n2 x l a b, k => (k, .n2 x l a b) :: (a.nodeL (k + 1) ++ b.nodeL (k + 1 + a.size))
  | .n3 x l a b c, k => (k, .n3 x l a b c) :: (a.nodeL (k + 1) ++ (b.nodeL (k + 1 + a.size) ++ c.nodeL (k + 1 + a.size + b.size)))
/-- and in the order behind -/
def Tr.postT : Tr → Nat → List (Nat × Tr)
  | .leaf x p l, k => [(k, .leaf x p l)]
  | .n0 x l, k => [(k, .n0 x l)]
  | .n1 x l a, k => a.postT (k + 1) ++ [(k, .n1 x l a)]
  | .n2 x l a b, k => a.postT (k + 1) ++ (b.postT (k + 1 + a.size) ++ [(k, .n2 x l a b)])
  | .n3 x l a b c, k => a.postT (k + 1) ++ (b.postT (k + 1 + a.size) ++ (c.postT (k + 1 + a.size + b.size) ++ [(k, .n3 x l a b c)]))
def Tr.kidsN : Tr → Nat → List (Nat × Tr)
  | .leaf .., _ | .n0 .., _ => []
  | .n1 _ _ a, k => [(k + 1, a)]
  | .n2 _ _ a b, k => [(k + 1, a), (k + 1 + a.size, b)]
  | .n3 _ _ a b c, k => [(k + 1, a), (k + 1 + a.size, b), (k + 1 + a.size + b.size, c)]
def Tr.isLeaf : Tr → Bool
  | .leaf .. => true
  | _ => false
theorem Tr.size_pos : ∀ t : Tr, 1 ≤ t.size
  | .leaf .. | .n0 .. => Nat.le_refl _
  | .n1 .. | .n2 .. | .n3 .. => by simp only [Tr.size]; omega
theorem Tr.nodeL_nums : ∀ (t : Tr) (k : Nat), (t.nodeL k).map (·.1) = List.range' k t.size
  | .leaf .., k | .n0 .., k => rfl
  | .n1 x l a, k => by
    simp only [Tr.nodeL, List.map_cons, Tr.size, a.nodeL_nums]
    rw [List.range'_succ]
  | .n2 x l a b, k => by
    simp only [Tr.nodeL, List.map_cons, List.map_append, Tr.size, a.nodeL_nums, b.nodeL_nums]
    rw [List.range'_succ, List.range'_append_1]
  | .n3 x l a b c, k => by
    simp only [Tr.nodeL, List.map_cons, List.map_append, Tr.size, a.nodeL_nums, b.nodeL_nums, c.nodeL_nums]
    rw [List.range'_succ, List.range'_append_1, List.range'_append_1, Nat.add_assoc]
theorem Tr.nodeL_length (t : Tr) (k : Nat) : (t.nodeL k).length = t.size := by
  have := congrArg List.length (t.nodeL_nums k)
  simpa using this
theorem Tr.nodeL_root (t : Tr) (k : Nat) : ∃ r, t.nodeL k = (k, t) :: r := by
  cases t <;> exact ⟨_, rfl⟩
theorem Tr.post_perm : ∀ (t : Tr) (k : Nat), (t.postT k).Perm (t.nodeL k)
  | .leaf .., k | .n0 .., k => .refl _
  | .n1 x l a, k => by
    simp only [Tr.nodeL, Tr.postT]
    exact (List.perm_append_singleton _ _).trans ((a.post_perm _).cons _)
  | .n2 x l a b, k => by
    simp only [Tr.nodeL, Tr.postT]
    rw [← List.append_assoc]
    exact (List.perm_append_singleton _ _).trans (((a.post_perm _).append (b.post_perm _)).cons _)
  | .n3 x l a b c, k => by
    simp only [Tr.nodeL, Tr.postT]
    rw [← List.append_assoc, ← List.append_assoc, List.append_assoc (a.postT _)]
    exact (List.perm_append_singleton _ _).trans (((a.post_perm _).append ((b.post_perm _).append (c.post_perm _))).cons _)
theorem Tr.post_leaves : ∀ (t : Tr) (k : Nat), (t.postT k).filter (·.2.isLeaf) = (t.nodeL k).filter (·.2.isLeaf)
  | .leaf .., k | .n0 .., k => rfl
  | .n1 x l a, k => by
    simp only [Tr.nodeL, Tr.postT, List.filter_append, a.post_leaves]
    simp [Tr.isLeaf]
  | .n2 x l a b, k => by
    simp only [Tr.nodeL, Tr.postT, List.filter_append, a.post_leaves, b.post_leaves]
    simp [Tr.isLeaf]
  | .n3 x l a b c, k => by
    simp only [Tr.nodeL, Tr.postT, List.filter_append, a.post_leaves, b.post_leaves, c.post_leaves]
    simp [Tr.isLeaf]
theorem Tr.preL_eq : ∀ (t : Tr) (k : Nat), t.preL = (t.nodeL k).map fun p => .ref p.2.root
  | .leaf .., k | .n0 .., k => rfl
  | .n1 x l a, k => by simp only [Tr.nodeL, Tr.preL, List.map_cons, a.preL_eq (k + 1)]; rfl
  | .n2 x l a b, k => by simp only [Tr.nodeL, Tr.preL, List.map_cons, List.map_append, a.preL_eq (k + 1), b.preL_eq (k + 1 + a.size)]; rfl
  | .n3 x l a b c, k => by simp only [Tr.nodeL, Tr.preL, List.map_cons, List.map_append, a.preL_eq (k + 1), b.preL_eq (k + 1 + a.size), c.preL_eq (k + 1 + a.size + b.size)]; rfl
theorem Tr.postL_eq : ∀ (t : Tr) (k : Nat), t.postL = (t.postT k).map fun p => .ref p.2.root
  | .leaf .., k | .n0 .., k => rfl
  | .n1 x l a, k => by simp only [Tr.postT, Tr.postL, List.map_cons, List.map_append, List.map_nil, a.postL_eq (k + 1)]; rfl
  | .n2 x l a b, k => by simp only [Tr.postT, Tr.postL, List.map_cons, List.map_append, List.map_nil, a.postL_eq (k + 1), b.postL_eq (k + 1 + a.size)]; rfl
  | .n3 x l a b c, k => by simp only [Tr.postT, Tr.postL, List.map_cons, List.map_append, List.map_nil, a.postL_eq (k + 1), b.postL_eq (k + 1 + a.size), c.postL_eq (k + 1 + a.size + b.size)]; rfl
theorem Tr.leavesL_eq : ∀ (t : Tr) (k : Nat), t.leavesL = ((t.nodeL k).filter (·.2.isLeaf)).map fun p => .ref p.2.root
  | .leaf .., k | .n0 .., k => rfl
  | .n1 x l a, k => by
    simp only [Tr.leavesL, a.leavesL_eq (k + 1), Tr.nodeL]
    simp [Tr.isLeaf]
  | .n2 x l a b, k => by
    simp only [Tr.leavesL, a.leavesL_eq (k + 1), b.leavesL_eq (k + 1 + a.size), Tr.nodeL]
    simp [Tr.isLeaf]
  | .n3 x l a b c, k => by
    simp only [Tr.leavesL, a.leavesL_eq (k + 1), b.leavesL_eq (k + 1 + a.size), c.leavesL_eq (k + 1 + a.size + b.size), Tr.nodeL]
    simp [Tr.isLeaf]
/-- where a node stands: the way from the root -/
inductive Occ (t : Tr) (k : Nat) : List (Nat × Tr) → Tr → Nat → Prop
  | root : Occ t k [] t k
  | step {path P kp c kc} : Occ t k path P kp → (kc, c) ∈ P.kidsN kp → Occ t k (path ++ [(kp, P)]) c kc
theorem Occ.lift {t a : Tr} {k ka : Nat} (h : (ka, a) ∈ t.kidsN k) : ∀ {path u j}, Occ a ka path u j → Occ t k ((k, t) :: path) u j
  | _, _, _, .root => .step (path := []) .root h
  | _, _, _, .step o m => .step (path := (k, t) :: _) (o.lift h) m
theorem Occ.all : ∀ (t : Tr) (k : Nat) {j : Nat} {u : Tr}, (j, u) ∈ t.nodeL k → ∃ path, Occ t k path u j
  | .leaf .., k, j, u, h | .n0 .., k, j, u, h => by
    cases List.mem_singleton.mp h
    exact ⟨[], .root⟩
  | .n1 x l a, k, j, u, h => by
    rcases List.mem_cons.mp h with h | h
    · cases h; exact ⟨[], .root⟩
    · obtain ⟨path, o⟩ := Occ.all a _ h
      exact ⟨_, o.lift (.head _)⟩
  | .n2 x l a b, k, j, u, h => by
    rcases List.mem_cons.mp h with h | h
    · cases h; exact ⟨[], .root⟩
    rcases List.mem_append.mp h with h | h
    · obtain ⟨path, o⟩ := Occ.all a _ h
      exact ⟨_, o.lift (.head _)⟩
    · obtain ⟨path, o⟩ := Occ.all b _ h
      exact ⟨_, o.lift (.tail _ (.head _))⟩
  | .n3 x l a b c, k, j, u, h => by
    rcases List.mem_cons.mp h with h | h
    · cases h; exact ⟨[], .root⟩
    rcases List.mem_append.mp h with h | h
    · obtain ⟨path, o⟩ := Occ.all a _ h
      exact ⟨_, o.lift (.head _)⟩
    rcases List.mem_append.mp h with h | h
    · obtain ⟨path, o⟩ := Occ.all b _ h
      exact ⟨_, o.lift (.tail _ (.head _))⟩
    · obtain ⟨path, o⟩ := Occ.all c _ h
      exact ⟨_, o.lift (.tail _ (.tail _ (.head _)))⟩
/-- a child's nodes are a stretch of its parent's, in both orders -/
theorem kid_slice {P c : Tr} {kp kc : Nat} (h : (kc, c) ∈ P.kidsN kp) : kp < kc ∧ kc + c.size ≤ kp + P.size ∧ (∃ A B, P.nodeL kp = A ++ (c.nodeL kc ++ B)) ∧
    ∃ A B, P.postT kp = A ++ (c.postT kc ++ (B ++ [(kp, P)])) ∧ (∀ i, i ∈ A.map (·.1) ↔ kp < i ∧ i < kc) ∧ ∀ i, i ∈ B.map (·.1) ↔ kc + c.size ≤ i ∧ i < kp + P.size := by
  have mem : ∀ (t : Tr) (k i : Nat), i ∈ (t.postT k).map (·.1) ↔ k ≤ i ∧ i < k + t.size := fun t k i => by
    rw [((t.post_perm k).map _).mem_iff, t.nodeL_nums, List.mem_range'_1]
  cases P with
  | leaf => cases h
  | n0 => cases h
  | n1 x l a =>
    cases List.mem_singleton.mp h
    have sc := c.size_pos
    refine ⟨by omega, by simp only [Tr.size]; omega, ⟨[(kp, .n1 x l c)], [], by simp [Tr.nodeL]⟩, [], [], by simp [Tr.postT], fun i => by simp only [List.map_nil, List.not_mem_nil, false_iff]; omega, fun i => by simp only [List.map_nil, List.not_mem_nil, false_iff]; simp only [Tr.size]; omega⟩
  | n2 x l a b =>
    have sa := a.size_pos
    have sb := b.size_pos
    rcases List.mem_cons.mp h with h | h
    · cases h
      refine ⟨by omega, by simp only [Tr.size]; omega, ⟨[(kp, .n2 x l c b)], b.nodeL (kp + 1 + c.size), by simp [Tr.nodeL]⟩, [], b.postT (kp + 1 + c.size), by simp [Tr.postT], fun i => by simp only [List.map_nil, List.not_mem_nil, false_iff]; omega, fun i => by rw [mem]; (try simp only [Tr.size]); omega⟩
    · cases List.mem_singleton.mp h
      refine ⟨by omega, by simp only [Tr.size]; omega, ⟨(kp, .n2 x l a c) :: a.nodeL (kp + 1), [], by simp [Tr.nodeL]⟩, a.postT (kp + 1), [], by simp [Tr.postT], fun i => by rw [mem]; (try simp only [Tr.size]); omega, fun i => by simp only [List.map_nil, List.not_mem_nil, false_iff]; simp only [Tr.size]; omega⟩
  | n3 x l a b c' =>
    have sa := a.size_pos
    have sb := b.size_pos
    have sc := c'.size_pos
    rcases List.mem_cons.mp h with h | h
    · cases h
      refine ⟨by omega, by simp only [Tr.size]; omega, ⟨[(kp, .n3 x l c b c')], b.nodeL (kp + 1 + c.size) ++ c'.nodeL (kp + 1 + c.size + b.size), by simp [Tr.nodeL]⟩, [], b.postT (kp + 1 + c.size) ++ c'.postT (kp + 1 + c.size + b.size), by simp [Tr.postT], fun i => by simp only [List.map_nil, List.not_mem_nil, false_iff]; omega, fun i => by rw [List.map_append, List.mem_append, mem, mem]; (try simp only [Tr.size]); omega⟩
    rcases List.mem_cons.mp h with h | h
    · cases h
      refine ⟨by omega, by simp only [Tr.size]; omega, ⟨(kp, .n3 x l a c c') :: a.nodeL (kp + 1), c'.nodeL (kp + 1 + a.size + c.size), by simp [Tr.nodeL]⟩, a.postT (kp + 1), c'.postT (kp + 1 + a.size + c.size), by simp [Tr.postT], fun i => by rw [mem]; (try simp only [Tr.size]); omega, fun i => by rw [mem]; (try simp only [Tr.size]); omega⟩
    · cases List.mem_singleton.mp h
      refine ⟨by omega, by simp only [Tr.size]; omega, ⟨(kp, .n3 x l a b c) :: (a.nodeL (kp + 1) ++ b.nodeL (kp + 1 + a.size)), [], by simp [Tr.nodeL]⟩, a.postT (kp + 1) ++ b.postT (kp + 1 + a.size), [], by simp [Tr.postT], fun i => by rw [List.map_append, List.mem_append, mem, mem]; (try simp only [Tr.size]); omega, fun i => by simp only [List.map_nil, List.not_mem_nil, false_iff]; simp only [Tr.size]; omega⟩
/-- the same of any node -/
theorem Occ.slice {t : Tr} {k : Nat} {path : List (Nat × Tr)} {u : Tr} {j : Nat} (o : Occ t k path u j) :
    k ≤ j ∧ j + u.size ≤ k + t.size ∧ (∀ i ∈ path.map (·.1), k ≤ i ∧ i < j) ∧ (path.map (·.1)).Pairwise (· < ·) ∧ (∃ A B, t.nodeL k = A ++ (u.nodeL j ++ B)) ∧
    ∃ A B, t.postT k = A ++ (u.postT j ++ B) ∧ (∀ i, i ∈ A.map (·.1) ↔ (k ≤ i ∧ i < j ∧ i ∉ path.map (·.1))) ∧ ∀ i, i ∈ B.map (·.1) ↔ (i ∈ path.map (·.1) ∨ (j + u.size ≤ i ∧ i < k + t.size)) := by
  induction o with
  | root => exact ⟨Nat.le_refl _, Nat.le_refl _, (fun _ h => nomatch h), .nil, ⟨[], [], by simp⟩, [], [], by simp, (fun i => by simp; try omega), (fun i => by simp; try omega)⟩
  | @step path P kp c kc o h ih =>
    obtain ⟨h1, h2, h3, h4, ⟨A1, B1, e1⟩, A2, B2, e2, a2, b2⟩ := ih
    obtain ⟨g1, g2, ⟨A3, B3, e3⟩, A4, B4, e4, a4, b4⟩ := kid_slice h
    have pm : ∀ i, i ∈ (path ++ [(kp, P)]).map (·.1) ↔ i ∈ path.map (·.1) ∨ i = kp := fun i => by simp
    refine ⟨by omega, by omega, fun i hi => ?_, ?_, ⟨A1 ++ A3, B3 ++ B1, by rw [e1, e3]; simp⟩, A2 ++ A4, B4 ++ ([(kp, P)] ++ B2), by rw [e2, e4]; simp, fun i => ?_, fun i => ?_⟩
    · rcases (pm i).mp hi with hi | rfl
      · have := h3 i hi; omega
      · omega
    · rw [List.map_append, List.pairwise_append]
      refine ⟨h4, List.pairwise_singleton _ _, fun a ha b hb => ?_⟩
      cases List.mem_singleton.mp hb
      exact (h3 a ha).2
    · rw [List.map_append, List.mem_append, a2, a4, pm]
      constructor
      · rintro (⟨x, y, z⟩ | ⟨x, y⟩)
        · exact ⟨x, by omega, fun q => q.elim z (by omega)⟩
        · exact ⟨by omega, y, fun q => q.elim (fun q => by have := h3 i q; omega) (by omega)⟩
      · rintro ⟨x, y, z⟩
        by_cases q : i < kp
        · exact .inl ⟨x, q, fun w => z (.inl w)⟩
        · exact .inr ⟨by rcases Nat.lt_or_eq_of_le (Nat.le_of_not_lt q) with q | q; exact q; exact absurd (.inr q.symm) z, y⟩
    · rw [List.map_append, List.mem_append, List.map_append, List.mem_append, b4, b2, pm]
      simp only [List.map_cons, List.map_nil, List.mem_cons, List.not_mem_nil, or_false]
      constructor
      · rintro (⟨x, y⟩ | rfl | x | ⟨x, y⟩)
        · exact .inr ⟨x, by omega⟩
        · exact .inl (.inr rfl)
        · exact .inl (.inl x)
        · exact .inr ⟨by omega, y⟩
      · rintro ((x | rfl) | ⟨x, y⟩)
        · exact .inr (.inr (.inl x))
        · exact .inr (.inl rfl)
        · by_cases q : i < kp + P.size
          · exact .inl ⟨x, q⟩
          · exact .inr (.inr (.inr ⟨by omega, y⟩))
theorem sorted_ext : ∀ {l m : List Nat}, l.Pairwise (· < ·) → m.Pairwise (· < ·) → (∀ i, i ∈ l ↔ i ∈ m) → l = m
  | [], [], _, _, _ => rfl
  | [], b :: m, _, _, h => absurd ((h b).mpr (.head _)) (by simp)
  | a :: l, [], _, _, h => absurd ((h a).mp (.head _)) (by simp)
  | a :: l, b :: m, hl, hm, h => by
    obtain ⟨ha, hl'⟩ := List.pairwise_cons.mp hl
    obtain ⟨hb, hm'⟩ := List.pairwise_cons.mp hm
    have e : a = b := by
      rcases List.mem_cons.mp ((h a).mp (.head _)) with q | q
      · exact q
      · rcases List.mem_cons.mp ((h b).mpr (.head _)) with q' | q'
        · exact q'.symm
        · have := hb a q; have := ha b q'; omega
    subst e
    refine congrArg (a :: ·) (sorted_ext hl' hm' fun i => ?_)
    constructor
    · intro q
      rcases List.mem_cons.mp ((h i).mp (.tail _ q)) with q' | q'
      · subst q'; exact absurd (ha i q) (Nat.lt_irrefl _)
      · exact q'
    · intro q
      rcases List.mem_cons.mp ((h i).mpr (.tail _ q)) with q' | q'
      · subst q'; exact absurd (hb i q) (Nat.lt_irrefl _)
      · exact q'
theorem range_sorted (n : Nat) : (List.range n).Pairwise (· < ·) := List.pairwise_lt_range
theorem range'_sorted (a n : Nat) : (List.range' a n).Pairwise (· < ·) := List.pairwise_lt_range'
theorem idx_A {A M : List Nat} {x : Nat} (h : x ∈ A) : (A ++ M).idxOf x < A.length := by
  rw [List.idxOf_append, if_pos h]
  exact List.idxOf_lt_length_of_mem h
theorem idx_B {A M : List Nat} {x : Nat} (h : x ∉ A) : (A ++ M).idxOf x = A.length + M.idxOf x := by
  rw [List.idxOf_append, if_neg h, Nat.add_comm]
/-- the numbers in the order behind -/
def Tr.postN (t : Tr) (k : Nat) : List Nat := (t.postT k).map (·.1)
theorem Tr.postN_perm (t : Tr) (k : Nat) : (t.postN k).Perm (List.range' k t.size) := by
  rw [← t.nodeL_nums k]
  exact (t.post_perm k).map _
theorem Tr.postN_mem (t : Tr) (k i : Nat) : i ∈ t.postN k ↔ k ≤ i ∧ i < k + t.size := by
  rw [(t.postN_perm k).mem_iff, List.mem_range'_1]
theorem Tr.postN_nodup (t : Tr) (k : Nat) : (t.postN k).Nodup := (t.postN_perm k).nodup_iff.mpr (List.nodup_range' ..)
theorem Tr.postN_last : ∀ (t : Tr) (k : Nat), ∃ M, t.postN k = M ++ [k]
  | .leaf .., k | .n0 .., k => ⟨[], rfl⟩
  | .n1 x l a, k => ⟨a.postN (k + 1), by simp [Tr.postN, Tr.postT]⟩
  | .n2 x l a b, k => ⟨a.postN (k + 1) ++ b.postN (k + 1 + a.size), by simp [Tr.postN, Tr.postT]⟩
  | .n3 x l a b c, k => ⟨a.postN (k + 1) ++ (b.postN (k + 1 + a.size) ++ c.postN (k + 1 + a.size + b.size)), by simp [Tr.postN, Tr.postT]⟩
/-- who stands where in the order behind -/
theorem Occ.spots {t : Tr} {k : Nat} {path : List (Nat × Tr)} {u : Tr} {j : Nat} (o : Occ t k path u j) (i : Nat) (hi : k ≤ i ∧ i < k + t.size) :
    (i < j → ((t.postN k).idxOf i > (t.postN k).idxOf j ↔ i ∈ path.map (·.1))) ∧ (j < i → ((t.postN k).idxOf i < (t.postN k).idxOf j ↔ i < j + u.size)) := by
  obtain ⟨h1, h2, h3, h4, _, A, B, e, a, b⟩ := o.slice
  have sp := u.size_pos
  have e' : t.postN k = A.map (·.1) ++ (u.postN j ++ B.map (·.1)) := by simp [Tr.postN, e]
  obtain ⟨M, eM⟩ := u.postN_last j
  have nd := t.postN_nodup k
  rw [e'] at nd
  have jA : j ∉ A.map (·.1) := fun q => by have := (a j).mp q; omega
  have jM : j ∉ M := fun q => by
    have := u.postN_nodup j
    rw [eM] at this
    exact (List.nodup_append.mp this).2.2 j q j (.head _) rfl
  have ij : (t.postN k).idxOf j = (A.map (·.1)).length + M.length := by
    rw [e', idx_B jA, eM, List.append_assoc, idx_B jM]
    simp
  have iu : (u.postN j).length = M.length + 1 := by rw [eM]; simp
  have key : ∀ i, i ∈ u.postN j → i ≠ j → (t.postN k).idxOf i < (t.postN k).idxOf j := fun i hm hne => by
    have iA : i ∉ A.map (·.1) := fun q => by have := (a i).mp q; have := (u.postN_mem j i).mp hm; omega
    rw [ij, e', idx_B iA, eM, List.append_assoc]
    have : i ∈ M := by
      rw [eM] at hm
      rcases List.mem_append.mp hm with q | q
      · exact q
      · exact absurd (List.mem_singleton.mp q) hne
    have := idx_A (M := [j] ++ B.map (·.1)) this
    omega
  have keyB : ∀ i, i ∈ B.map (·.1) → (t.postN k).idxOf i > (t.postN k).idxOf j := fun i hm => by
    have ib := (b i).mp hm
    have iA : i ∉ A.map (·.1) := fun q => by
      have := (a i).mp q
      rcases ib with ib | ib
      · exact this.2.2 ib
      · omega
    have iM : i ∉ u.postN j := fun q => by
      have := (u.postN_mem j i).mp q
      rcases ib with ib | ib
      · have := h3 i ib; omega
      · omega
    rw [ij, e', idx_B iA, idx_B iM, iu]
    omega
  refine ⟨fun lt => ?_, fun lt => ?_⟩
  · by_cases q : i ∈ path.map (·.1)
    · exact ⟨fun _ => q, fun _ => keyB i ((b i).mpr (.inl q))⟩
    · refine ⟨fun x => ?_, fun x => absurd x q⟩
      have : i ∈ A.map (·.1) := (a i).mpr ⟨hi.1, lt, q⟩
      have := idx_A (M := u.postN j ++ B.map (·.1)) this
      rw [← e'] at this
      omega
  · by_cases q : i < j + u.size
    · exact ⟨fun _ => q, fun _ => key i ((u.postN_mem j i).mpr ⟨by omega, q⟩) (by omega)⟩
    · refine ⟨fun x => ?_, fun x => absurd x q⟩
      have := keyB i ((b i).mpr (.inr ⟨by omega, hi.2⟩))
      omega
theorem Occ.over {t : Tr} {path : List (Nat × Tr)} {u : Tr} {j : Nat} (o : Occ t 0 path u j) : (List.range j).filter (fun i => decide ((t.postN 0).idxOf i > (t.postN 0).idxOf j)) = path.map (·.1) := by
  obtain ⟨h1, h2, h3, h4, _⟩ := o.slice
  have sp := u.size_pos
  refine sorted_ext ((range_sorted j).filter _) h4 fun i => ?_
  rw [List.mem_filter, List.mem_range, decide_eq_true_eq]
  constructor
  · rintro ⟨x, y⟩
    exact ((o.spots i ⟨by omega, by omega⟩).1 x).mp y
  · intro x
    have := h3 i x
    exact ⟨this.2, ((o.spots i ⟨by omega, by omega⟩).1 this.2).mpr x⟩
theorem Occ.belowN {t : Tr} {path : List (Nat × Tr)} {u : Tr} {j : Nat} (o : Occ t 0 path u j) :
    (List.range t.size).filter (fun i => decide (i = j) || (decide (i > j) && decide ((t.postN 0).idxOf i < (t.postN 0).idxOf j))) = List.range' j u.size := by
  obtain ⟨h1, h2, h3, h4, _⟩ := o.slice
  have sp := u.size_pos
  refine sorted_ext ((range_sorted _).filter _) (range'_sorted _ _) fun i => ?_
  rw [List.mem_filter, List.mem_range, List.mem_range'_1]
  simp only [Bool.or_eq_true, Bool.and_eq_true, decide_eq_true_eq]
  constructor
  · rintro ⟨x, rfl | ⟨y, z⟩⟩
    · omega
    · have := ((o.spots i ⟨by omega, by omega⟩).2 y).mp z; omega
  · rintro ⟨x, y⟩
    refine ⟨by omega, ?_⟩
    rcases Nat.eq_or_lt_of_le x with rfl | q
    · exact .inl rfl
    · exact .inr ⟨q, ((o.spots i ⟨by omega, by omega⟩).2 q).mpr y⟩
/-- a number has one node -/
theorem Tr.num_unique (t : Tr) (k : Nat) {j : Nat} {u v : Tr} (h : (j, u) ∈ t.nodeL k) (h' : (j, v) ∈ t.nodeL k) : u = v := by
  have nd : ((t.nodeL k).map (·.1)).Nodup := by rw [t.nodeL_nums]; exact List.nodup_range' ..
  have key : ∀ {l : List (Nat × Tr)}, (l.map (·.1)).Nodup → (j, u) ∈ l → (j, v) ∈ l → u = v := by
    intro l
    induction l with
    | nil => intro _ h; cases h
    | cons p l ih =>
      intro nd h h'
      rw [List.map_cons, List.nodup_cons] at nd
      rcases List.mem_cons.mp h with q | q
      · rcases List.mem_cons.mp h' with q' | q'
        · rw [← q] at q'; exact (Prod.mk.inj q').2.symm
        · rw [← q] at nd; exact absurd (List.mem_map.mpr ⟨_, q', rfl⟩) nd.1
      · rcases List.mem_cons.mp h' with q' | q'
        · rw [← q'] at nd; exact absurd (List.mem_map.mpr ⟨_, q, rfl⟩) nd.1
        · exact ih nd.2 q q'
  exact key nd h h'
def Tr.leafN (t : Tr) (k : Nat) : List Nat := ((t.nodeL k).filter (·.2.isLeaf)).map (·.1)
theorem Tr.leafN_mem (t : Tr) (k : Nat) {j : Nat} {u : Tr} (h : (j, u) ∈ t.nodeL k) : j ∈ t.leafN k ↔ u.isLeaf = true := by
  unfold Tr.leafN
  constructor
  · intro q
    obtain ⟨⟨i, v⟩, hm, e⟩ := List.mem_map.mp q
    obtain ⟨h1, h2⟩ := List.mem_filter.mp hm
    have e : i = j := e
    subst e
    rw [t.num_unique k h h1]; exact h2
  · intro q
    exact List.mem_map.mpr ⟨_, List.mem_filter.mpr ⟨h, q⟩, rfl⟩
theorem filter_leaf {l : List (Nat × Tr)} {p : Nat → Bool} (h : ∀ q ∈ l, p q.1 = q.2.isLeaf) : (l.map (·.1)).filter p = (l.filter (·.2.isLeaf)).map (·.1) := by
  induction l with
  | nil => rfl
  | cons q l ih =>
    have hq := h q (.head _)
    rw [List.map_cons, List.filter_cons, List.filter_cons, hq, ih fun r hr => h r (.tail _ hr)]
    split <;> rfl
theorem Tr.post_leafN (t : Tr) (k : Nat) : (t.postN k).filter (fun i => decide (i ∈ t.leafN k)) = t.leafN k := by
  unfold Tr.postN
  rw [filter_leaf, t.post_leaves]
  · rfl
  · intro q hq
    have hm := (t.post_perm k).mem_iff.mp hq
    rw [Bool.eq_iff_iff, decide_eq_true_eq]
    exact t.leafN_mem k (u := q.2) hm
theorem Tr.pre_leafN (t : Tr) (k : Nat) : (List.range' k t.size).filter (fun i => decide (i ∈ t.leafN k)) = t.leafN k := by
  rw [← t.nodeL_nums, filter_leaf]
  · rfl
  · intro q hq
    rw [Bool.eq_iff_iff, decide_eq_true_eq]
    exact t.leafN_mem k (u := q.2) hq
theorem Occ.mine {t : Tr} {k : Nat} {path : List (Nat × Tr)} {u : Tr} {j : Nat} (o : Occ t k path u j) : (List.range' j u.size).filter (fun i => decide (i ∈ t.leafN k)) = u.leafN j := by
  obtain ⟨h1, h2, h3, h4, ⟨A, B, e⟩, _⟩ := o.slice
  rw [← u.nodeL_nums, filter_leaf]
  · rfl
  · intro q hq
    rw [Bool.eq_iff_iff, decide_eq_true_eq]
    refine t.leafN_mem k (u := q.2) ?_
    rw [e]
    exact List.mem_append_right _ (List.mem_append_left _ hq)
theorem Occ.mem {t : Tr} {k : Nat} {path : List (Nat × Tr)} {u : Tr} {j : Nat} (o : Occ t k path u j) : (j, u) ∈ t.nodeL k := by
  obtain ⟨h1, h2, h3, h4, ⟨A, B, e⟩, _⟩ := o.slice
  obtain ⟨r, er⟩ := u.nodeL_root j
  rw [e, er]
  exact List.mem_append_right _ (List.mem_append_left _ (.head _))
theorem Tr.nodeL_at (t : Tr) (k : Nat) {j : Nat} {u : Tr} (h : (j, u) ∈ t.nodeL k) : (t.nodeL k)[j - k]? = some (j, u) := by
  obtain ⟨i, hi, e⟩ := List.mem_iff_getElem.mp h
  have q := congrArg (fun l => l[i]?) (t.nodeL_nums k)
  simp only [List.getElem?_map, List.getElem?_eq_getElem hi, e, Option.map_some] at q
  have hs : i < t.size := by rw [← t.nodeL_length k]; exact hi
  rw [List.getElem?_range' hs] at q
  have q : j = k + i := by simpa using q
  rw [show j - k = i by omega, List.getElem?_eq_getElem hi, e]
theorem Tr.node_of (t : Tr) (k : Nat) {j : Nat} (h1 : k ≤ j) (h2 : j < k + t.size) : ∃ u, (j, u) ∈ t.nodeL k := by
  have : j ∈ (t.nodeL k).map (·.1) := by rw [t.nodeL_nums, List.mem_range'_1]; exact ⟨h1, h2⟩
  obtain ⟨⟨i, u⟩, hm, e⟩ := List.mem_map.mp this
  have e : i = j := e
  subst e
  exact ⟨u, hm⟩
/-- the text of a node is that of its leaves -/
def leafText : Nat × Tr → Str
  | (k, .leaf _ pre _) => pre ++ xy k
  | _ => Str.empty
def catStr : List Str → Str
  | [] => Str.empty
  | p :: r => p ++ catStr r
theorem catStr_append : ∀ (a b : List Str), catStr (a ++ b) = catStr a ++ catStr b
  | [], b => by show catStr b = Str.empty ++ catStr b; rw [Str.empty_append]
  | p :: a, b => by show p ++ catStr (a ++ b) = (p ++ catStr a) ++ catStr b; rw [catStr_append a b, Str.append_assoc]
theorem Tr.text_eq : ∀ (t : Tr) (k : Nat), t.text k = catStr (((t.nodeL k).filter (·.2.isLeaf)).map leafText)
  | .leaf x pre l, k => by show pre ++ xy k = (pre ++ xy k) ++ Str.empty; rw [Str.append_empty]
  | .n0 .., k => rfl
  | .n1 x l a, k => by
    simp only [Tr.text, Tr.nodeL, List.filter_cons, a.text_eq]
    rfl
  | .n2 x l a b, k => by
    simp only [Tr.text, Tr.nodeL, List.filter_cons, List.filter_append, List.map_append, catStr_append, a.text_eq, b.text_eq]
    simp [Tr.isLeaf, catStr_append]
  | .n3 x l a b c, k => by
    simp only [Tr.text, Tr.nodeL, List.filter_cons, List.filter_append, List.map_append, catStr_append, a.text_eq, b.text_eq, c.text_eq]
    simp [Tr.isLeaf, catStr_append]
section
variable {H₀ h : Heap}
theorem At.kid {P c : Tr} {kp kc : Nat} {par : Option Addr} (i : At H₀ h P kp par) (m : (kc, c) ∈ P.kidsN kp) : At H₀ h c kc (some P.root) := by
  cases P with
  | leaf => cases m
  | n0 => cases m
  | n1 x l a =>
    obtain ⟨aa, j, na, hL, ia⟩ := i
    cases List.mem_singleton.mp m
    exact ia
  | n2 x l a b =>
    obtain ⟨aa, j, na, hL, ia, ib⟩ := i
    rcases List.mem_cons.mp m with m | m
    · cases m; exact ia
    · cases List.mem_singleton.mp m; exact ib
  | n3 x l a b c' =>
    obtain ⟨aa, j, na, hL, ia, ib, ic⟩ := i
    rcases List.mem_cons.mp m with m | m
    · cases m; exact ia
    rcases List.mem_cons.mp m with m | m
    · cases m; exact ib
    · cases List.mem_singleton.mp m; exact ic
theorem Tr.kid_facts {P c : Tr} {kp kc : Nat} (m : (kc, c) ∈ P.kidsN kp) : c.height + 1 ≤ P.height ∧ (P.Short → c.Short) ∧ (P.Apart → c.Apart) := by
  cases P with
  | leaf => cases m
  | n0 => cases m
  | n1 x l a =>
    cases List.mem_singleton.mp m
    exact ⟨by simp only [Tr.height]; omega, fun h => h, fun h => h⟩
  | n2 x l a b =>
    rcases List.mem_cons.mp m with m | m
    · cases m; exact ⟨by simp only [Tr.height]; omega, fun h => h.1, fun h => h.1⟩
    · cases List.mem_singleton.mp m; exact ⟨by simp only [Tr.height]; omega, fun h => h.2, fun h => h.2.1⟩
  | n3 x l a b c' =>
    rcases List.mem_cons.mp m with m | m
    · cases m; exact ⟨by simp only [Tr.height]; omega, fun h => h.1, fun h => h.1⟩
    rcases List.mem_cons.mp m with m | m
    · cases m; exact ⟨by simp only [Tr.height]; omega, fun h => h.2.1, fun h => h.2.1⟩
    · cases List.mem_singleton.mp m; exact ⟨by simp only [Tr.height]; omega, fun h => h.2.2, fun h => h.2.2.1⟩
theorem Occ.facts {t : Tr} {k : Nat} {path : List (Nat × Tr)} {u : Tr} {j : Nat} (o : Occ t k path u j) : u.height + path.length ≤ t.height ∧ (t.Short → u.Short) ∧ (t.Apart → u.Apart) := by
  induction o with
  | root => exact ⟨by simp, fun h => h, fun h => h⟩
  | @step path P kp c kc o m ih =>
    obtain ⟨h1, h2, h3⟩ := ih
    obtain ⟨g1, g2, g3⟩ := Tr.kid_facts m
    exact ⟨by simp only [List.length_append, List.length_cons, List.length_nil]; omega, fun h => g2 (h2 h), fun h => g3 (h3 h)⟩
theorem Full.length : ∀ {t : Tr} {k par pn rows}, Full H₀ h t k par pn rows → rows.length = t.size
  | .leaf .., _, _, _, _, ⟨_, e, _⟩ => by rw [e]; rfl
  | .n0 .., _, _, _, _, ⟨_, e, _⟩ => by rw [e]; rfl
  | .n1 .., _, _, _, _, ⟨_, r1, e, _, _, f⟩ => by rw [e, List.length_cons, f.length]; rfl
  | .n2 .., _, _, _, _, ⟨_, r1, r2, e, _, _, f, f'⟩ => by rw [e, List.length_cons, List.length_append, f.length, f'.length]; rfl
  | .n3 .., _, _, _, _, ⟨_, r1, r2, r3, e, _, _, f, f', f''⟩ => by rw [e, List.length_cons, List.length_append, List.length_append, f.length, f'.length, f''.length]; simp only [Tr.size]; omega
theorem Full.head : ∀ {t : Tr} {k par pn rows}, Full H₀ h t k par pn rows → ∃ R r, rows = .ref R :: r ∧ Row h R pn ((t.kidsN k).map (·.1))
  | .leaf .., _, _, _, _, ⟨R, e, r, _⟩ => ⟨R, [], e, r⟩
  | .n0 .., _, _, _, _, ⟨R, e, r, _⟩ => ⟨R, [], e, r⟩
  | .n1 .., _, _, _, _, ⟨R, r1, e, r, _⟩ => ⟨R, r1, e, r⟩
  | .n2 .., _, _, _, _, ⟨R, r1, r2, e, r, _⟩ => ⟨R, _, e, r⟩
  | .n3 .., _, _, _, _, ⟨R, r1, r2, r3, e, r, _⟩ => ⟨R, _, e, r⟩
theorem Full.kid {P c : Tr} {kp kc : Nat} {par pn rows} (i : Full H₀ h P kp par pn rows) (m : (kc, c) ∈ P.kidsN kp) : ∃ A r B, rows = A ++ (r ++ B) ∧ A.length + kp = kc ∧ Full H₀ h c kc (some P.root) (some kp) r := by
  cases P with
  | leaf => cases m
  | n0 => cases m
  | n1 x l a =>
    obtain ⟨R, r1, e, _, _, f⟩ := i
    cases List.mem_singleton.mp m
    exact ⟨[.ref R], r1, [], by rw [e]; simp, by simp; omega, f⟩
  | n2 x l a b =>
    obtain ⟨R, r1, r2, e, _, _, f, f'⟩ := i
    rcases List.mem_cons.mp m with m | m
    · cases m; exact ⟨[.ref R], r1, r2, by rw [e]; simp, by simp; omega, f⟩
    · cases List.mem_singleton.mp m; exact ⟨.ref R :: r1, r2, [], by rw [e]; simp, by simp only [List.length_cons, f.length]; omega, f'⟩
  | n3 x l a b c' =>
    obtain ⟨R, r1, r2, r3, e, _, _, f, f', f''⟩ := i
    rcases List.mem_cons.mp m with m | m
    · cases m; exact ⟨[.ref R], r1, r2 ++ r3, by rw [e]; simp, by simp; omega, f⟩
    rcases List.mem_cons.mp m with m | m
    · cases m; exact ⟨.ref R :: r1, r2, r3, by rw [e]; simp, by simp only [List.length_cons, f.length]; omega, f'⟩
    · cases List.mem_singleton.mp m; exact ⟨.ref R :: (r1 ++ r2), r3, [], by rw [e]; simp, by simp only [List.length_cons, List.length_append, f.length, f'.length]; omega, f''⟩
/-- the node's last step of the way, if it has one -/
def lastOf (path : List (Nat × Tr)) : Option (Nat × Tr) := path.getLast?
theorem lastOf_snoc (path : List (Nat × Tr)) (p : Nat × Tr) : lastOf (path ++ [p]) = some p := by simp [lastOf]
/-- what the heap holds of a node of the tree -/
theorem Occ.full {t : Tr} {k : Nat} {par : Option Addr} {pn : Option Nat} {rows : List Value} (f : Full H₀ h t k par pn rows) {path : List (Nat × Tr)} {u : Tr} {j : Nat} (o : Occ t k path u j) :
    ∃ par' pn' r' A B, rows = A ++ (r' ++ B) ∧ A.length + k = j ∧ Full H₀ h u j par' pn' r' ∧ (path = [] → par' = par ∧ pn' = pn ∧ u = t ∧ j = k) ∧ ∀ kp P, lastOf path = some (kp, P) → par' = some P.root ∧ pn' = some kp ∧ (j, u) ∈ P.kidsN kp ∧ ∃ q pp pnp rp, Occ t k q P kp ∧ path = q ++ [(kp, P)] ∧ Full H₀ h P kp pp pnp rp := by
  induction o with
  | root => exact ⟨par, pn, rows, [], [], by simp, by simp, f, fun _ => ⟨rfl, rfl, rfl, rfl⟩, fun kp P h => by cases h⟩
  | @step path P kp c kc o m ih =>
    obtain ⟨pp, pnp, rp, A, B, e, hl, fP, _, _⟩ := ih
    obtain ⟨A', r, B', e', hl', fc⟩ := fP.kid m
    refine ⟨_, _, r, A ++ A', B' ++ B, by rw [e, e']; simp, by rw [List.length_append]; omega, fc, fun h => by simp at h, fun kp' P' h => ?_⟩
    rw [lastOf_snoc] at h
    cases h
    exact ⟨rfl, rfl, m, path, pp, pnp, rp, o, rfl, fP⟩
theorem At.inst {t : Tr} {k : Nat} {par : Option Addr} (i : At H₀ h t k par) : ∃ C a, (C = 225 ∨ C = 305) ∧ (t.isLeaf = true ↔ C = 305) ∧ Inst h t.root C a ∧ a (Str.ofString "parent") = par.map Value.ref ∧ a (Str.ofString "depth") = none := by
  cases t with
  | leaf x pre line => obtain ⟨a, j, l⟩ := i; exact ⟨305, a, .inr rfl, by simp [Tr.isLeaf], j, l.par, l.no _ (by kernel_rfl)⟩
  | n0 x l => obtain ⟨a, j, na, _⟩ := i; exact ⟨225, a, .inl rfl, by simp [Tr.isLeaf], j, na.par, na.no _ (by kernel_rfl)⟩
  | n1 x l => obtain ⟨a, j, na, _⟩ := i; exact ⟨225, a, .inl rfl, by simp [Tr.isLeaf], j, na.par, na.no _ (by kernel_rfl)⟩
  | n2 x l => obtain ⟨a, j, na, _⟩ := i; exact ⟨225, a, .inl rfl, by simp [Tr.isLeaf], j, na.par, na.no _ (by kernel_rfl)⟩
  | n3 x l => obtain ⟨a, j, na, _⟩ := i; exact ⟨225, a, .inl rfl, by simp [Tr.isLeaf], j, na.par, na.no _ (by kernel_rfl)⟩
/-- the chain of parents -/
theorem Occ.up {t : Tr} {k : Nat} (f : At H₀ h t k none) {path : List (Nat × Tr)} {u : Tr} {j : Nat} (o : Occ t k path u j) : (∃ par, At H₀ h u j par) ∧ Up h u.root path.length := by
  have key : (∃ par, At H₀ h u j par ∧ (path = [] → par = none)) ∧ Up h u.root path.length := by
    induction o with
    | root =>
      obtain ⟨C, a, hC, _, j, hp, hd⟩ := f.inst
      exact ⟨⟨none, f, fun _ => rfl⟩, .root hC j hp hd⟩
    | @step path P kp c kc o m ih =>
      obtain ⟨⟨par, iP, _⟩, up⟩ := ih
      have ic := iP.kid m
      obtain ⟨C, a, hC, _, j, hp, hd⟩ := ic.inst
      refine ⟨⟨_, ic, fun h => by simp at h⟩, ?_⟩
      rw [List.length_append]
      exact .up hC j hp hd up
  obtain ⟨⟨par, i, _⟩, up⟩ := key
  exact ⟨⟨par, i⟩, up⟩
/-- one root, one number -/
theorem root_num {t u : Tr} {k j : Nat} {par par' : Option Addr} (i : At H₀ h t k par) (i' : At H₀ h u j par') (e : t.root = u.root) : k = j := by
  have num : ∀ {t : Tr} {k par}, At H₀ h t k par → ∃ C a, Inst h t.root C a ∧ ((C = 225 ∧ ∃ tk, a (Str.ofString "type") = some (.int (300 + k) tk)) ∨ (C = 305 ∧ ∃ tk, a (Str.ofString "column") = some (.int k tk))) := by
    intro t k par i
    cases t with
    | leaf x pre line => obtain ⟨a, j, l⟩ := i; exact ⟨305, a, j, .inr ⟨rfl, l.col⟩⟩
    | n0 x l => obtain ⟨a, j, na, _⟩ := i; exact ⟨225, a, j, .inl ⟨rfl, na.type⟩⟩
    | n1 x l => obtain ⟨a, j, na, _⟩ := i; exact ⟨225, a, j, .inl ⟨rfl, na.type⟩⟩
    | n2 x l => obtain ⟨a, j, na, _⟩ := i; exact ⟨225, a, j, .inl ⟨rfl, na.type⟩⟩
    | n3 x l => obtain ⟨a, j, na, _⟩ := i; exact ⟨225, a, j, .inl ⟨rfl, na.type⟩⟩
  obtain ⟨C, a, ⟨dx, es, n, h1, h2, h3⟩, h4⟩ := num i
  obtain ⟨C', a', ⟨dx', es', n', h1', h2', h3'⟩, h4'⟩ := num i'
  rw [e, h1'] at h1
  cases h1
  rw [h2'] at h2
  cases h2
  have := getL_fun h3 h3'
  subst this
  rcases h4 with ⟨c, tk, h4⟩ | ⟨c, tk, h4⟩
  · rcases h4' with ⟨c', tk', h4'⟩ | ⟨c', tk', h4'⟩
    · have q := (Value.int.inj (Option.some.inj (h4.symm.trans h4'))).1
      omega
    · rw [c] at c'; exact absurd c' (by decide)
  · rcases h4' with ⟨c', tk', h4'⟩ | ⟨c', tk', h4'⟩
    · rw [c] at c'; exact absurd c' (by decide)
    · have q := (Value.int.inj (Option.some.inj (h4.symm.trans h4'))).1
      omega
/-- the neighbours among the parent's children -/
def nextIn (l : List (Nat × Tr)) (j : Nat) : Option (Nat × Tr) := match l with
  | [] => none
  | p :: r => if p.1 = j then r.head? else nextIn r j
def prevIn (l : List (Nat × Tr)) (j : Nat) : Option (Nat × Tr) := match l with
  | p :: q :: r => if q.1 = j then some p else prevIn (q :: r) j
  | _ => none
end
section
variable {prog : Program} {w : World} {A : Around} {E : Value → Shared → Prop} {s : Shared} {h₀ : Heap} {L : Addr} {m : Str → Option Value} {env : Env}
/-- what the turn of a comprehension leaves: nothing has changed -/
def Left (s : Shared) (h : Heap) (s' : Shared) : Prop := ∃ h' tk', s' = { s with heap := h', toks := tk' } ∧ h.StaysIn h'
theorem comp_any {elt : Expr} {x : Str} {scope : Scope} {cl : List (Str × Addr)} {S : List (Addr × Obj) → Prop} {P Y : Nat → Value → Prop} {Fin : List Value → List (Addr × Obj) → Prop} {news : List (Addr × Obj)} (hS : S news) :
    ∀ (k i : Nat) (ys : List Value),
      (∀ j v I oI C oC D m₂ h tk ys (E' : Value → Shared → Prop), i ≤ j → j < i + k → P j v → LCg.NsObj oC m₂ → m₂ x = some v → Fr h₀ L h m → News h₀ L h ((I, oI) :: (C, oC) :: (D, LCg.lst ys) :: news) →
        wpAny (model prog w) A (eval elt (compEnvC scope cl C env)) (fun y s' => Y j y ∧ Left s h s') E' { s with heap := h, toks := tk }) →
      (∀ zs, All2 Y (List.range' i k) zs → Fin (ys ++ zs) news) → LCg.CompRest prog w A h₀ L m env elt x scope cl s S P Fin k i ys news := by
  intro k
  induction k with
  | zero => intro i ys _ fin; exact LCg.CompRest.zero (by have := fin [] .nil; rwa [List.append_nil] at this)
  | succ k ih =>
    intro i ys helt fin
    refine LCg.CompRest.succ ?_
    intro v I oI C oC D m₂ h tk E' hP hC hx F N off ne
    refine wpAny_mono (helt i v I oI C oC D m₂ h tk ys E' (Nat.le_refl _) (by omega) hP hC hx F N) (fun y s' hy => ?_) fun _ _ e => e
    obtain ⟨hy, h', tk', rfl, st⟩ := hy
    refine ⟨h', tk', news, rfl, F.keeps st, N.keepsAll st, off, hS, ih (i + 1) (ys ++ [y]) (fun j v I oI C oC D m₂ h tk ys E' a b => helt j v I oI C oC D m₂ h tk ys E' (by omega) (by omega)) fun zs hz => ?_⟩
    rw [List.append_assoc]
    exact fin (y :: zs) (by rw [List.range'_succ]; exact .cons hy hz)
theorem comp_test {ct elt : Expr} {x : Str} {scope : Scope} {cl : List (Str × Addr)} {S : List (Addr × Obj) → Prop} {P Y : Nat → Value → Prop} {p : Nat → Bool} {Fin : List Value → List (Addr × Obj) → Prop} {news : List (Addr × Obj)} (hS : S news) :
    ∀ (k i : Nat) (ys : List Value),
      (∀ j v I oI C oC D m₂ h tk ys (E' : Value → Shared → Prop), i ≤ j → j < i + k → P j v → LCg.NsObj oC m₂ → m₂ x = some v → Fr h₀ L h m → News h₀ L h ((I, oI) :: (C, oC) :: (D, LCg.lst ys) :: news) →
        wpAny (model prog w) A (isTrue ct (compEnvC scope cl C env) (eval ct (compEnvC scope cl C env))) (fun b s' => b = p j ∧ Left s h s') E' { s with heap := h, toks := tk }) →
      (∀ j v I oI C oC D m₂ h tk ys (E' : Value → Shared → Prop), i ≤ j → j < i + k → p j = true → P j v → LCg.NsObj oC m₂ → m₂ x = some v → Fr h₀ L h m → News h₀ L h ((I, oI) :: (C, oC) :: (D, LCg.lst ys) :: news) →
        wpAny (model prog w) A (eval elt (compEnvC scope cl C env)) (fun y s' => Y j y ∧ Left s h s') E' { s with heap := h, toks := tk }) →
      (∀ zs, All2 Y ((List.range' i k).filter p) zs → Fin (ys ++ zs) news) → LCt.CompRestT prog w A h₀ L m env ct elt x scope cl s S P Fin k i ys news := by
  intro k
  induction k with
  | zero => intro i ys _ _ fin; exact LCt.CompRestT.zero (by have := fin [] .nil; rwa [List.append_nil] at this)
  | succ k ih =>
    intro i ys htest helt fin
    refine LCt.CompRestT.succ ?_
    intro v I oI C oC D m₂ h tk E' hP hC hx F N off ne
    refine wpAny_mono (htest i v I oI C oC D m₂ h tk ys E' (Nat.le_refl _) (by omega) hP hC hx F N) (fun b s' hb => ?_) fun _ _ e => e
    obtain ⟨rfl, h', tk', rfl, st⟩ := hb
    have rest : ∀ ys', (∀ zs, All2 Y ((List.range' (i + 1) k).filter p) zs → Fin (ys' ++ zs) news) → LCt.CompRestT prog w A h₀ L m env ct elt x scope cl s S P Fin k (i + 1) ys' news :=
      fun ys' fin' => ih (i + 1) ys' (fun j v I oI C oC D m₂ h tk ys E' a b => htest j v I oI C oC D m₂ h tk ys E' (by omega) (by omega)) (fun j v I oI C oC D m₂ h tk ys E' a b => helt j v I oI C oC D m₂ h tk ys E' (by omega) (by omega)) fin'
    cases q : p i with
    | true =>
      rw [if_pos rfl]
      refine wpAny_mono (helt i v I oI C oC D m₂ h' tk' ys E' (Nat.le_refl _) (by omega) q hP hC hx (F.keeps st) (N.keepsAll st)) (fun y s' hy => ?_) fun _ _ e => e
      obtain ⟨hy, h'', tk'', rfl, st'⟩ := hy
      refine ⟨h'', tk'', news, rfl, (F.keeps st).keeps st', (N.keepsAll st).keepsAll st', off, hS, rest _ fun zs hz => ?_⟩
      rw [List.append_assoc]
      exact fin (y :: zs) (by rw [List.range'_succ, List.filter_cons, q, if_pos rfl]; exact .cons hy hz)
    | false =>
      rw [if_neg (by decide)]
      refine ⟨h', tk', news, rfl, F.keeps st, N.keepsAll st, off, hS, rest _ fun zs hz => ?_⟩
      exact fin zs (by rw [List.range'_succ, List.filter_cons, q, if_neg (by decide)]; exact hz)
theorem ints_of {f : Nat → Int} : ∀ {l : List Nat} {zs : List Value}, All2 (fun j y => ∃ t, y = Value.int (f j) t) l zs → IntsAre zs (l.map f)
  | [], _, .nil => .nil
  | _ :: _, _, .cons ⟨t, e⟩ r => by rw [e]; exact .cons _ t (ints_of r)
theorem All2.length {α β : Type} {F : α → β → Prop} : ∀ {l : List α} {m : List β}, All2 F l m → m.length = l.length
  | [], _, .nil => rfl
  | _ :: _, _, .cons _ r => congrArg (· + 1) r.length
theorem All2.get {α β : Type} {F : α → β → Prop} : ∀ {l : List α} {m : List β}, All2 F l m → ∀ {i : Nat} {a : α}, l[i]? = some a → ∃ b, m[i]? = some b ∧ F a b
  | _ :: _, _, .cons h r, 0, a, e => by cases e; exact ⟨_, rfl, h⟩
  | _ :: _, _, .cons h r, i + 1, a, e => by
    obtain ⟨b, h1, h2⟩ := r.get (i := i) (a := a) e
    exact ⟨b, h1, h2⟩
theorem All2.mono {α β : Type} {F G : α → β → Prop} (k : ∀ a b, F a b → G a b) : ∀ {l : List α} {m : List β}, All2 F l m → All2 G l m
  | [], _, .nil => .nil
  | _ :: _, _, .cons h r => .cons (k _ _ h) (r.mono k)
end
section
variable {prog : Program} {w : World} {A : Around} {s : Shared}
/-- a call of a def of the top's that has cells, in the own logic -/
theorem call_defLC {R : Result → Shared → Prop} {a : Addr} {o : Obj} {name qual : Str} {params : Arguments} {body : List Stmt} {scope : Scope} {dV kV doc pm cdv ct : Value} {an : Option Addr} {args : Args} {binds : List (Str × Value)}
    (hroom : A.depth < recursionLimit) (ho : s.heap.get? a = some o) (hdata : o.data = .func (fnOf name qual params body scope dV kV doc pm an cdv ct)) (hlim : s.heap.NoLimit) (hcd : s.heap.CodeRec cdv qual)
    (hbind : BindsTo s (fnOf name qual params body scope dV kV doc pm an cdv ct) args binds) (hkind : (binds.all fun y => scope.names.lookup y.1 == some .local || scope.names.lookup y.1 == some .cell) = true)
    (hnd : ((cellsFrom 0 scope.names []).map (·.1)).Nodup)
    (h : ∀ h₁ tk cells, Fr s.heap s.heap.objs.size h₁ (bindL (envOfC qual scope s.heap.objs.size a cdv).kindOf binds fun _ => none) → News s.heap s.heap.objs.size h₁ cells →
      CellsAre (bindC (envOfC qual scope s.heap.objs.size a cdv).kindOf binds fun _ => none) (cellsFrom (s.heap.objs.size + 1) scope.names []) cells →
      wpL (model prog w) (A.deeper (envOfC qual scope s.heap.objs.size a cdv)) (execs body (envOfC qual scope s.heap.objs.size a cdv)) (fun f s' => R (.ok (.ret (match f with | .ret v => v | _ => .none))) s') (fun _ _ => False) { s with heap := h₁, toks := tk })
    (hco : scope.isCoroutine = false) (hgen : scope.isGenerator = false) (hk : scope.kind = .function) : codeL (model prog w) A (.call (.ref a) args) R s := by
  refine codeL_of_tree ?_
  show wpL _ A.in1 (callAny (.ref a) args) _ _ s
  simp only [callAny]
  refine wpL_bind (wpL_of (wpAny_load ho ?_))
  obtain ⟨c, oc, vs, tq, hc, hoc, hdc, hq⟩ := hcd
  simp only [hdata, callFunction, hco, hgen, hc]
  refine wpL_bind (m := field (.ref c) 1) (wpL_of (wpAny_field hoc hdc hq (wpL_bind (wpL_pure ?_))))
  have hb := hbind
  rw [hc] at hb
  refine wpL_bind (wpL_of (hb _ _ _ _ ?_))
  refine wpL_bind (wpL_of (wpAny_newFunctionEnv_cells hk (kindsX hkind _) fun env' he s' x => ?_))
  subst he
  obtain ⟨h₁, tk, rfl, _⟩ := x.done
  have hk₁ := x.toInCall.keep
  obtain ⟨cells, NC, Y⟩ := Cl.news (h₀ := s.heap) (Nat.le_refl _) fun n c hm => ⟨x.cell n c (lookup_of_mem_nodup (cellsFrom_names scope.names 0 (s.heap.objs.size + 1) [] [] rfl ▸ hnd) hm), x.above n c hm⟩
  refine wpL_bind (wpL_of (wpAny_enterFrame (hlim.keeps hk₁) hroom ?_))
  refine wpL_pure (And.intro rfl ?_)
  rw [← hc]
  exact funcL (h h₁ tk cells ⟨x.toInCall.ns, hk₁, Nat.le_refl _⟩ NC (by rw [hc]; exact Y))
end
/-- the objects of the law's tree are all there -/
def Has (fa : List (Addr × Obj)) (h : Heap) : Prop := ∀ p ∈ fa, h.get? p.1 = some p.2
theorem Has.keeps {fa h h'} (x : Has fa h) (st : h.StaysIn h') : Has fa h' := fun p hp => st _ _ (x p hp)
/-- the tree that the law has grown -/
structure Tree (H₀ : Heap) (T : Tr) (rows : List Value) (fa : List (Addr × Obj)) : Prop where
  full : ∀ g, Has fa g → Full H₀ g T 0 none none rows
  high : T.height ≤ 3
  short : T.Short
  apart : T.Apart
/-- what the law's call comes to: True, and nothing that stood before has changed -/
def LawEnd (s : Shared) (v : Value) (s' : Shared) : Prop := v = .bool true ∧ s.heap.StaysIn s'.heap ∧ s'.os = s.os ∧ leftWithCleanup s'.gens = false
theorem law_head (core : ∀ (w : World) (s : Shared) (mean : ExcName → Option Value) (mg mb : Str → Option Value) (fa sl0 : Addr) (o : Obj) (vs : List Value) (ns : List Int), Gd w s.heap mean mg mb → s.heap.get? fa = some o → mg (Str.ofString "law") = some (.ref fa) → s.gens = #[] → s.heap.life.registered = [] → s.heap.IsList sl0 vs.toArray → IntsAre vs ns → ns.length ≤ 63 →
      wpL (model PG w) callerA (call (.ref fa) [.ref sl0]) (LawEnd s) (fun _ _ => False) s) : PySem.Challenge.rw_bu5039_01.Holds := by
  k_fill
  refine Mine.hd ?_
  intro w s₀ s₁ mg mb G Y fa o pm cd doc dV kV ho hd hcd hD hmg hg args vals as hpre hlay hrd hwl hlo hreg
  have KX := kIn_of Y
  refine Ground.open G ?_
  intro T B D TE TW
  have hmg' := hmg
  wrow_args hpre hlay hrd hwl hlo
  refine wpL_mono (core w s₁ _ mg mb fa _ _ _ _ ⟨KX, T⟩ ho hmg' hg hreg ‹_› ‹_› (by omega)) ?_ fun _ _ e => e
  rintro v s' ⟨rfl, st, os, fin⟩
  have hread : ReadsW PySem.Challenge.rw_bu5039_01.row.claim.records (classAt s₀.heap) s'.heap (.bool true) (.bool true) [] := .bool true
  exact ⟨GoodW.toG ⟨.inl ⟨_, .bool true, [], rfl, fun _ => rfl, hread, by with_unfolding_all rfl, unshared_nil⟩, st, os, rfl⟩, fin⟩
theorem grown_all {w : World} {H₀ : Heap} {mean : ExcName → Option Value} {mg mb : Str → Option Value} (G : Gd w H₀ mean mg mb) : ∀ d, GrownOk w H₀ d
  | 0 => grown_zero G
  | d + 1 => grown_succ G (grown_all G d)
section
variable {w : World} {H₀ : Heap} {mean : ExcName → Option Value} {mg mb : Str → Option Value}
theorem use_grownL {d : Nat} (ih : GrownOk w H₀ d) {g : Heap} {L : Addr} {mm : Str → Option Value} {news : List (Addr × Obj)} {E : Value → Shared → Prop} {Q : Value → Shared → Prop}
    {s : Shared} {dp un : Nat} {outer : List Env} {S sl N V : Addr} {vs nv av : List Value} {ns : List Int} {p e : Int} {t td n m nn na : Nat} {u1 : Obj → List (Addr × Obj)} {u2 : Obj → Obj → List (Addr × Obj)} {u3 : Obj → Obj → Obj → List (Addr × Obj)} {fa0 : List (Addr × Obj)} {lo : Nat} {bad : List Addr}
    (F : Fr g L s.heap mm) (NW : News g L s.heap news) (st : H₀.StaysIn g) (he : e = d)
    (hSm : (S, listOf [Value.ref sl, .int p t].toArray n) ∈ news) (hNm : (N, listOf nv.toArray nn) ∈ news) (hVm : (V, listOf av.toArray na) ∈ news)
    (U1 : UpdF S (listOf [Value.ref sl, .int p t].toArray n) news u1) (U2 : ∀ a, UpdF N (listOf nv.toArray nn) (u1 a) (u2 a)) (U3 : ∀ a b, UpdF V (listOf av.toArray na) (u2 a b) (u3 a b))
    (hS0 : H₀.get? S = none) (hN0 : H₀.get? N = none) (hV0 : H₀.get? V = none) (hsl : (sl, listOf vs.toArray m) ∈ news) (hsl0 : H₀.get? sl = none) (hi : IntsAre vs ns) (hlen : ns.length ≤ 60)
    (hav : av.length = nv.length) (hcap : nv.length + capN d < 500) (q1 : @Ne Nat sl S) (q2 : @Ne Nat S N) (q3 : @Ne Nat S V) (q4 : @Ne Nat N V) (q5 : @Ne Nat sl N) (q6 : @Ne Nat sl V) (hp : 0 ≤ p) (hp2 : p + costN d < 900) (hd : dp + 2 * d + 10 < recursionLimit)
    (T0 : Tail fa0 lo bad) (hsub : ∀ q ∈ fa0, q ∈ news) (hb : ∀ b ∈ bad, ∃ o, (b, o) ∈ news) (hlo : lo ≤ s.heap.objs.size)
    (k : ∀ h' tks (T : Tr) (p' : Int) tS nS nN nV Rw dx C Cl es n nR rr fa tk pr, Fr g L h' mm →
      News g L h' ((T.root, instObj C dx) :: (dx, dictOf es n) :: (Rw, listOf [Value.none, .ref Cl].toArray nR) :: (u3 (listOf [Value.ref sl, .int p' tS].toArray nS) (listOf (nv ++ .ref T.root :: pr).toArray nN) (listOf (av ++ .ref Rw :: rr).toArray nV) ++ fa)) →
      (∀ q ∈ news, q.1 < s.heap.objs.size) → @LE.le Nat _ s.heap.objs.size Rw → @LT.lt Nat _ Rw dx → @LT.lt Nat _ dx T.root → p ≤ p' → p' ≤ p + costN d →
      T.preL = .ref T.root :: pr → rr.length + 1 = T.size → pr.length + 1 = T.size → T.height ≤ d → T.Short → T.Apart → Made H₀ h' T nv.length s.heap.objs.size Rw dx C Cl es n nR rr fa → Tail (fa0 ++ fa) lo (Rw :: dx :: bad) → @LE.le Nat _ lo Rw →
      Q (.int nv.length tk) { s with heap := h', toks := tks }) :
    wpAny (model PG w) (Ar dp un outer) (call (.ref 333) [.ref S, .ref N, .ref V, .int e td]) Q E s := by
  subst he
  refine wpAny_call (ih (fun b o e => F.keep b o (st b o e)) (NW _ hSm).1 hS0 (NW _ hsl).1 hsl0 hi hlen (NW _ hNm).1 hN0 (NW _ hVm).1 hV0 hav hcap q1 q2 q3 q4 q5 q6 hp hp2 hd fun h' tks T p' tS nS nN nV Rw dx C Cl es n nR rr fa tk pr kp hS' hp1 hp2' hN' hpre hV' hrr hpr hh hsh hap M => ?_)
  have zS := (NW _ hSm).2
  have zN := (NW _ hNm).2
  have zV := (NW _ hVm).2
  have kpg : ∀ b o, g.get? b = some o → h'.get? b = some o := fun b o e => kp b o (fun q => by rw [q, zS.2] at e; cases e) (fun q => by rw [q, zN.2] at e; cases e) (fun q => by rw [q, zV.2] at e; cases e) (F.keep b o e)
  have F' : Fr g L h' mm := ⟨let ⟨o, es, ep, e, r⟩ := F.ns; ⟨o, es, ep, kp _ _ (Ne.symm zS.1) (Ne.symm zN.1) (Ne.symm zV.1) e, r⟩, kpg, F.above⟩
  have hL : @LT.lt Nat _ L s.heap.objs.size := by
    obtain ⟨o, es, ep, e, r⟩ := F.ns
    exact Heap.lt_size e
  have hg : ∀ b : Nat, s.heap.objs.size ≤ b → b ≠ L ∧ g.get? b = none := fun b hb => ⟨fun q => by subst q; exact absurd (Nat.lt_of_lt_of_le hL hb) (Nat.lt_irrefl _), by
    cases q : g.get? b with
    | none => rfl
    | some o => exact absurd (Nat.lt_of_lt_of_le (Heap.lt_size (F.keep b o q)) hb) (Nat.lt_irrefl _)⟩
  have B0 : ∀ q ∈ news, q.1 ≠ S → q.1 ≠ N → q.1 ≠ V → (h'.get? q.1 = some q.2 ∧ q.1 ≠ L ∧ g.get? q.1 = none) := fun q hq r1 r2 r3 => ⟨kp _ _ r1 r2 r3 (NW q hq).1, (NW q hq).2⟩
  have B1 := updF_all (P := fun q => q.1 ≠ N → q.1 ≠ V → (h'.get? q.1 = some q.2 ∧ q.1 ≠ L ∧ g.get? q.1 = none)) (o' := listOf [Value.ref sl, .int p' tS].toArray nS) U1 (fun q hq r1 r2 r3 => B0 q hq r1 r2 r3) (fun _ _ => ⟨hS', zS⟩)
  have B2 := updF_all (P := fun q => q.1 ≠ V → (h'.get? q.1 = some q.2 ∧ q.1 ≠ L ∧ g.get? q.1 = none)) (o' := listOf (nv ++ .ref T.root :: pr).toArray nN) (U2 _) (fun q hq r2 r3 => B1 q hq r2 r3) (fun _ => ⟨hN', zN⟩)
  have B3 := updF_all (P := fun q => (h'.get? q.1 = some q.2 ∧ q.1 ≠ L ∧ g.get? q.1 = none)) (o' := listOf (av ++ .ref Rw :: rr).toArray nV) (U3 _ _) (fun q hq r3 => B2 q hq r3) ⟨hV', zV⟩
  have l1 : s.heap.objs.size ≤ dx := Nat.le_of_lt (Nat.lt_of_le_of_lt M.low M.o1)
  have l2 : s.heap.objs.size ≤ T.root := Nat.le_of_lt (Nat.lt_of_le_of_lt l1 M.o2)
  refine k h' tks T p' tS nS nN nV Rw dx C Cl es n nR rr fa tk pr F' ?_ (fun q hq => Heap.lt_size (NW q hq).1) M.low M.o1 M.o2 hp1 hp2' hpre hrr hpr hh hsh hap M ?_ (Nat.le_trans hlo M.low)
  · intro q hq
    rcases List.mem_cons.mp hq with rfl | hq
    · exact ⟨M.inst, hg _ l2⟩
    rcases List.mem_cons.mp hq with rfl | hq
    · exact ⟨M.dict, hg _ l1⟩
    rcases List.mem_cons.mp hq with rfl | hq
    · exact ⟨M.row, hg _ M.low⟩
    rcases List.mem_append.mp hq with hq | hq
    · exact B3 q hq
    · exact ⟨(M.rest q hq).1, hg _ (M.rest q hq).2.1⟩
  · intro q hq
    rcases List.mem_append.mp hq with hq | hq
    · refine ⟨(T0 q hq).1, fun z => ?_⟩
      have lt : @LT.lt Nat _ q.1 s.heap.objs.size := Heap.lt_size (NW q (hsub q hq)).1
      rcases List.mem_cons.mp z with z | z
      · rw [z] at lt; exact absurd (Nat.lt_of_lt_of_le lt M.low) (Nat.lt_irrefl _)
      rcases List.mem_cons.mp z with z | z
      · rw [z] at lt; exact absurd (Nat.lt_of_lt_of_le lt l1) (Nat.lt_irrefl _)
      · exact (T0 q hq).2 z
    · obtain ⟨_, y1, y2, y3⟩ := M.rest q hq
      refine ⟨Nat.le_trans hlo y1, fun z => ?_⟩
      rcases List.mem_cons.mp z with z | z
      · exact y2 z
      rcases List.mem_cons.mp z with z | z
      · exact y3 z
      · obtain ⟨o, hm⟩ := hb _ z
        exact absurd (Nat.lt_of_lt_of_le (Heap.lt_size (NW _ hm).1) y1) (Nat.lt_irrefl _)
end
/-- the law's own text, as the heap holds it -/
def LawFn (w : World) (body : List Stmt) (scope : Scope) (cdv : Value) : Prop :=
  ∃ params dV kV doc pm ct oc an od osl, (Mine.hd.heap_39 w.params).lookup 359 = some ⟨oc, od, .func (fnOf "law" "law" params body scope dV kV doc pm an cdv ct), osl⟩ ∧ codeIn (Mine.hd.heap_39 w.params) cdv "law" = true ∧
    ∀ s v, BindsTo s (fnOf "law" "law" params body scope dV kV doc pm an cdv ct) ⟨[v], []⟩ [(Str.ofString "script", v)]
theorem LawFn.ex {w : World} {body : List Stmt} {scope : Scope} {cdv : Value} {params dV kV doc pm ct oc an od osl}
    (h1 : (Mine.hd.heap_39 w.params).lookup 359 = some ⟨oc, od, .func (fnOf "law" "law" params body scope dV kV doc pm an cdv ct), osl⟩) (h2 : codeIn (Mine.hd.heap_39 w.params) cdv "law" = true)
    (h3 : ∀ s v, BindsTo s (fnOf "law" "law" params body scope dV kV doc pm an cdv ct) ⟨[v], []⟩ [(Str.ofString "script", v)]) : LawFn w body scope cdv := ⟨_, _, _, _, _, _, _, _, _, _, h1, h2, h3⟩
theorem LawFn.unique {w : World} {b b' : List Stmt} {c c' : Scope} {d d' : Value} (x : LawFn w b c d) (y : LawFn w b' c' d') : b' = b ∧ c' = c ∧ d' = d := by
  obtain ⟨_, _, _, _, _, _, _, _, _, _, h1, _⟩ := x
  obtain ⟨_, _, _, _, _, _, _, _, _, _, h2, _⟩ := y
  rw [h1] at h2
  cases h2
  exact ⟨rfl, rfl, rfl⟩
theorem fresh_none {g h : Heap} {L a : Addr} {o : Obj} {news : List (Addr × Obj)} (N : News g L h news) (hm : (a, o) ∈ news) : g.get? a = none := (N _ hm).2.2
theorem setPar_none {es : List DictEntry} {a : Str → Option Value} (h : ∀ nm, getL nm es = some (a nm)) (hp : getL (Str.ofString "parent") es = some none) : ∀ nm, getL nm es = some (setPar a none nm) := fun nm => by
  rw [h nm]
  unfold setPar
  by_cases q : nm = Str.ofString "parent"
  · subst q
    rw [if_pos rfl]
    exact (h _).symm.trans hp
  · rw [if_neg q]
theorem made_tree {H₀ h' : Heap} {T : Tr} {lo : Nat} {R dx C Cl : Addr} {es : List DictEntry} {n nR : Nat} {rr : List Value} {fa : List (Addr × Obj)} (M : Made H₀ h' T 0 lo R dx C Cl es n nR rr fa) (hh : T.height ≤ 3) (hs : T.Short) (ha : T.Apart) :
    Tree H₀ T (.ref R :: rr) ((T.root, instObj C dx) :: (dx, dictOf es n) :: (R, listOf [Value.none, .ref Cl].toArray nR) :: fa) := by
  obtain ⟨a, ra⟩ := M.reads
  exact ⟨fun g gf => M.full g none none es n nR .none a (fun p hp => gf p (.tail _ (.tail _ (.tail _ hp)))) (gf _ (.head _)) (gf _ (.tail _ (.head _))) ra (setPar_none ra M.nopar) (gf _ (.tail _ (.tail _ (.head _)))) rfl, hh, hs, ha⟩
/-- the law's ledger behind its fifth statement -/
abbrev lawLed (L : Nat) (V N : Addr) (rows : List Value) (T : Tr) (nV nN : Nat) (o1 o2 o3 o4 o5 : Obj) (fa : List (Addr × Obj)) : List (Addr × Obj) :=
  (V, listOf rows.toArray nV) :: (N, listOf T.preL.toArray nN) :: (L + 1 + 1 + 1 + 1 + 1, o1) :: (L + 1 + 1 + 1 + 1, o2) :: (L + 1 + 1 + 1, o3) :: (L + 1 + 1, o4) :: (L + 1, o5) :: fa
structure LawSt (H₀ : Heap) (L : Nat) (V N : Addr) (rows : List Value) (T : Tr) (nV nN : Nat) (o1 o2 o3 o4 o5 : Obj) (fa : List (Addr × Obj)) (m : Str → Option Value) (h : Heap) : Prop where
  F : Fr H₀ L h m
  W : News H₀ L h (lawLed L V N rows T nV nN o1 o2 o3 o4 o5 fa)
  root : m (Str.ofString "root") = some (.ref T.root)
  above : m (Str.ofString "above") = some (.ref V)
  nodes : o5.data = .cell (some (.ref N))
  tree : Tree H₀ T rows fa
  c1 : ∃ v, o1.data = .cell v
  c2 : ∃ v, o2.data = .cell v
  c3 : ∃ v, o3.data = .cell v
  c4 : ∃ v, o4.data = .cell v
  lV : L + 1 + 1 + 1 + 1 + 1 < V
  lN : L + 1 + 1 + 1 + 1 + 1 < N
  lf : ∀ p ∈ fa, L + 1 + 1 + 1 + 1 + 1 < p.1
  VN : @Ne Nat V N
  Vf : ∀ p ∈ fa, p.1 ≠ V
  Nf : ∀ p ∈ fa, p.1 ≠ N
theorem news_sub {g h : Heap} {L : Addr} {all sub : List (Addr × Obj)} (N : News g L h all) (k : ∀ p ∈ sub, p ∈ all) : News g L h sub := fun p hp => N p (k p hp)
section
set_option hygiene false in
local macro_rules | `(tactic| walk_at "call ref") => `(tactic| (k_here; (with_reducible show wpAny _ _ (call (Value.ref 305) _) _ _ _); k_dflt (refine' leaf_use G ?k1 ?k2 ?k3 ?k4 ?k5 ?k6 ?k7 ?k8 ?_; (case k1 => k_asm); (case k2 => k_asm); (case k3 => k_asm); (case k4 => assumption); (case k5 => k_mem); (case k6 => k_mem); (case k7 => omega); (case k8 => k_room); k_whole); intro x9 dx9 h' tks9 es9 n9 a9 F' N' l1 l2 z9 rd9 fa9; (try k_lt l1); (try k_sweep)))
local macro_rules | `(tactic| k_ne) => `(tactic| first | exact NeA.h (by with_reducible assumption) | exact NeA.s (by with_reducible assumption) | (refine neN ?_; (try dsimp only); omega))
local macro_rules | `(tactic| walk_at "mine:thin") => `(tactic| (repeat (rename (@LT.lt Nat _ _ _ ∧ _) => hq9; (have hq8 := hq9.1); (try have hq7 := hq9.2.1); clear hq9)))
local macro_rules | `(tactic| walk_at "mine:bad") => `(tactic| first | exact List.forall_mem_nil _ | (refine' List.forall_mem_cons.mpr ⟨⟨_, ?a⟩, ?b⟩; (case a => k_mem); (case b => walk_at "mine:bad")))
local macro_rules | `(tactic| walk_at "mine:tail") => `(tactic| first | exact List.forall_mem_nil _ | (intro q9 hq9; repeat (first | exact hq9 | refine List.mem_cons_of_mem _ ?_)))
set_option hygiene false in
local macro_rules | `(tactic| walk_at "call ref") => `(tactic| (k_here; (with_reducible show wpAny _ _ (call (Value.ref 333) _) _ _ _); (walk_at "mine:thin"); k_dflt (refine' use_grown ihG ?k1 ?k2 ?k3 ?k4 ?j1 ?j2 ?j3 ?u1 ?u2 ?u3 ?k5 ?k6 ?k7 ?k8 ?k9 ?k10 ?k11 ?k12 ?k13 ?q1 ?q2 ?q3 ?q4 ?q5 ?q6 ?k14 ?k15 ?k16 ?t1 ?t2 ?t3 ?t4 ?_; (case k1 => k_asm); (case k2 => k_asm); (case k3 => assumption); (case k4 => omega); (case j1 => k_mem); (case j2 => k_mem); (case j3 => k_mem); (case u1 => k_updF); (case u2 => (intro a9; k_updF)); (case u3 => (intro a9 b9; k_updF)); (case k5 => assumption); (case k6 => assumption); (case k7 => assumption); (case k8 => assumption); (case k9 => assumption); (case k10 => assumption); (case k11 => assumption); (case k12 => (simp only [List.length_append, List.length_cons, List.length_nil]; omega)); (case k13 => (simp only [List.length_append, List.length_cons, List.length_nil]; omega)); (case q1 => exact NeA.h (by assumption)); (case q2 => exact NeA.h (by assumption)); (case q3 => exact NeA.h (by assumption)); (case q4 => exact NeA.h (by assumption)); (case q5 => exact NeA.h (by assumption)); (case q6 => exact NeA.h (by assumption)); (case k14 => omega); (case k15 => omega); (case k16 => k_room); (case t1 => first | exact hT9 | exact (Tail.nil : Tail [] _ [])); (case t2 => walk_at "mine:tail"); (case t3 => walk_at "mine:bad"); (case t4 => first | exact Nat.le_refl _ | exact tail_lo hlo9 (by k_asm) (by k_mem)); k_whole); (try clear hT9); (try clear hlo9); intro h' tks9 T9 p9 tS9 nS9 nN9 nV9 Rw9 dx9 C9 Cl9 es9 n9 nR9 rr9 fa9 tk9 pr9 F' N' l1 l2 l3 l4 hp91 hp92 hpre9 hrr9 hpr9 hh9 hsh9 hap9 M9 hT9 hlo9; (have hsz9 := size_cap _ hh9); (have hrp9 : rr9.length = pr9.length := by omega); (try dsimp only at N'); (try simp only [List.cons_append, List.nil_append] at N' hT9); (try dsimp only at l2); (try dsimp only at hT9); (try dsimp only at M9); k_lt l1; (have l1a := l1.1); (have l1b := l1.2.1); clear l1; (try k_sweep)))
set_option hygiene false in
local macro_rules | `(tactic| walk_at "call type:range") => `(tactic| (k_here; (with_reducible show wpAny _ _ (call (Value.type "range") [Value.int kk _]) _ _ _); (have h9 : kk = 0 ∨ kk = 1 ∨ kk = 2 ∨ kk = 3 := by omega); rcases h9 with h9 | h9 | h9 | h9 <;> subst h9))
local macro_rules | `(tactic| walk_at "mine:fresh") => `(tactic| (refine' fresh_none ?nn ?mm; (case nn => k_asm); (case mm => k_mem)))
set_option hygiene false in
local macro_rules | `(tactic| walk_at "call ref") => `(tactic| (k_here; (with_reducible show wpAny _ _ (call (Value.ref 333) _) _ _ _); (walk_at "mine:thin"); k_dflt (refine' use_grownL ihG ?k1 ?k2 ?k3 ?k4 ?j1 ?j2 ?j3 ?u1 ?u2 ?u3 ?k5 ?k6 ?k7 ?k8 ?k9 ?k10 ?k11 ?k12 ?k13 ?q1 ?q2 ?q3 ?q4 ?q5 ?q6 ?k14 ?k15 ?k16 ?t1 ?t2 ?t3 ?t4 ?_; (case k1 => k_asm); (case k2 => k_asm); (case k3 => exact fun _ _ e => e); (case k4 => rfl); (case j1 => k_mem); (case j2 => k_mem); (case j3 => k_mem); (case u1 => k_updF); (case u2 => (intro a9; k_updF)); (case u3 => (intro a9 b9; k_updF)); (case k5 => walk_at "mine:fresh"); (case k6 => walk_at "mine:fresh"); (case k7 => walk_at "mine:fresh"); (case k8 => k_mem); (case k9 => walk_at "mine:fresh"); (case k10 => assumption); (case k11 => first | assumption | (simp only [List.length_take]; omega)); (case k12 => (simp only [List.length_append, List.length_cons, List.length_nil]; try omega)); (case k13 => (simp only [List.length_append, List.length_cons, List.length_nil]; omega)); (case q1 => k_ne); (case q2 => k_ne); (case q3 => k_ne); (case q4 => k_ne); (case q5 => k_ne); (case q6 => k_ne); (case k14 => omega); (case k15 => omega); (case k16 => k_room); (case t1 => first | exact hT9 | exact (Tail.nil : Tail [] _ [])); (case t2 => walk_at "mine:tail"); (case t3 => walk_at "mine:bad"); (case t4 => first | exact Nat.le_refl _ | exact tail_lo hlo9 (by k_asm) (by k_mem)); k_whole); (try clear hT9); (try clear hlo9); intro h' tks9 T9 p9 tS9 nS9 nN9 nV9 Rw9 dx9 C9 Cl9 es9 n9 nR9 rr9 fa9 tk9 pr9 F' N' l1 l2 l3 l4 hp91 hp92 hpre9 hrr9 hpr9 hh9 hsh9 hap9 M9 hT9 hlo9; (have hsz9 := size_cap _ hh9); (have hrp9 : rr9.length = pr9.length := by omega); (try dsimp only at N'); (try simp only [List.cons_append, List.nil_append] at N' hT9); (try dsimp only at l2); (try dsimp only at hT9); (try dsimp only at M9); k_lt l1; (have l1a := l1.1); (have l1b := l1.2.1); clear l1; (try k_sweep)))
section
variable {w : World} {mean : ExcName → Option Value} {mg mb : Str → Option Value}
theorem part_a : ∃ body scope cdv, LawFn w body scope cdv ∧ ∀ {s : Shared} (G : Gd w s.heap mean mg mb) {sl0 : Addr} {vs : List Value} {ns : List Int} (hl0 : s.heap.IsList sl0 vs.toArray) (hi : IntsAre vs ns) (hn : ns.length ≤ 63) {dp un : Nat} {outer : List Env} (hd : dp + 30 < recursionLimit) {h₁ : Heap} {tk : Nat} {cells : List (Addr × Obj)} {Q : Flow → Shared → Prop}
    (F : Fr s.heap s.heap.objs.size h₁ (bindL (envOfC "law" scope s.heap.objs.size 359 cdv).kindOf [(Str.ofString "script", Value.ref sl0)] fun _ => none)) (N : News s.heap s.heap.objs.size h₁ cells)
    (Y : CellsAre (bindC (envOfC "law" scope s.heap.objs.size 359 cdv).kindOf [(Str.ofString "script", Value.ref sl0)] fun _ => none) (cellsFrom (s.heap.objs.size + 1) scope.names []) cells)
    (hQ : ∀ V N rows T nV nN o1 o2 o3 o4 o5 fa m h' tk', LawSt s.heap s.heap.objs.size V N rows T nV nN o1 o2 o3 o4 o5 fa m h' → Q .next { s with heap := h', toks := tk' }),
    wpAny (model PG w) (Ar dp un outer) (execs (body.take 5) (envOfC "law" scope s.heap.objs.size 359 cdv)) Q (fun _ _ => False) { s with heap := h₁, toks := tk } := by
  refine' ⟨_, _, _, LawFn.ex ?k5 ?k6 ?k7, ?walk⟩
  case k5 => k_is
  case k6 => k_is
  case k7 => intro s v; exact BindsTo.of_eq rfl
  case walk =>
    intro s G sl0 vs ns hl0 hi hn dp un outer hd h₁ tk cells Q F N Y hQ
    have ihG : GrownOk w s.heap 3 := grown_all G 3
    have Xg := G.X
    have Tg := G.T
    cases Y with
    | @cons n1 c1 o1 _ cells hd1 Y =>
    cases Y with
    | @cons n2 c2 o2 _ cells hd2 Y =>
    cases Y with
    | @cons n3 c3 o3 _ cells hd3 Y =>
    cases Y with
    | @cons n4 c4 o4 _ cells hd4 Y =>
    cases Y with
    | @cons n5 c5 o5 _ cells hd5 Y =>
    cases Y
    have hc3 : costN 3 = 93 := rfl
    have hk3 : capN 3 = 40 := rfl
    dsimp only [List.take, bindL, bindC] at *
    k_steps
    rename News _ _ _ _ => NN
    rename Fr _ _ _ _ => FF
    have M0 : Made s.heap _ T9 0 _ Rw9 dx9 C9 Cl9 es9 n9 nR9 rr9 fa9 := M9
    have htail : ∀ p ∈ fa9, @LT.lt Nat _ (s.heap.objs.size + 1 + 1 + 1 + 1 + 1) p.1 := fun p hp => by
      have := (hT9 p hp).1
      omega
    refine hQ _ _ _ T9 nV9 nN9 o1 o2 o3 o4 _ ((T9.root, instObj C9 dx9) :: (dx9, dictOf es9 n9) :: (Rw9, listOf [Value.none, .ref Cl9].toArray nR9) :: fa9) _ _ _ ⟨FF, news_sub NN ?sub, rfl, rfl, by assumption, made_tree M0 hh9 hsh9 hap9, ⟨_, hd1⟩, ⟨_, hd2⟩, ⟨_, hd3⟩, ⟨_, hd4⟩, ?a1, ?a2, ?a3, ?a4, ?a5, ?a6⟩
    case sub =>
      dsimp only [lawLed]
      rw [hpre9]
      exact List.forall_mem_cons.mpr ⟨by k_mem, List.forall_mem_cons.mpr ⟨by k_mem, List.forall_mem_cons.mpr ⟨by k_mem, List.forall_mem_cons.mpr ⟨by k_mem, List.forall_mem_cons.mpr ⟨by k_mem, List.forall_mem_cons.mpr ⟨by k_mem, List.forall_mem_cons.mpr ⟨by k_mem, List.forall_mem_cons.mpr ⟨by k_mem, List.forall_mem_cons.mpr ⟨by k_mem, List.forall_mem_cons.mpr ⟨by k_mem, by walk_at "mine:tail"⟩⟩⟩⟩⟩⟩⟩⟩⟩⟩
    case a1 => omega
    case a2 => omega
    case a3 => exact List.forall_mem_cons.mpr ⟨by show @LT.lt Nat _ _ T9.root; omega, List.forall_mem_cons.mpr ⟨by show @LT.lt Nat _ _ dx9; omega, List.forall_mem_cons.mpr ⟨by show @LT.lt Nat _ _ Rw9; omega, htail⟩⟩⟩
    case a4 => omega
    case a5 => exact List.forall_mem_cons.mpr ⟨neN (by show ¬ (@Eq Nat T9.root _); omega), List.forall_mem_cons.mpr ⟨neN (by show ¬ (@Eq Nat dx9 _); omega), List.forall_mem_cons.mpr ⟨neN (by show ¬ (@Eq Nat Rw9 _); omega), fun p hp => neN (by have := (hT9 p hp).1; omega)⟩⟩⟩
    case a6 => exact List.forall_mem_cons.mpr ⟨neN (by show ¬ (@Eq Nat T9.root _); omega), List.forall_mem_cons.mpr ⟨neN (by show ¬ (@Eq Nat dx9 _); omega), List.forall_mem_cons.mpr ⟨neN (by show ¬ (@Eq Nat Rw9 _); omega), fun p hp => neN (by have := (hT9 p hp).1; omega)⟩⟩⟩
end
end
theorem woken_in {A : Around} (hh : A.handled = none) : ∀ Γ : Ctx, Γ.Woken A.in1 → Γ.Woken (AG A.in1.depth A.in1.units) :=
  fun Γ h => ⟨⟨h.1.1.trans hh, h.1.2.1, fun _ e => (by cases e), fun _ e => (by cases e), h.1.2.2.2.2⟩, h.2⟩
section
variable {w : World} {H₀ : Heap} {mean : ExcName → Option Value} {mg mb : Str → Option Value}
/-- the value stands for a node, and the number is that node's -/
def NodeV (T : Tr) (v : Value) : Prop := ∃ k u, (k, u) ∈ T.nodeL 0 ∧ v = .ref u.root
def NumV (T : Tr) (v y : Value) : Prop := ∀ k u, (k, u) ∈ T.nodeL 0 → v = .ref u.root → ∃ t, y = .int k t
/-- a generator over the tree has just been made -/
def GenMade (w : World) (T : Tr) (lst : Tr → List Value) (s : Shared) (v : Value) (s₂ : Shared) : Prop :=
  ∃ it h' tk c, v = .ref it ∧ s₂ = { s with heap := h', toks := tk, gens := s.gens.push (.fresh c) } ∧ s.heap.StaysIn h' ∧ s.heap.objs.size < it ∧ h'.IsGen it s.gens.size ∧ s.heap.objs.size < h'.objs.size ∧
      (∀ (x : GP) (D U : Nat) (s' : Shared), GB w x s.heap → x.a ≤ s.heap.objs.size → ¬ x.hid s.heap.objs.size → (∀ b o, h'.get? b = some o → ¬ x.hid b → s'.heap.get? b = some o) → AllFin x.g s' → s'.heap.life.registered = [] → x.g < s'.gens.size → (∀ b, x.hid b → b < s'.heap.objs.size) → D + 10 * (T.height + 1) < recursionLimit →
        GoesL (model PG w) (AG D U) x.prot (lst T) (.fresh c) s')
theorem gen_made (G : Gd w H₀ mean mg mb) {s : Shared} (st : H₀.StaysIn s.heap) {T : Tr} {fn : Tr → Addr} {lst : Tr → List Value} (C : GenC w s.heap fn lst T) {A : Around} (hd : A.depth + 50 < recursionLimit) {E : Value → Shared → Prop} {Q : Value → Shared → Prop}
    (hQ : ∀ v s₂, GenMade w T lst s v s₂ → Q v s₂) : wpAny (model PG w) A (call (.ref (fn T)) [.ref T.root]) Q E s :=
  make_gen C (G.X.keeps st) (G.T.keeps st).nolimit (fun _ _ e => e) (Nat.le_refl _) (by omega) fun it h' tk c a1 a2 a3 a4 a5 => hQ _ _ ⟨it, h', tk, c, rfl, rfl, a1, a2, a3, a4, a5⟩
theorem gen_after (G : Gd w H₀ mean mg mb) {s : Shared} (st : H₀.StaysIn s.heap) {T : Tr} (i : At H₀ s.heap T 0 none) (hT : T.height ≤ 3) {lst : Tr → List Value} {l : List (Nat × Tr)} (hlst : lst T = l.map fun p => .ref p.2.root) (hl : ∀ p ∈ l, p ∈ T.nodeL 0) (hsz : l.length ≤ 1000)
    (hreg : s.heap.life.registered = []) {A : Around} (hA : A.handled = none) (hd : A.depth + 50 < recursionLimit) {env : Env} {scope : Scope} {cl : List (Str × Addr)} {nm : Str} {elt : Expr}
    (hel : ∀ (C : Addr) (k : Nat) (u : Tr) (par : Option Addr) (s' : Shared) (m : Str → Option Value), (k, u) ∈ T.nodeL 0 → s'.heap.Ns C m → m nm = some (.ref u.root) → H₀.StaysIn s'.heap → At H₀ s'.heap u k par →
      wpAny (model PG w) A (eval elt (compEnvC scope cl C env)) (fun y s'' => (∃ t, y = Value.int k t) ∧ Keeps s' s'') (fun _ _ => False) s')
    {it : Addr} {h' : Heap} {tk : Nat} {c : Code} (a1 : s.heap.StaysIn h') (a2 : s.heap.objs.size < it) (a3 : h'.IsGen it s.gens.size) (a4 : s.heap.objs.size < h'.objs.size)
    (a5 : ∀ (x : GP) (D U : Nat) (s' : Shared), GB w x s.heap → x.a ≤ s.heap.objs.size → ¬ x.hid s.heap.objs.size → (∀ b o, h'.get? b = some o → ¬ x.hid b → s'.heap.get? b = some o) → AllFin x.g s' → s'.heap.life.registered = [] → x.g < s'.gens.size → (∀ b, x.hid b → b < s'.heap.objs.size) → D + 10 * (T.height + 1) < recursionLimit →
        GoesL (model PG w) (AG D U) x.prot (lst T) (.fresh c) s') (life : h'.life = s.heap.life) :
    GenReady PG w A env scope cl nm elt { s with heap := h', toks := tk, gens := s.gens.push (.fresh c) } it s.gens.size s.heap.objs.size (lst T) (NodeV T) (NumV T) := by
  have X := G.X.keeps st
  have NL := (G.T.keeps st).nolimit
  refine ⟨NL.keeps a1, Nat.le_of_lt a4, Nat.le_of_lt a2, a3, ⟨.fresh c, by simp, ?gs⟩, ?cs, ?ok, ?sz, ?elt⟩
  case gs =>
    intro D C' s' hD hC hD2 hC2 st' hg grew
    have hg' : s'.gens = ((s.gens.push (.fresh c)).setIfInBounds s.gens.size .running) := hg
    have hs : s'.gens.size = s.gens.size + 1 := by rw [hg']; simp
    refine goes_weaken (woken_in hA) (a5 ⟨s.heap.objs.size, s.gens.size, fun b => b = D ∨ b = C' ∨ b = it⟩ _ _ s' ⟨X, NL, fun b o e => ⟨Heap.lt_size e, ?low⟩, Nat.le_refl _⟩ (Nat.le_refl _) ?nh (fun b o e _ => st' b o e) ?fin ?reg ?gsz ?hb ?dep)
    case low =>
      have hb : @LT.lt Nat _ b s.heap.objs.size := Heap.lt_size e
      have x1 : @LT.lt Nat _ s.heap.objs.size it := a2
      have x2 : @LT.lt Nat _ s.heap.objs.size h'.objs.size := a4
      have x3 : @LE.le Nat _ h'.objs.size D := hD2
      have x4 : @LE.le Nat _ h'.objs.size C' := hC2
      rintro (rfl | rfl | rfl) <;> omega
    case nh =>
      have x1 : @LT.lt Nat _ s.heap.objs.size it := a2
      have x2 : @LT.lt Nat _ s.heap.objs.size h'.objs.size := a4
      have x3 : @LE.le Nat _ h'.objs.size D := hD2
      have x4 : @LE.le Nat _ h'.objs.size C' := hC2
      rintro (q | q | q)
      · have q : @Eq Nat s.heap.objs.size D := q; omega
      · have q : @Eq Nat s.heap.objs.size C' := q; omega
      · have q : @Eq Nat s.heap.objs.size it := q; omega
    case fin =>
      intro j z hj hz
      have : j < s'.gens.size := by
        cases Nat.lt_or_ge j s'.gens.size with
        | inl q => exact q
        | inr q => rw [Array.getElem?_eq_none q] at hz; cases hz
      have hj : s.gens.size < j := hj
      omega
    case reg => rw [show s'.heap.life = h'.life from grew.1, life]; exact hreg
    case gsz => show s.gens.size < s'.gens.size; omega
    case hb =>
      rintro b (rfl | rfl | rfl)
      · exact hD
      · exact hC
      · obtain ⟨o, _, _, e, _⟩ := a3
        exact Heap.lt_size (st' _ _ e)
    case dep =>
      show A.depth + 10 * (T.height + 1) < recursionLimit
      omega
  case cs =>
    obtain ⟨mc, ⟨o, es, ep, e, _⟩, _⟩ := NL
    exact Heap.lt_size e
  case ok =>
    intro v hv
    rw [hlst] at hv
    obtain ⟨p, hp, rfl⟩ := List.mem_map.mp hv
    exact ⟨p.1, p.2, hl p hp, rfl⟩
  case sz =>
    rw [hlst, List.length_map, sizeLine_eq]
    omega
  case elt =>
    intro C' v s' m hC hv hn hm hk
    obtain ⟨k, u, hu, rfl⟩ := hv
    have sts : s.heap.StaysIn s'.heap := fun b o e => hk b o (a1 b o e) (Heap.lt_size e)
    obtain ⟨path, oc⟩ := Occ.all T 0 hu
    obtain ⟨⟨par, iu⟩, _⟩ := oc.up i
    refine wpAny_mono (hel C' k u par s' m hu hn hm (fun b o e => sts b o (st b o e)) (iu.keeps sts)) (fun y s'' hy => ⟨?_, hy.2⟩) fun _ _ e => e
    intro k' u' hu' e
    obtain ⟨path', oc'⟩ := Occ.all T 0 hu'
    obtain ⟨⟨par', iu'⟩, _⟩ := oc'.up i
    have e' : u.root = u'.root := by injection e
    have := root_num iu iu' e'
    subst this
    exact hy.1
end
/-- nothing of the generators is left open, nothing is watched, the world outside is as at the start -/
structure Calm (s₀ s : Shared) : Prop where
  fin : ∀ (i : Nat) z, s.gens[i]? = some z → z = GenState.finished
  reg : s.heap.life.registered = []
  os : s.os = s₀.os
theorem meth_here {prog : Program} {w : World} {A : Around} {E : Value → Shared → Prop} {s : Shared} {K : Frag} {x C : Addr} {name : Str} {a : Str → Option Value} {pl : Sem Bool} {Q : Value × List Value → Shared → Prop} {f : Addr} (X : K.In s.heap) (I : Inst s.heap x C a) (hl : a name = none) (hg : plainGet K C name = true)
    (hf : findIn K (.ref C) name = some (some (.ref f))) (ht : isFn K (.ref f) = true) (h : Q (.ref f, [.ref x]) s) : wpAny (model prog w) A (getMethod (.ref x) name pl) Q E s := by
  obtain ⟨dx, es, n, h1, h2, h3⟩ := I
  exact method_fn (od := some (dictOf es n)) X ⟨h1, rfl, rfl, h2⟩ (plainGet_of hg).1 (plainGet_of hg).2 hf (beq_iff_eq.mp ht) (by show (lookIn name (dictOf es n)).map _ = _; rw [lookIn_dict, h3 name, hl]; rfl) h
theorem After.st {a g : Nat} {L : Addr} {s σ s' : Shared} (x : After a g (fun b => b = L) σ s') (st : s.heap.StaysIn σ.heap) (ha : a = s.heap.objs.size) : ∀ b o, b ≠ L → s.heap.get? b = some o → s'.heap.get? b = some o :=
  fun b o hb e => x.heap b o (st b o e) (by rw [ha]; exact Heap.lt_size e) hb
theorem all2_num {T : Tr} {l : List (Nat × Tr)} (hl : ∀ p ∈ l, p ∈ T.nodeL 0) : ∀ {zs : List Value}, All2 (NumV T) (l.map fun p => .ref p.2.root) zs → All2 (fun j y => ∃ t, y = Value.int (j : Nat) t) (l.map (·.1)) zs := by
  induction l with
  | nil => intro zs h; cases h; exact .nil
  | cons p l ih =>
    intro zs h
    cases h with
    | cons h r => exact .cons (h p.1 p.2 (hl p (.head _)) rfl) (ih (fun q hq => hl q (.tail _ hq)) r)
theorem after_list {H₀ h' : Heap} {L D : Addr} {m m' : Str → Option Value} {led : List (Addr × Obj)} {s s₀ s' : Shared} {tk : Nat} {c : Code} {skip : Addr → Prop} {zs : List Value} (F : Fr H₀ L s.heap m) (W : News H₀ L s.heap led) (hc : Calm s₀ s) (st : s.heap.StaysIn h')
    (A : After s.heap.objs.size s.gens.size skip { s with heap := h', toks := tk, gens := s.gens.push (.fresh c) } s') (hs : ∀ b, skip b → b = L) (hD : h'.get? D = none) (hp : s'.heap.PlainList D zs.toArray) (hn : s'.heap.Ns L m') :
    (∀ (i : Nat) z, s'.gens[i]? = some z → z = GenState.finished) ∧ s'.os = s₀.os ∧ Fr H₀ L s'.heap m' ∧ (∃ n, News H₀ L s'.heap ((D, listOf zs.toArray n) :: led)) ∧ ∀ p ∈ led, p.1 ≠ D := by
  have keep : ∀ b o, b ≠ L → s.heap.get? b = some o → s'.heap.get? b = some o := fun b o hb e => A.heap b o (st b o e) (Heap.lt_size e) fun q => hb (hs b q)
  have hL : H₀.get? L = none := Heap.get?_none_of_le F.above
  have DL : D ≠ L := fun q => by
    obtain ⟨o, _, _, e, _⟩ := F.ns
    rw [q, st _ _ e] at hD; cases hD
  refine ⟨fun i z hz => ?_, A.os.trans hc.os, ⟨hn, fun b o e => keep b o (fun q => by rw [q, hL] at e; cases e) (F.keep b o e), F.above⟩, ?_, fun p hp q => ?_⟩
  · rcases Nat.lt_or_ge i s.gens.size with q | q
    · have z1 := A.gens i q
      rw [z1] at hz
      have : (s.gens.push (.fresh c))[i]? = s.gens[i]? := by rw [Array.getElem?_push]; simp [Nat.ne_of_lt q]
      exact hc.fin i z (this ▸ hz)
    · exact A.fin i z q hz
  · obtain ⟨n, e⟩ := hp
    refine ⟨n, fun p hp => ?_⟩
    rcases List.mem_cons.mp hp with rfl | hp
    · refine ⟨e, DL, ?_⟩
      cases q : H₀.get? D with
      | none => rfl
      | some o => rw [st _ _ (F.keep _ _ q)] at hD; cases hD
    · exact ⟨keep _ _ (W p hp).2.1 (W p hp).1, (W p hp).2⟩
  · have := st _ _ (W p hp).1
    rw [q, hD] at this; cases this
section
variable {w : World} {H₀ : Heap} {mean : ExcName → Option Value} {mg mb : Str → Option Value}
theorem part_first : ∃ body scope cdv, LawFn w body scope cdv ∧ ∀ {s s₀ : Shared} (G : Gd w H₀ mean mg mb) {L : Addr} {V N : Addr} {rows : List Value} {T : Tr} {nV nN : Nat} {o1 o2 o3 o4 o5 : Obj} {fa : List (Addr × Obj)} {m : Str → Option Value} (hS : LawSt H₀ L V N rows T nV nN o1 o2 o3 o4 o5 fa m s.heap) (hc : Calm s₀ s)
    {dp un : Nat} {outer : List Env} (hd : dp + 60 < recursionLimit) {Q : Flow → Shared → Prop}
    (hQ : ∀ s' D zs n, Calm s₀ s' → Fr H₀ L s'.heap (fun z => if z = Str.ofString "first" then some (.ref D) else m z) → News H₀ L s'.heap ((D, listOf zs.toArray n) :: lawLed L V N rows T nV nN o1 o2 o3 o4 o5 fa) → (∀ p ∈ lawLed L V N rows T nV nN o1 o2 o3 o4 o5 fa, p.1 ≠ D) →
      All2 (fun j y => ∃ t, y = Value.int (j : Nat) t) (List.range' 0 T.size) zs → Q .next s'),
    wpL (model PG w) (Ar dp un outer) (exec (body.getD 5 (.Pass default)) (envOfC "law" scope L 359 cdv)) Q (fun _ _ => False) s := by
  refine' ⟨_, _, _, LawFn.ex ?k5 ?k6 ?k7, ?walk⟩
  case k5 => k_is
  case k6 => k_is
  case k7 => intro s v; exact BindsTo.of_eq rfl
  case walk =>
    intro s s₀ G L V N rows T nV nN o1 o2 o3 o4 o5 fa m hS hc dp un outer hd Q hQ
    dsimp only [List.getD, List.getElem?_cons_zero, List.getElem?_cons_succ, Option.getD_some]
    have F := hS.F
    have st := F.keep
    have has : Has fa s.heap := fun p hp => (hS.W p (.tail _ (.tail _ (.tail _ (.tail _ (.tail _ (.tail _ (.tail _ hp)))))))).1
    have iT := (hS.tree.full _ has).at
    have hkid := gen_pre (w := w) T iT
    have F' := F
    refine wpL_mono (wpL_life (Q := fun f s' => f = .next ∧ ∃ D zs, ((∀ (i : Nat) z, s'.gens[i]? = some z → z = GenState.finished) ∧ s'.os = s₀.os ∧ Fr H₀ L s'.heap (fun z => if z = Str.ofString "first" then some (.ref D) else m z) ∧ (∃ n, News H₀ L s'.heap ((D, listOf zs.toArray n) :: lawLed L V N rows T nV nN o1 o2 o3 o4 o5 fa)) ∧ ∀ p ∈ lawLed L V N rows T nV nN o1 o2 o3 o4 o5 fa, p.1 ≠ D) ∧
      All2 (fun j y => ∃ t, y = Value.int (j : Nat) t) (List.range' 0 T.size) zs) ?main) ?fin fun _ _ e => e.1
    case fin =>
      rintro f s' ⟨⟨rfl, D, zs, ⟨h1, h2, h3, ⟨n, h4⟩, h5⟩, h6⟩, gr⟩
      exact hQ s' D zs n ⟨h1, by rw [gr.1]; exact hc.reg, h2⟩ h3 h4 h5 h6
    case main =>
     refine' assign_compL (Ok := NodeV T) (F := NumV T) ?hh ?hroom ?hsw ?hclos ?hcell ?hkind ?hnames ?hx ?hs ?hy ?hp ?h
     case hh => rfl
     case hroom => show dp < recursionLimit; omega
     case hsw => rfl
     case hclos => rfl
     case hcell => decide
     case hkind => rfl
     case hnames => decide
     case hx => rfl
     case hs => intro _; rfl
     case hy => rfl
     case hp => rfl
     case h =>
       refine wpL_mono (wpL_life (wpL_of (E := fun _ _ => False) (Q := fun v s₂ => GenMade w T Tr.preL s v s₂) ?ev)) ?post fun _ _ e => e.1
       case ev =>
         have Xs := G.X.keeps st
         have Xg : (Mine.hd.heap_39 w.params).In H₀ := G.X
         obtain ⟨hC, C, a, hfn, I, hn⟩ := hkid
         have hgo : wpAny (model PG w) (Ar dp un outer) (call (.ref (Tr.fnPre T)) [.ref T.root]) (fun v s₂ => GenMade w T Tr.preL s v s₂) (fun _ _ => False) s := gen_made G st hC (by show dp + 50 < recursionLimit; omega) fun v s₂ h => h
         rcases hfn with ⟨hfn, e⟩ | ⟨hfn, e⟩ <;> subst hfn <;> rw [e] at hgo
         all_goals (
           k_steps
           refine nameX_L F hS.root ?_
           refine' meth_here Xs I hn ?k1 ?k2 ?k3 ?_
           case k1 => k_is
           case k2 => k_is
           case k3 => k_is
           k_steps
           exact hgo)
       case post =>
         rintro v s₂ ⟨hv, gr⟩
         obtain ⟨it, h', tk, c, rfl, rfl, st', a2, a3, a4, a5⟩ := hv
         refine ⟨it, s.gens.size, s.heap.objs.size, T.preL, m, rfl, gen_after G st iT hS.tree.high (l := T.nodeL 0) (T.preL_eq 0) (fun p hp => hp) ?sz hc.reg rfl ?dep ?hel st' a2 a3 a4 a5 gr.1, F.ns.keeps st', ?lt, fun D s' zs hD hall hpl ha hns => ?_⟩
         case sz => have := size_cap 3 hS.tree.high; have q : capN 3 = 40 := rfl; rw [T.nodeL_length]; omega
         case dep => show dp + 50 < recursionLimit; omega
         case lt => obtain ⟨o, _, _, e, _⟩ := F.ns; exact Heap.lt_size e
         case hel =>
           intro C k u par s' m' hu hn hm hst iu
           have Xs' := G.X.keeps hst
           have Ts' := G.T.keeps hst
           have hcall : wpAny (model PG w) (Ar dp un outer) (call (.ref 340) [.ref u.root]) (fun y s'' => (∃ t, y = Value.int k t) ∧ Keeps s' s'') (fun _ _ => False) s' :=
             (number_at G hst iu (by omega)).call _ _ fun v h' tk' hv st' => ⟨hv, h', tk', rfl, fun b o e => st' b o e⟩
           k_steps
           refine Name_function_global rfl rfl (loadGlobal_global Ts'.g (mg_of Xs' Ts'.g (by k_is)) ?_) (by decide)
           k_steps
           exact hcall
         refine ⟨rfl, D, zs, after_list F hS.W hc st' ha (fun b q => q) hD hpl hns, ?_⟩
         have := all2_num (fun p hp => hp) (T.preL_eq 0 ▸ hall)
         rwa [T.nodeL_nums] at this
end
structure Sep (L : Nat) (V N : Addr) (fa : List (Addr × Obj)) : Prop where
  lV : @LT.lt Nat _ (L + 1 + 1 + 1 + 1 + 1) V
  lN : @LT.lt Nat _ (L + 1 + 1 + 1 + 1 + 1) N
  lf : ∀ p ∈ fa, @LT.lt Nat _ (L + 1 + 1 + 1 + 1 + 1) p.1
section
variable {L : Nat} {V N : Addr} {rows : List Value} {T : Tr} {nV nN : Nat} {o1 o2 o3 o4 o5 : Obj} {fa : List (Addr × Obj)}
theorem Sep.faNe (s : Sep L V N fa) {d : Nat} (hd : d ≤ L + 1 + 1 + 1 + 1 + 1) : ∀ p ∈ fa, p.1 ≠ d := fun p hp => neN (by have := s.lf p hp; omega)
theorem updF4 (s : Sep L V N fa) : UpdF (L + 1 + 1) o4 (lawLed L V N rows T nV nN o1 o2 o3 o4 o5 fa) (fun o => lawLed L V N rows T nV nN o1 o2 o3 o o5 fa) := by
  have h1 := s.lV
  have h2 := s.lN
  refine .tail (neN (by show ¬ (@Eq Nat V _); omega)) (.tail (neN (by show ¬ (@Eq Nat N _); omega)) (.tail (neN (by omega)) (.tail (neN (by omega)) (.tail (neN (by omega)) (.head ?_)))))
  exact List.forall_mem_cons.mpr ⟨neN (by omega), s.faNe (by omega)⟩
theorem updF3 (s : Sep L V N fa) : UpdF (L + 1 + 1 + 1) o3 (lawLed L V N rows T nV nN o1 o2 o3 o4 o5 fa) (fun o => lawLed L V N rows T nV nN o1 o2 o o4 o5 fa) := by
  have h1 := s.lV
  have h2 := s.lN
  refine .tail (neN (by show ¬ (@Eq Nat V _); omega)) (.tail (neN (by show ¬ (@Eq Nat N _); omega)) (.tail (neN (by omega)) (.tail (neN (by omega)) (.head ?_))))
  exact List.forall_mem_cons.mpr ⟨neN (by omega), List.forall_mem_cons.mpr ⟨neN (by omega), s.faNe (by omega)⟩⟩
theorem updF2 (s : Sep L V N fa) : UpdF (L + 1 + 1 + 1 + 1) o2 (lawLed L V N rows T nV nN o1 o2 o3 o4 o5 fa) (fun o => lawLed L V N rows T nV nN o1 o o3 o4 o5 fa) := by
  have h1 := s.lV
  have h2 := s.lN
  refine .tail (neN (by show ¬ (@Eq Nat V _); omega)) (.tail (neN (by show ¬ (@Eq Nat N _); omega)) (.tail (neN (by omega)) (.head ?_)))
  exact List.forall_mem_cons.mpr ⟨neN (by omega), List.forall_mem_cons.mpr ⟨neN (by omega), List.forall_mem_cons.mpr ⟨neN (by omega), s.faNe (by omega)⟩⟩⟩
theorem updF1 (s : Sep L V N fa) : UpdF (L + 1 + 1 + 1 + 1 + 1) o1 (lawLed L V N rows T nV nN o1 o2 o3 o4 o5 fa) (fun o => lawLed L V N rows T nV nN o o2 o3 o4 o5 fa) := by
  have h1 := s.lV
  have h2 := s.lN
  refine .tail (neN (by show ¬ (@Eq Nat V _); omega)) (.tail (neN (by show ¬ (@Eq Nat N _); omega)) (.head ?_))
  exact List.forall_mem_cons.mpr ⟨neN (by omega), List.forall_mem_cons.mpr ⟨neN (by omega), List.forall_mem_cons.mpr ⟨neN (by omega), List.forall_mem_cons.mpr ⟨neN (by omega), s.faNe (by omega)⟩⟩⟩⟩
end
theorem assignL {prog : Program} {w : World} {A : Around} {s : Shared} {env : Env} {x : Str} {pos' pos : Pos} {value : Expr} {Q : Flow → Shared → Prop} (hs : swapsWith value (some (.Name x pos')) pos.line env = pure false)
    (h : wpL (model prog w) A (eval value env) (fun v s₁ => wpAny (model prog w) A (storeName env x v) (fun _ s₂ => Q .next s₂) (fun _ _ => False) s₁) (fun _ _ => False) s) : wpL (model prog w) A (exec (.Assign [.Name x pos'] value pos) env) Q (fun _ _ => False) s := by
  rw [exec_Assign_Name env x pos' value pos hs]
  refine wpL_bind (wpL_of (wpAny_standAt (wpL_bind (wpL_mono h (fun v s₁ h₁ => wpL_of ?_) fun _ _ e => e))))
  intro Γ p hΓ
  simp only [Sem.wp_bind', Sem.wp_cmd_standAt, Sem.wp_bindName, Sem.wp_pure']
  exact h₁ Γ _ hΓ
section
variable {w : World} {H₀ : Heap} {mean : ExcName → Option Value} {mg mb : Str → Option Value}
theorem part_behind : ∃ body scope cdv, LawFn w body scope cdv ∧ ∀ {s s₀ : Shared} (G : Gd w H₀ mean mg mb) {L : Addr} {V N Df : Addr} {rows : List Value} {T : Tr} {nV nN : Nat} {oF o1 o2 o3 o4 o5 : Obj} {fa : List (Addr × Obj)} {m : Str → Option Value} (F : Fr H₀ L s.heap m) (W : News H₀ L s.heap ((Df, oF) :: lawLed L V N rows T nV nN o1 o2 o3 o4 o5 fa))
    (hroot : m (Str.ofString "root") = some (.ref T.root)) (tree : Tree H₀ T rows fa) (sep : Sep L V N fa) (hne : ∀ p ∈ lawLed L V N rows T nV nN o1 o2 o3 o4 o5 fa, p.1 ≠ Df) (c4 : ∃ v, o4.data = .cell v) (hc : Calm s₀ s)
    {dp un : Nat} {outer : List Env} (hd : dp + 60 < recursionLimit) {Q : Flow → Shared → Prop}
    (hQ : ∀ s' D zs n o4', Calm s₀ s' → Fr H₀ L s'.heap m → News H₀ L s'.heap ((D, listOf zs.toArray n) :: (Df, oF) :: lawLed L V N rows T nV nN o1 o2 o3 o4' o5 fa) → o4'.data = .cell (some (.ref D)) → (∀ p ∈ (Df, oF) :: lawLed L V N rows T nV nN o1 o2 o3 o4 o5 fa, p.1 ≠ D) →
      All2 (fun j y => ∃ t, y = Value.int (j : Nat) t) (T.postN 0) zs → Q .next s'),
    wpL (model PG w) (Ar dp un outer) (exec (body.getD 6 (.Pass default)) (envOfC "law" scope L 359 cdv)) Q (fun _ _ => False) s := by
  refine' ⟨_, _, _, LawFn.ex ?k5 ?k6 ?k7, ?walk⟩
  case k5 => k_is
  case k6 => k_is
  case k7 => intro s v; exact BindsTo.of_eq rfl
  case walk =>
    intro s s₀ G L V N Df rows T nV nN oF o1 o2 o3 o4 o5 fa m F W hroot tree sep hne c4 hc dp un outer hd Q hQ
    dsimp only [List.getD, List.getElem?_cons_zero, List.getElem?_cons_succ, Option.getD_some]
    have st := F.keep
    have has : Has fa s.heap := fun p hp => (W p (.tail _ (.tail _ (.tail _ (.tail _ (.tail _ (.tail _ (.tail _ (.tail _ hp))))))))).1
    have iT := (tree.full _ has).at
    have hkid := gen_post (w := w) T iT
    have F' := F
    refine wpL_mono (wpL_life (Q := fun f s' => f = .next ∧ ∃ D zs n o4', (∀ (i : Nat) z, s'.gens[i]? = some z → z = GenState.finished) ∧ s'.os = s₀.os ∧ Fr H₀ L s'.heap m ∧ News H₀ L s'.heap ((D, listOf zs.toArray n) :: (Df, oF) :: lawLed L V N rows T nV nN o1 o2 o3 o4' o5 fa) ∧ o4'.data = .cell (some (.ref D)) ∧ (∀ p ∈ (Df, oF) :: lawLed L V N rows T nV nN o1 o2 o3 o4 o5 fa, p.1 ≠ D) ∧
      All2 (fun j y => ∃ t, y = Value.int (j : Nat) t) (T.postN 0) zs) (assignL (by rfl) ?main)) ?fin fun _ _ e => e.1
    case fin =>
      rintro f s' ⟨⟨rfl, D, zs, n, o', h1, h2, h3, h4, h5, h6, h7⟩, gr⟩
      exact hQ s' D zs n o' ⟨h1, by rw [gr.1]; exact hc.reg, h2⟩ h3 h4 h5 h6 h7
    case main =>
     refine' eval_compL (Ok := NodeV T) (F := NumV T) ?hh ?hroom ?hclos ?hcell ?hkind ?hnames ?hx ?hs ?h
     case hh => rfl
     case hroom => show dp < recursionLimit; omega
     case hclos => rfl
     case hcell => decide
     case hkind => rfl
     case hnames => decide
     case hx => rfl
     case hs => intro _; rfl
     case h =>
       refine wpL_mono (wpL_life (wpL_of (E := fun _ _ => False) (Q := fun v s₂ => GenMade w T Tr.postL s v s₂) ?ev)) ?post fun _ _ e => e.1
       case ev =>
         have Xs := G.X.keeps st
         have Xg : (Mine.hd.heap_39 w.params).In H₀ := G.X
         obtain ⟨hC, C, a, hfn, I, hn⟩ := hkid
         have hgo : wpAny (model PG w) (Ar dp un outer) (call (.ref (Tr.fnPost T)) [.ref T.root]) (fun v s₂ => GenMade w T Tr.postL s v s₂) (fun _ _ => False) s := gen_made G st hC (by show dp + 50 < recursionLimit; omega) fun v s₂ h => h
         rcases hfn with ⟨hfn, e⟩ | ⟨hfn, e⟩ <;> subst hfn <;> rw [e] at hgo
         all_goals (
           k_steps
           refine nameX_L F hroot ?_
           refine' meth_here Xs I hn ?k1 ?k2 ?k3 ?_
           case k1 => k_is
           case k2 => k_is
           case k3 => k_is
           k_steps
           exact hgo)
       case post =>
         rintro v s₂ ⟨hv, gr⟩
         obtain ⟨it, h', tk, c, rfl, rfl, st', a2, a3, a4, a5⟩ := hv
         refine ⟨it, s.gens.size, s.heap.objs.size, T.postL, rfl, gen_after G st iT tree.high (l := T.postT 0) (T.postL_eq 0) (fun p hp => (T.post_perm 0).mem_iff.mp hp) ?sz hc.reg rfl ?dep ?hel st' a2 a3 a4 a5 gr.1, fun D s' zs hD hall hpl ha => ?_⟩
         case sz => have := size_cap 3 tree.high; have q : capN 3 = 40 := rfl; rw [(T.post_perm 0).length_eq, T.nodeL_length]; omega
         case dep => show dp + 50 < recursionLimit; omega
         case hel =>
           intro C k u par s' m' hu hn hm hst iu
           have Xs' := G.X.keeps hst
           have Ts' := G.T.keeps hst
           have hcall : wpAny (model PG w) (Ar dp un outer) (call (.ref 340) [.ref u.root]) (fun y s'' => (∃ t, y = Value.int k t) ∧ Keeps s' s'') (fun _ _ => False) s' :=
             (number_at G hst iu (by omega)).call _ _ fun v h' tk' hv st' => ⟨hv, h', tk', rfl, fun b o e => st' b o e⟩
           k_steps
           refine Name_function_global rfl rfl (loadGlobal_global Ts'.g (mg_of Xs' Ts'.g (by k_is)) ?_) (by decide)
           k_steps
           exact hcall
         have hns : s'.heap.Ns L m := by
           refine F.ns.at' fun o e => ha.heap _ _ (st' _ _ e) (Heap.lt_size e) (fun q => q)
         obtain ⟨h1, h2, h3, ⟨n, h4⟩, h5⟩ := after_list F W hc st' ha (fun b q => q.elim) hD hpl hns
         obtain ⟨v4, c4⟩ := c4
         have m1 : ((L + 1 + 1, o4) : Addr × Obj) ∈ lawLed L V N rows T nV nN o1 o2 o3 o4 o5 fa := .tail _ (.tail _ (.tail _ (.tail _ (.tail _ (.head _)))))
         exact storeX_C h3 h4 (c := L + 1 + 1) (by rfl) (.tail (Ne.symm (h5 _ (.tail _ m1))) (.tail (Ne.symm (hne _ m1)) (updF4 sep))) c4 fun h' o' F'' W'' d' => ⟨rfl, D, zs, n, o', h1, h2, F'', W'', d', h5, all2_num (fun p hp => (T.post_perm 0).mem_iff.mp hp) (T.postL_eq 0 ▸ hall)⟩
end
section
variable {prog : Program} {w : World} {A : Around} {E : Value → Shared → Prop} {s : Shared} {h₀ : Heap} {L : Addr} {m : Str → Option Value} {env : Env}
theorem range_fact {n : Nat} (hn : n ≤ 1000) : Builtin.Range.small 0 (n : Int) 1 = true ∧ Builtin.Range.rangeSize 0 (n : Int) 1 = ((n : Nat) : Int) := by
  have e : Builtin.Range.rangeSize 0 (n : Int) 1 = ((n : Nat) : Int) := by
    rw [rangeSize_pos (by decide) (by omega), Int.ediv_one]
    omega
  refine ⟨?_, e⟩
  unfold Builtin.Range.small
  rw [e]
  unfold Builtin.Range.rangeFitsLong
  simp only [Bool.and_eq_true, Bool.or_eq_true, decide_eq_true_eq]
  refine ⟨⟨⟨⟨by omega, by omega⟩, by omega⟩, by omega⟩, .inr ?_⟩
  rw [if_pos (by decide)]
  simp only [Bool.and_eq_true, decide_eq_true_eq]
  omega
theorem compSrc_range {elt : Expr} {x : Str} {scope : Scope} {cl : List (Str × Addr)} {Fin : Shared → List Value → List (Addr × Obj) → Prop} {r : Addr} {t u v : Tok} {n : Nat} {news : List (Addr × Obj)} {s₁ : Shared} (Y : Nat → Value → Prop)
    (hh : A.handled = none) (F : Fr h₀ L s₁.heap m) (N : News h₀ L s₁.heap news) (hr : IsRange s₁.heap r 0 (n : Int) 1 t u v) (hn : n ≤ 1000)
    (helt : ∀ j tv I oI C oC D m₂ h tk ys (E' : Value → Shared → Prop), j < n → LCg.NsObj oC m₂ → m₂ x = some (.int ((j : Nat) : Int) tv) → Fr h₀ L h m → News h₀ L h ((I, oI) :: (C, oC) :: (D, LCg.lst ys) :: news) →
      wpAny (model prog w) A (eval elt (compEnvC scope cl C env)) (fun y s' => Y j y ∧ Left s₁ h s') E' { s₁ with heap := h, toks := tk })
    (fin : ∀ g zs, All2 Y (List.range' 0 n) zs → Fin { s₁ with heap := g } zs news) :
    LCg.CompSrc prog w A h₀ L m env elt x scope cl Fin (.ref r) s₁ := by
  refine LCg.CompSrc.range hh F N hr (range_fact hn).1 (range_fact hn).2 (by rw [sizeLine_eq]; omega) fun g => comp_any (Y := Y) trivial n 0 [] (fun j v I oI C oC D m₂ h tk ys E' h1 h2 hP hC hx hF hN => ?_) fun zs hz => fin g zs hz
  obtain ⟨t, rfl⟩ := hP
  exact helt j t I oI C oC D m₂ h tk ys E' (by omega) hC (by rw [hx, Int.zero_add]) hF hN
theorem compSrcT_range {ct elt : Expr} {x : Str} {scope : Scope} {cl : List (Str × Addr)} {Fin : Shared → List Value → List (Addr × Obj) → Prop} {r : Addr} {t u v : Tok} {n : Nat} {news : List (Addr × Obj)} {s₁ : Shared} (Y : Nat → Value → Prop) (p : Nat → Bool)
    (hh : A.handled = none) (F : Fr h₀ L s₁.heap m) (N : News h₀ L s₁.heap news) (hr : IsRange s₁.heap r 0 (n : Int) 1 t u v) (hn : n ≤ 1000)
    (htest : ∀ j tv I oI C oC D m₂ h tk ys (E' : Value → Shared → Prop), j < n → LCg.NsObj oC m₂ → m₂ x = some (.int ((j : Nat) : Int) tv) → Fr h₀ L h m → News h₀ L h ((I, oI) :: (C, oC) :: (D, LCg.lst ys) :: news) →
      wpAny (model prog w) A (isTrue ct (compEnvC scope cl C env) (eval ct (compEnvC scope cl C env))) (fun b s' => b = p j ∧ Left s₁ h s') E' { s₁ with heap := h, toks := tk })
    (helt : ∀ j tv I oI C oC D m₂ h tk ys (E' : Value → Shared → Prop), j < n → p j = true → LCg.NsObj oC m₂ → m₂ x = some (.int ((j : Nat) : Int) tv) → Fr h₀ L h m → News h₀ L h ((I, oI) :: (C, oC) :: (D, LCg.lst ys) :: news) →
      wpAny (model prog w) A (eval elt (compEnvC scope cl C env)) (fun y s' => Y j y ∧ Left s₁ h s') E' { s₁ with heap := h, toks := tk })
    (fin : ∀ g zs, All2 Y ((List.range' 0 n).filter p) zs → Fin { s₁ with heap := g } zs news) :
    LCt.CompSrcT prog w A h₀ L m env ct elt x scope cl Fin (.ref r) s₁ := by
  refine LCt.CompSrcT.range hh F N hr (range_fact hn).1 (range_fact hn).2 (by rw [sizeLine_eq]; omega) fun g => comp_test (Y := Y) (p := p) trivial n 0 [] (fun j v I oI C oC D m₂ h tk ys E' h1 h2 hP hC hx hF hN => ?_) (fun j v I oI C oC D m₂ h tk ys E' h1 h2 hp hP hC hx hF hN => ?_) fun zs hz => fin g zs hz
  · obtain ⟨t, rfl⟩ := hP
    exact htest j t I oI C oC D m₂ h tk ys E' (by omega) hC (by rw [hx, Int.zero_add]) hF hN
  · obtain ⟨t, rfl⟩ := hP
    exact helt j t I oI C oC D m₂ h tk ys E' (by omega) hp hC (by rw [hx, Int.zero_add]) hF hN
/-- over a list of the ledger's -/
theorem compSrc_list {elt : Expr} {x : Str} {scope : Scope} {cl : List (Str × Addr)} {Fin : Shared → List Value → List (Addr × Obj) → Prop} {ax : Addr} {vs : List Value} {n : Nat} {news : List (Addr × Obj)} {s₁ : Shared} (Y : Nat → Value → Prop)
    (hh : A.handled = none) (F : Fr h₀ L s₁.heap m) (N : News h₀ L s₁.heap news) (hm : (ax, listOf vs.toArray n) ∈ news) (hn : vs.length ≤ 1000)
    (helt : ∀ j v I oI C oC D m₂ h tk ys (E' : Value → Shared → Prop), vs[j]? = some v → LCg.NsObj oC m₂ → m₂ x = some v → Fr h₀ L h m → News h₀ L h ((I, oI) :: (C, oC) :: (D, LCg.lst ys) :: news) →
      wpAny (model prog w) A (eval elt (compEnvC scope cl C env)) (fun y s' => Y j y ∧ Left s₁ h s') E' { s₁ with heap := h, toks := tk })
    (fin : ∀ g zs, All2 Y (List.range' 0 vs.length) zs → Fin { s₁ with heap := g } zs news) :
    LCg.CompSrc prog w A h₀ L m env elt x scope cl Fin (.ref ax) s₁ := by
  refine LCg.CompSrc.ledger hh F N hm (by rw [sizeLine_eq, List.size_toArray]; omega) fun g => ?_
  rw [List.size_toArray]
  exact comp_any (Y := Y) (.inr ⟨_, hm, rfl, _, rfl⟩) vs.length 0 [] (fun j v I oI C oC D m₂ h tk ys E' h1 h2 hP hC hx hF hN => helt j v I oI C oC D m₂ h tk ys E' (by simpa using hP) hC hx hF hN) fun zs hz => fin g zs hz
theorem compSrcT_list {ct elt : Expr} {x : Str} {scope : Scope} {cl : List (Str × Addr)} {Fin : Shared → List Value → List (Addr × Obj) → Prop} {ax : Addr} {vs : List Value} {n : Nat} {news : List (Addr × Obj)} {s₁ : Shared} (Y : Nat → Value → Prop) (p : Nat → Bool)
    (hh : A.handled = none) (F : Fr h₀ L s₁.heap m) (N : News h₀ L s₁.heap news) (hm : (ax, listOf vs.toArray n) ∈ news) (hn : vs.length ≤ 1000)
    (htest : ∀ j v I oI C oC D m₂ h tk ys (E' : Value → Shared → Prop), vs[j]? = some v → LCg.NsObj oC m₂ → m₂ x = some v → Fr h₀ L h m → News h₀ L h ((I, oI) :: (C, oC) :: (D, LCg.lst ys) :: news) →
      wpAny (model prog w) A (isTrue ct (compEnvC scope cl C env) (eval ct (compEnvC scope cl C env))) (fun b s' => b = p j ∧ Left s₁ h s') E' { s₁ with heap := h, toks := tk })
    (helt : ∀ j v I oI C oC D m₂ h tk ys (E' : Value → Shared → Prop), vs[j]? = some v → p j = true → LCg.NsObj oC m₂ → m₂ x = some v → Fr h₀ L h m → News h₀ L h ((I, oI) :: (C, oC) :: (D, LCg.lst ys) :: news) →
      wpAny (model prog w) A (eval elt (compEnvC scope cl C env)) (fun y s' => Y j y ∧ Left s₁ h s') E' { s₁ with heap := h, toks := tk })
    (fin : ∀ g zs, All2 Y ((List.range' 0 vs.length).filter p) zs → Fin { s₁ with heap := g } zs news) :
    LCt.CompSrcT prog w A h₀ L m env ct elt x scope cl Fin (.ref ax) s₁ := by
  refine LCt.CompSrcT.ledger hh F N hm (by rw [sizeLine_eq, List.size_toArray]; omega) fun g => ?_
  rw [List.size_toArray]
  exact comp_test (Y := Y) (p := p) (.inr ⟨_, hm, rfl, _, rfl⟩) vs.length 0 [] (fun j v I oI C oC D m₂ h tk ys E' h1 h2 hP hC hx hF hN => htest j v I oI C oC D m₂ h tk ys E' (by simpa using hP) hC hx hF hN) (fun j v I oI C oC D m₂ h tk ys E' h1 h2 hp hP hC hx hF hN => helt j v I oI C oC D m₂ h tk ys E' (by simpa using hP) hp hC hx hF hN) fun zs hz => fin g zs hz
end
section
variable {prog : Program} {w : World} {A : Around} {E : Value → Shared → Prop} {s : Shared} {g : Heap} {L : Addr} {m : Str → Option Value} {news : List (Addr × Obj)}
theorem isL {h : Heap} {a : Addr} {vs : List Value} {n : Nat} (N : News g L h news) (hm : (a, listOf vs.toArray n) ∈ news) : h.IsList a vs.toArray := ⟨_, (N _ hm).1, rfl, n, rfl⟩
theorem ne_same {a b : Addr} {vs us : List Value} {ns ms : List Int} {n n' : Nat} {Q : Value → Shared → Prop} (N : News g L s.heap news) (hm : (a, listOf vs.toArray n) ∈ news) (hm' : (b, listOf us.toArray n') ∈ news) (hi : IntsAre vs ns) (hi' : IntsAre us ms) (he : ns = ms) (hu : A.units + 64 < cLine)
    (h : Q (.bool false) s) : wpAny (model prog w) A (compareOp .NotEq (.ref a) (.ref b)) Q E s :=
  ne_intsK (isL N hm) hi (isL N hm') hi' hu (by rw [he, decide_eq_true rfl]; exact h)
theorem sorted_own {l : Addr} {vs : List Value} {ns ms : List Int} {n : Nat} {Q : Value → Shared → Prop} (F : Fr g L s.heap m) (N : News g L s.heap news) (hm : (l, listOf vs.toArray n) ∈ news) (hi : IntsAre vs ns) (hp : ns.Perm ms) (hs : ms.Pairwise (· ≤ ·)) (h64 : ns.length < 64)
    (h : ∀ (h' : Heap) (vs' : List Value) (e : Nat), Fr g L h' m → News g L h' ((s.heap.objs.size + 1, listOf vs'.toArray e) :: news) → IntsAre vs' ms → Q (.ref (s.heap.objs.size + 1)) { s with heap := h' }) :
    wpAny (model prog w) A (call (.builtin "sorted") [.ref l]) Q E s :=
  sorted_N F N (isL N hm) hi (by have := hi.length; omega) fun h' vs' ns' e F' N' hi' hp' hs' => h h' vs' e F' N' (ksm_same (hp'.trans hp) hs' hs ▸ hi')
end
theorem ints_range {n : Nat} : ((List.range' 0 n).map Int.ofNat).Pairwise (· ≤ ·) := by
  rw [List.pairwise_map]
  exact List.Pairwise.imp (fun h => Int.ofNat_le.mpr (Nat.le_of_lt h)) (range'_sorted 0 n)
theorem assignA {prog : Program} {w : World} {A : Around} {s : Shared} {env : Env} {x : Str} {pos' pos : Pos} {value : Expr} {Q : Flow → Shared → Prop} {E : Value → Shared → Prop} {b : Bool} (hs : swapsWith value (some (.Name x pos')) pos.line env = pure b) (hb : b = false)
    (h : wpAny (model prog w) A (eval value env) (fun v s₁ => wpAny (model prog w) A (storeName env x v) (fun _ s₂ => Q .next s₂) E s₁) E s) : wpAny (model prog w) A (exec (.Assign [.Name x pos'] value pos) env) Q E s := by
  subst hb
  rw [exec_Assign_Name env x pos' value pos hs]
  refine wpAny_bind (wpAny_standAt (wpAny_bind (wpAny_mono h (fun v s₁ h₁ => ?_) fun _ _ e => e)))
  intro Γ p hΓ
  simp only [Sem.wp_bind', Sem.wp_cmd_standAt, Sem.wp_bindName, Sem.wp_pure']
  exact h₁ Γ _ hΓ
section
local macro_rules | `(tactic| k_room) => `(tactic| ((try simp only [depth_under_make, depth_under_kw, depth_in1, depth_deeper]); (try dsimp only [Ar] at *); (simp only [recursionLimit] at *); omega))
local macro_rules | `(tactic| walk_at "mine:look") => `(tactic| first | with_reducible assumption | exact rfl | ((try dsimp only); (refine (if_neg (by decide)).trans ?_); walk_at "mine:look"))
local macro_rules | `(tactic| walk_at "eval Name") => `(tactic| (k_here; (with_reducible show wpAny _ _ (eval (Expr.Name _ _) (envOfC _ _ _ _ _)) _ _ _); k_dflt (refine' nameX_L ?k1 ?k2 ?_ ?k3 ?k4 ?k5; (case k1 => k_asm); (case k3 => rfl); (case k4 => rfl); (case k5 => decide); (case k2 => walk_at "mine:look"); k_whole)))
local macro_rules | `(tactic| walk_at "eval ListComp") => `(tactic| (k_here; (with_reducible show wpAny _ _ (eval (Expr.ListComp _ [⟨_, _, [], _⟩] _ _) _) _ _ _); k_dflt (refine LCg.ListComp_U (F₀ := by k_asm) (by with_unfolding_all rfl) (by decide) (by rfl) (by decide) (by rfl) ?_)))
local macro_rules | `(tactic| walk_at "eval ListComp") => `(tactic| (k_here; (with_reducible show wpAny _ _ (eval (Expr.ListComp _ [⟨_, _, [_], _⟩] _ _) _) _ _ _); k_dflt (refine LCt.ListComp_T (F₀ := by k_asm) (by with_unfolding_all rfl) (by decide) (by rfl) (by decide) (by rfl) ?_)))
local macro_rules | `(tactic| walk_at "mine:noComp") => `(tactic| ((fail_if_success (with_reducible show LCg.CompSrc _ _ _ _ _ _ _ _ _ _ _ _ _ _)); (fail_if_success (with_reducible show LCt.CompSrcT _ _ _ _ _ _ _ _ _ _ _ _ _ _ _))))
local macro_rules | `(tactic| walk_at "mine:to comp") => `(tactic| repeat' (first | (walk_at "mine:noComp"; k_unfold; (try dsimp only)) | (walk_at "mine:noComp"; walk1) | (walk_at "mine:noComp"; dsimp only; walk1) | fail "no step"))
local macro_rules | `(tactic| walk_at "compareOp NotEq ref ref") => `(tactic| (k_here; (with_reducible show wpAny _ _ (compareOp CmpOp.NotEq (Value.ref _) (Value.ref _)) _ _ _); k_dflt (refine' ne_same ?k1 ?k2 ?k3 ?k4 ?k5 ?k6 ?k7 ?_; (case k1 => k_asm); (case k2 => k_mem); (case k3 => k_mem); (case k4 => with_reducible assumption); (case k5 => with_reducible assumption); (case k6 => with_reducible rfl); (case k7 => (show _ + 64 < _; omega)); k_whole)))
local macro_rules | `(tactic| walk_at "call builtin:sorted") => `(tactic| (k_here; (with_reducible show wpAny _ _ (call (Value.builtin "sorted") [Value.ref _]) _ _ _); k_dflt (refine' sorted_own ?k1 ?k2 ?k3 ?k4 ?k5 ?k6 ?k7 ?_; (case k1 => k_asm); (case k2 => k_asm); (case k3 => k_mem); (case k4 => with_reducible assumption); (case k5 => with_reducible assumption); (case k6 => exact ints_range); (case k7 => (simp only [List.length_map]; omega)); k_whole); intro h' vs9 e9 F' N' hi9))
section
variable {w : World} {H₀ : Heap} {mean : ExcName → Option Value} {mg mb : Str → Option Value}
theorem part_if1 : ∃ body scope cdv, LawFn w body scope cdv ∧ ∀ {s s₀ : Shared} (G : Gd w H₀ mean mg mb) {L : Addr} {V N Df Db : Addr} {rows zs zs2 : List Value} {T : Tr} {nV nN n n2 : Nat} {o1 o2 o3 o4 o5 : Obj} {fa : List (Addr × Obj)} {m : Str → Option Value} (F : Fr H₀ L s.heap m) (W : News H₀ L s.heap ((Db, listOf zs2.toArray n2) :: (Df, listOf zs.toArray n) :: lawLed L V N rows T nV nN o1 o2 o3 o4 o5 fa))
    (hfirst : m (Str.ofString "first") = some (.ref Df)) (d4 : o4.data = .cell (some (.ref Db))) (d5 : o5.data = .cell (some (.ref N))) (hz : IntsAre zs ((List.range' 0 T.size).map Int.ofNat)) (hz2 : IntsAre zs2 ((T.postN 0).map Int.ofNat)) (hsz : T.size ≤ 40)
    {dp un : Nat} {outer : List Env} (hd : dp + 60 < recursionLimit) (hun : un + 100 < cLine) {Q : Flow → Shared → Prop}
    (hQ : ∀ h' tk', Fr H₀ L h' m → News H₀ L h' ((Db, listOf zs2.toArray n2) :: (Df, listOf zs.toArray n) :: lawLed L V N rows T nV nN o1 o2 o3 o4 o5 fa) → Q .next { s with heap := h', toks := tk' }),
    wpAny (model PG w) (Ar dp un outer) (exec (body.getD 7 (.Pass default)) (envOfC "law" scope L 359 cdv)) Q (fun _ _ => False) s := by
  refine' ⟨_, _, _, LawFn.ex ?k5 ?k6 ?k7, ?walk⟩
  case k5 => k_is
  case k6 => k_is
  case k7 => intro s v; exact BindsTo.of_eq rfl
  case walk =>
    intro s s₀ G L V N Df Db rows zs zs2 T nV nN n n2 o1 o2 o3 o4 o5 fa m F W hfirst d4 d5 hz hz2 hsz dp un outer hd hun Q hQ
    dsimp only [List.getD, List.getElem?_cons_zero, List.getElem?_cons_succ, Option.getD_some]
    have Xg : (Mine.hd.heap_39 w.params).In H₀ := G.X
    have Tg := G.T
    dsimp only [lawLed] at W
    have hlen := (T.preL_eq 0 ▸ (by rw [List.length_map, T.nodeL_length]) : T.preL.length = T.size)
    walk_at "mine:to comp"
    rename_i hr9 F9 W9 _
    refine compSrc_range (n := T.size) (fun j y => ∃ t, y = .int ((j : Nat) : Int) t) rfl F9 W9 hr9 (by omega) (fun j tv I oI C oC D m₂ h tk ys E' hj hC hx hF hN => ?_) (fun g9 zs9 hz9 => ?_)
    · exact LCgL.ld_own hN (by k_mem) hC hx ⟨⟨_, rfl⟩, _, _, rfl, fun _ _ e => e⟩
    have hz9' : IntsAre zs9 ((List.range' 0 T.size).map Int.ofNat) := ints_of hz9
    have hperm : ((T.postN 0).map Int.ofNat).Perm ((List.range' 0 T.size).map Int.ofNat) := (T.postN_perm 0).map _
    have hpl : (T.postN 0).length = T.size := by rw [(T.postN_perm 0).length_eq, List.length_range']
    clear hr9 F9 W9 hz9
    walk_at "FinE"
    k_steps
    exact hQ _ _ (by k_asm) (news_sub (by k_asm) fun p hp => .tail _ (.tail _ hp))
end
section
variable {w : World} {H₀ : Heap} {mean : ExcName → Option Value} {mg mb : Str → Option Value}
theorem has_of {g h : Heap} {L : Addr} {news fa : List (Addr × Obj)} (N : News g L h news) (hs : ∀ p ∈ fa, p ∈ news) : Has fa h := fun p hp => (N p (hs p hp)).1
theorem off_all {D : Addr} {l : List (Addr × Obj)} (h : LCg.Off1 D l) : ∀ p ∈ l, p.1 ≠ D := by
  induction l with
  | nil => exact List.forall_mem_nil _
  | cons q r ih => exact List.forall_mem_cons.mpr ⟨h.1, ih h.2⟩
/-- a node of the law's tree, wherever the heap holds the tree -/
structure LN (H₀ : Heap) (T : Tr) (rows : List Value) (fa : List (Addr × Obj)) (j : Nat) (u : Tr) : Prop where
  tree : Tree H₀ T rows fa
  mem : (j, u) ∈ T.nodeL 0
theorem LN.of {T : Tr} {rows : List Value} {fa : List (Addr × Obj)} (t : Tree H₀ T rows fa) {j : Nat} (hj : j < T.size) : ∃ u, LN H₀ T rows fa j u := by
  obtain ⟨u, hu⟩ := T.node_of 0 (j := j) (Nat.zero_le _) (by omega)
  exact ⟨u, t, hu⟩
theorem LN.item {T u : Tr} {rows : List Value} {fa : List (Addr × Obj)} {j : Nat} (x : LN H₀ T rows fa j u) : T.preL[j]? = some (.ref u.root) := by
  have := T.nodeL_at 0 x.mem
  rw [Nat.sub_zero] at this
  rw [T.preL_eq 0, List.getElem?_map, this]
  rfl
theorem LN.cls {T u : Tr} {rows : List Value} {fa : List (Addr × Obj)} {j : Nat} (x : LN H₀ T rows fa j u) {h : Heap} (hh : Has fa h) : ∃ a, Inst h u.root (if u.isLeaf then 305 else 225) a := by
  obtain ⟨path, o⟩ := Occ.all T 0 x.mem
  obtain ⟨⟨par, i⟩, _⟩ := o.up (x.tree.full h hh).at
  obtain ⟨C, a, hC, hl, I, _⟩ := i.inst
  refine ⟨a, ?_⟩
  cases q : u.isLeaf with
  | true => rw [hl.mp q] at I; exact I
  | false =>
    rcases hC with hC | hC
    · rw [hC] at I; exact I
    · rw [hl.mpr hC] at q; cases q
section
variable {prog : Program} {A : Around} {E : Value → Shared → Prop} {s : Shared} {K : Frag} {x C L : Addr} {g : Heap} {m : Str → Option Value} {fa news : List (Addr × Obj)} {Q : Value → Shared → Prop}
theorem isi_led {c : Value} {b : Bool} (F : Fr g L s.heap m) (X : K.In g) (N : News g L s.heap news) (hs : ∀ p ∈ fa, p ∈ news) {T u : Tr} {rows : List Value} {j : Nat} (i : LN H₀ T rows fa j u) (hC : (if u.isLeaf then 305 else 225) = C) (e : kitOne K (.ref C) c = some b) (hg : plainGet K C "__class__" = true) (hdct : hasDictIn K C = true) (ha : findIn K (.ref C) "__class__" = some (some (.builtin "object.__class__")))
    (hn : specialIn K (.builtin "object.__class__") "__get__" = some (some (.builtin "getset_descriptor.__get__"))) (htk : takesIn K (.builtin "object.__class__") = some true) (hm : mroIn K C (.type "object") = some true)
    (h : ∀ tk, Q (.bool b) { s with toks := tk }) : wpAny (model prog w) A (call (.builtin "isinstance") [.ref u.root, c]) Q E s := by
  obtain ⟨a, dx, es, n, h1, h2, h3⟩ := i.cls (has_of N hs)
  rw [hC] at h1
  exact kia_one (kitx_own (x := u.root) (ox := instObj C dx) (od := dictOf es n) hg hdct ha hn htk hm) (X.keeps F.keep) ⟨h1, rfl, rfl, h2⟩ e (by intro q; cases q) h
theorem item_nat {l : Addr} {vs : List Value} {n : Nat} {v : Value} {value slice : PySem.Expr} {j : Nat} {u : Tok} (N : News g L s.heap news) (hm : (l, listOf vs.toArray n) ∈ news) (hx : vs[j]? = some v) (hj : j < 1000) (h : Q v s)
    (hs : subscripted slice false (.ref l) (.int ((j : Nat) : Int) u) = operate [.ref l, .int ((j : Nat) : Int) u] (getItem (.ref l) (.int ((j : Nat) : Int) u))) :
    wpAny (model prog w) A (subscriptTail value slice (.ref l) (.int ((j : Nat) : Int) u)) Q E s := item_own N hm (by omega) (by omega) (by rw [Int.toNat_natCast]; exact hx) h hs
end
end
section
local macro_rules | `(tactic| walk_at "mine:sub") => `(tactic| (intro q9 hq9; repeat (first | exact hq9 | refine List.mem_cons_of_mem _ ?_)))
local macro_rules | `(tactic| walk_at "call builtin:isinstance") => `(tactic| (k_here; (with_reducible show wpAny _ _ (call _ [Value.ref (Tr.root _), Value.ref _]) _ _ _); k_dflt (refine' isi_led ?k1 ?k2 ?k0 ?ks ?k3 ?kc ?k4 ?k5 ?k6 ?k7 ?k8 ?k9 ?k10 ?_; (case k1 => k_asm); (case k2 => k_asm); (case k0 => k_asm); (case k3 => with_reducible assumption); (case kc => with_reducible assumption); (case ks => walk_at "mine:sub"); (case k4 => kit_is); (case k5 => k_is); (case k6 => k_is); (case k7 => k_is); (case k8 => k_is); (case k9 => k_is); (case k10 => k_is); k_whole); intro tk9))
local macro_rules | `(tactic| walk_at "subscriptTail") => `(tactic| (k_here; (with_reducible show wpAny _ _ (subscriptTail _ _ (Value.ref _) (Value.int (Nat.cast _) _)) _ _ _); k_dflt (refine' item_nat ?k1 ?k2 ?k3 ?k4 ?_ ?k6; (case k1 => k_asm); (case k2 => k_mem); (case k3 => with_reducible assumption); (case k4 => omega); (case k6 => with_unfolding_all rfl); k_whole)))
section
variable {w : World} {H₀ : Heap} {mean : ExcName → Option Value} {mg mb : Str → Option Value}
theorem part_leaves : ∃ body scope cdv, LawFn w body scope cdv ∧ ∀ {s : Shared} (G : Gd w H₀ mean mg mb) {L : Addr} {V N Df Db : Addr} {rows zs zs2 : List Value} {T : Tr} {nV nN n n2 : Nat} {o1 o2 o3 o4 o5 : Obj} {fa : List (Addr × Obj)} {m : Str → Option Value} (F : Fr H₀ L s.heap m) (W : News H₀ L s.heap ((Db, listOf zs2.toArray n2) :: (Df, listOf zs.toArray n) :: lawLed L V N rows T nV nN o1 o2 o3 o4 o5 fa))
    (hfirst : m (Str.ofString "first") = some (.ref Df)) (tree : Tree H₀ T rows fa) (sep : Sep L V N fa) (c2 : ∃ v, o2.data = .cell v) (d5 : o5.data = .cell (some (.ref N))) (hz : All2 (fun j y => ∃ t, y = Value.int (j : Nat) t) (List.range' 0 T.size) zs) (hsz : T.size ≤ 40)
    (hneD : ∀ p ∈ lawLed L V N rows T nV nN o1 o2 o3 o4 o5 fa, p.1 ≠ Df) (hneD2 : ∀ p ∈ lawLed L V N rows T nV nN o1 o2 o3 o4 o5 fa, p.1 ≠ Db)
    {dp un : Nat} {outer : List Env} (hd : dp + 60 < recursionLimit) {Q : Flow → Shared → Prop}
    (hQ : ∀ h' tk' D zl nl o2', Fr H₀ L h' m → News H₀ L h' ((D, listOf zl.toArray nl) :: (Db, listOf zs2.toArray n2) :: (Df, listOf zs.toArray n) :: lawLed L V N rows T nV nN o1 o2' o3 o4 o5 fa) → o2'.data = .cell (some (.ref D)) → IntsAre zl ((T.leafN 0).map Int.ofNat) →
      (∀ p ∈ (Db, listOf zs2.toArray n2) :: (Df, listOf zs.toArray n) :: lawLed L V N rows T nV nN o1 o2 o3 o4 o5 fa, p.1 ≠ D) → Q .next { s with heap := h', toks := tk' }),
    wpAny (model PG w) (Ar dp un outer) (exec (body.getD 8 (.Pass default)) (envOfC "law" scope L 359 cdv)) Q (fun _ _ => False) s := by
  refine' ⟨_, _, _, LawFn.ex ?k5 ?k6 ?k7, ?walk⟩
  case k5 => k_is
  case k6 => k_is
  case k7 => intro s v; exact BindsTo.of_eq rfl
  case walk =>
    intro s G L V N Df Db rows zs zs2 T nV nN n n2 o1 o2 o3 o4 o5 fa m F W hfirst tree sep c2 d5 hz hsz hneD hneD2 dp un outer hd Q hQ
    dsimp only [List.getD, List.getElem?_cons_zero, List.getElem?_cons_succ, Option.getD_some]
    have Xg : (Mine.hd.heap_39 w.params).In H₀ := G.X
    have Tg := G.T
    have W0 := W
    dsimp only [lawLed] at W
    have hlen := (T.preL_eq 0 ▸ (by rw [List.length_map, T.nodeL_length]) : T.preL.length = T.size)
    have hzl : zs.length = T.size := by rw [hz.length, List.length_range']
    refine assignA (b := false) (by rfl) rfl ?_
    walk_at "mine:to comp"
    refine compSrcT_list (vs := zs) (fun j y => ∃ t, y = .int (Int.ofNat j) t) (fun j => decide (j ∈ T.leafN 0)) rfl F W (by k_mem) (by omega) (fun j tv I oI C oC D m₂ h tk ys E' hj hC hx hF hN => ?_) (fun j tv I oI C oC D m₂ h tk ys E' hj hp hC hx hF hN => ?_) (fun g9 zs9 hz9 => ?_)
    · obtain ⟨hjl, _⟩ := List.getElem?_eq_some_iff.mp hj
      obtain ⟨b, q1, t, q2⟩ := hz.get (i := j) (List.getElem?_range' (by omega))
      rw [hj] at q1
      cases q1
      rw [Nat.zero_add, Nat.one_mul] at q2
      subst q2
      obtain ⟨u, hu⟩ := LN.of tree (j := j) (by omega)
      have hit := hu.item
      have hmem := T.leafN_mem 0 hu.mem
      clear W0 W
      cases q : u.isLeaf with
      | true =>
        have hCu : (if u.isLeaf then 305 else 225) = 305 := by rw [q]; rfl
        k_steps
        · exact (decide_eq_true (hmem.mpr q)).symm
        · exact ⟨_, _, rfl, fun _ _ e => e⟩
      | false =>
        have hCu : (if u.isLeaf then 305 else 225) = 225 := by rw [q]; rfl
        k_steps
        · exact (decide_eq_false fun z => by rw [hmem.mp z] at q; cases q).symm
        · exact ⟨_, _, rfl, fun _ _ e => e⟩
    · obtain ⟨hjl, _⟩ := List.getElem?_eq_some_iff.mp hj
      obtain ⟨b, q1, t, q2⟩ := hz.get (i := j) (List.getElem?_range' (by omega))
      rw [hj] at q1
      cases q1
      rw [Nat.zero_add, Nat.one_mul] at q2
      exact LCgL.ld_own hN (by k_mem) hC hx ⟨⟨_, q2⟩, _, _, rfl, fun _ _ e => e⟩
    rw [hzl, T.pre_leafN] at hz9
    have hz9' := ints_of hz9
    unfold LCg.FinE
    intro D h' tk' F' N' off
    have off := off_all off
    obtain ⟨v2, c2⟩ := c2
    have m1 : ((L + 1 + 1 + 1 + 1, o2) : Addr × Obj) ∈ lawLed L V N rows T nV nN o1 o2 o3 o4 o5 fa := .tail _ (.tail _ (.tail _ (.head _)))
    exact storeX_C F' N' (c := L + 1 + 1 + 1 + 1) (by rfl) (.tail (Ne.symm (off _ (.tail _ (.tail _ m1)))) (.tail (Ne.symm (hneD2 _ m1)) (.tail (Ne.symm (hneD _ m1)) (updF2 sep)))) c2 fun h' o' F'' W'' d' => hQ _ _ _ _ _ o' F'' W'' d' hz9' off
end
section
theorem getD_of {l : List Nat} {i k : Nat} (h : l[i]? = some k) : l.getD i 0 = k := by rw [List.getD_eq_getElem?_getD, h]; rfl
theorem range_getD : ∀ (l : List Nat), (List.range' 0 l.length).map (fun i => l.getD i 0) = l := by
  intro l
  refine List.ext_getElem? fun i => ?_
  rw [List.getElem?_map]
  by_cases h : i < l.length
  · rw [List.getElem?_range' h, List.getElem?_eq_getElem h]
    simp [List.getD_eq_getElem?_getD, h]
  · rw [List.getElem?_eq_none (by simpa using h), List.getElem?_eq_none (by omega)]
    rfl
theorem filter_getD {α : Type} (l : List Nat) (q : Nat → Bool) (g : Nat → α) : ((List.range' 0 l.length).filter (fun i => q (l.getD i 0))).map (fun i => g (l.getD i 0)) = (l.filter q).map g := by
  have := congrArg (fun z => (z.filter q).map g) (range_getD l)
  simp only [List.filter_map, List.map_map] at this
  exact this
theorem in_own {prog : Program} {w : World} {A : Around} {E : Value → Shared → Prop} {s : Shared} {g : Heap} {L : Addr} {news : List (Addr × Obj)} {a : Addr} {vs : List Value} {n : Nat} {l : List Nat} {k : Nat} {t : Tok} {Q : Value → Shared → Prop} (N : News g L s.heap news) (hm : (a, listOf vs.toArray n) ∈ news) (hi : IntsAre vs (l.map Int.ofNat))
    (h : Q (.bool (decide (k ∈ l))) s) : wpAny (model prog w) A (compareOp .In (.int ((k : Nat) : Int) t) (.ref a)) Q E s := by
  refine in_list_ints (isL N hm) hi ?_
  rw [show (l.map Int.ofNat).any (· == ((k : Nat) : Int)) = decide (k ∈ l) from ?_]
  · exact h
  · rw [Bool.eq_iff_iff, List.any_eq_true, decide_eq_true_iff]
    constructor
    · rintro ⟨x, hx, e⟩
      obtain ⟨i, hi, rfl⟩ := List.mem_map.mp hx
      have e : Int.ofNat i = Int.ofNat k := beq_iff_eq.mp e
      exact Int.ofNat.inj e ▸ hi
    · intro hk
      exact ⟨_, List.mem_map_of_mem hk, by simp⟩
local macro_rules | `(tactic| walk_at "compareOp In int ref") => `(tactic| (k_here; (with_reducible show wpAny _ _ (compareOp CmpOp.In (Value.int (Nat.cast _) _) (Value.ref _)) _ _ _); k_dflt (refine' in_own ?k1 ?k2 ?k3 ?_; (case k1 => k_asm); (case k2 => k_mem); (case k3 => with_reducible assumption); k_whole)))
section
variable {w : World} {H₀ : Heap} {mean : ExcName → Option Value} {mg mb : Str → Option Value}
theorem part_if2 : ∃ body scope cdv, LawFn w body scope cdv ∧ ∀ {s s₀ : Shared} (G : Gd w H₀ mean mg mb) {L : Addr} {V N Df Db Dl : Addr} {rows zs zs2 zl : List Value} {T : Tr} {nV nN n n2 nl : Nat} {o1 o2 o3 o4 o5 : Obj} {fa : List (Addr × Obj)} {m : Str → Option Value} (F : Fr H₀ L s.heap m)
    (W : News H₀ L s.heap ((Dl, listOf zl.toArray nl) :: (Db, listOf zs2.toArray n2) :: (Df, listOf zs.toArray n) :: lawLed L V N rows T nV nN o1 o2 o3 o4 o5 fa))
    (hroot : m (Str.ofString "root") = some (.ref T.root)) (tree : Tree H₀ T rows fa) (d2 : o2.data = .cell (some (.ref Dl))) (d4 : o4.data = .cell (some (.ref Db))) (hzl : IntsAre zl ((T.leafN 0).map Int.ofNat)) (hz2 : All2 (fun j y => ∃ t, y = Value.int (j : Nat) t) (T.postN 0) zs2) (hc : Calm s₀ s)
    {dp un : Nat} {outer : List Env} (hd : dp + 60 < recursionLimit) (hun : un + 100 < cLine) {Q : Flow → Shared → Prop}
    (hQ : ∀ s', Calm s₀ s' → Fr H₀ L s'.heap m → News H₀ L s'.heap ((Dl, listOf zl.toArray nl) :: (Db, listOf zs2.toArray n2) :: (Df, listOf zs.toArray n) :: lawLed L V N rows T nV nN o1 o2 o3 o4 o5 fa) → Q .next s'),
    wpL (model PG w) (Ar dp un outer) (exec (body.getD 9 (.Pass default)) (envOfC "law" scope L 359 cdv)) Q (fun _ _ => False) s := by
  refine' ⟨_, _, _, LawFn.ex ?k5 ?k6 ?k7, ?walk⟩
  case k5 => k_is
  case k6 => k_is
  case k7 => intro s v; exact BindsTo.of_eq rfl
  case walk =>
    intro s s₀ G L V N Df Db Dl rows zs zs2 zl T nV nN n n2 nl o1 o2 o3 o4 o5 fa m F W hroot tree d2 d4 hzl hz2 hc dp un outer hd hun Q hQ
    dsimp only [List.getD, List.getElem?_cons_zero, List.getElem?_cons_succ, Option.getD_some]
    have st := F.keep
    have has : Has fa s.heap := fun p hp => (W p (.tail _ (.tail _ (.tail _ (.tail _ (.tail _ (.tail _ (.tail _ (.tail _ (.tail _ (.tail _ hp))))))))))).1
    have iT := (tree.full _ has).at
    have hkid := gen_leaves (w := w) T iT
    have hsz : T.size ≤ 40 := by have := size_cap 3 tree.high; have q : capN 3 = 40 := rfl; omega
    have F' := F
    refine wpL_mono (wpL_life (Q := fun f s' => f = .next ∧ (∀ (i : Nat) z, s'.gens[i]? = some z → z = GenState.finished) ∧ s'.os = s₀.os ∧ Fr H₀ L s'.heap m ∧ News H₀ L s'.heap ((Dl, listOf zl.toArray nl) :: (Db, listOf zs2.toArray n2) :: (Df, listOf zs.toArray n) :: lawLed L V N rows T nV nN o1 o2 o3 o4 o5 fa))
      (ifL (isTrueL_BoolOp (orL_cons (isTrueL_Compare1 ?main))))) ?fin fun _ _ e => e.1
    case fin =>
      rintro f s' ⟨⟨rfl, h1, h2, h3, h4⟩, gr⟩
      exact hQ s' ⟨h1, by rw [gr.1]; exact hc.reg, h2⟩ h3 h4
    case main =>
     refine' eval_compL (Ok := NodeV T) (F := NumV T) ?hh ?hroom ?hclos ?hcell ?hkind ?hnames ?hx ?hs ?h
     case hh => rfl
     case hroom => show dp < recursionLimit; omega
     case hclos => rfl
     case hcell => decide
     case hkind => rfl
     case hnames => decide
     case hx => rfl
     case hs => intro _; rfl
     case h =>
       refine wpL_mono (wpL_life (wpL_of (E := fun _ _ => False) (Q := fun v s₂ => GenMade w T Tr.leavesL s v s₂) ?ev)) ?post fun _ _ e => e.1
       case ev =>
         have Xs := G.X.keeps st
         have Xg : (Mine.hd.heap_39 w.params).In H₀ := G.X
         obtain ⟨hC, C, a, hfn, I, hn⟩ := hkid
         have hgo : wpAny (model PG w) (Ar dp un outer) (call (.ref (Tr.fnLeaves T)) [.ref T.root]) (fun v s₂ => GenMade w T Tr.leavesL s v s₂) (fun _ _ => False) s := gen_made G st hC (by show dp + 50 < recursionLimit; omega) fun v s₂ h => h
         rcases hfn with ⟨hfn, e⟩ | ⟨hfn, e⟩ <;> subst hfn <;> rw [e] at hgo
         all_goals (
           k_steps
           refine' meth_here Xs I hn ?k1 ?k2 ?k3 ?_
           case k1 => k_is
           case k2 => k_is
           case k3 => k_is
           k_steps
           exact hgo)
       case post =>
         rintro v s₂ ⟨hv, gr⟩
         obtain ⟨it, h', tk, c, rfl, rfl, st', a2, a3, a4, a5⟩ := hv
         refine ⟨it, s.gens.size, s.heap.objs.size, T.leavesL, rfl, gen_after G st iT tree.high (l := (T.nodeL 0).filter (·.2.isLeaf)) (T.leavesL_eq 0) (fun p hp => (List.mem_filter.mp hp).1) ?sz hc.reg rfl ?dep ?hel st' a2 a3 a4 a5 gr.1, fun D s' zs9 hD hall hpl ha => ?_⟩
         case sz => exact Nat.le_trans (List.length_filter_le ..) (by rw [T.nodeL_length]; omega)
         case dep => show dp + 50 < recursionLimit; omega
         case hel =>
           intro C k u par s' m' hu hn hm hst iu
           have Xs' := G.X.keeps hst
           have Ts' := G.T.keeps hst
           have hcall : wpAny (model PG w) (Ar dp un outer) (call (.ref 340) [.ref u.root]) (fun y s'' => (∃ t, y = Value.int k t) ∧ Keeps s' s'') (fun _ _ => False) s' :=
             (number_at G hst iu (by omega)).call _ _ fun v h' tk' hv st' => ⟨hv, h', tk', rfl, fun b o e => st' b o e⟩
           k_steps
           refine Name_function_global rfl rfl (loadGlobal_global Ts'.g (mg_of Xs' Ts'.g (by k_is)) ?_) (by decide)
           k_steps
           exact hcall
         have hns : s'.heap.Ns L m := by
           refine F.ns.at' fun o e => ha.heap _ _ (st' _ _ e) (Heap.lt_size e) (fun q => q)
         obtain ⟨h1, h2, h3, ⟨n9, h4⟩, h5⟩ := after_list F W hc st' ha (fun b q => q.elim) hD hpl hns
         have hz9 : IntsAre zs9 ((T.leafN 0).map Int.ofNat) := ints_of (all2_num (fun p hp => (List.mem_filter.mp hp).1) (T.leavesL_eq 0 ▸ hall))
         clear ha hall hD hpl hns h5 gr a5 a2 a3 a4 st' F' F W
         have Xg : (Mine.hd.heap_39 w.params).In H₀ := G.X
         have Tg := G.T
         dsimp only [lawLed] at h4
         k_steps
         refine orL_cons (wpL_of (E := fun _ _ => False) ?_)
         walk_at "mine:to comp"
         have hl2 : zs2.length = (T.postN 0).length := hz2.length
         have hpl : (T.postN 0).length = T.size := by rw [(T.postN_perm 0).length_eq, List.length_range']
         refine compSrcT_list (vs := zs2) (fun i y => ∃ t, y = .int (Int.ofNat ((T.postN 0).getD i 0)) t) (fun i => decide ((T.postN 0).getD i 0 ∈ T.leafN 0)) rfl h3 h4 (by k_mem) (by omega) (fun j tv I oI C oC D m₂ h tk ys E' hj hC hx hF hN => ?_) (fun j tv I oI C oC D m₂ h tk ys E' hj hp hC hx hF hN => ?_) (fun g9 zs8 hz8 => ?_)
         · obtain ⟨hjl, _⟩ := List.getElem?_eq_some_iff.mp hj
           obtain ⟨b, q1, t, q2⟩ := hz2.get (i := j) (List.getElem?_eq_getElem (by omega))
           rw [hj] at q1
           cases q1
           subst q2
           have hg : (T.postN 0).getD j 0 = (T.postN 0)[j]'(by omega) := getD_of (List.getElem?_eq_getElem (by omega))
           rw [hg]
           clear h3 h4
           k_steps
           exact ⟨_, _, rfl, fun _ _ e => e⟩
         · obtain ⟨hjl, _⟩ := List.getElem?_eq_some_iff.mp hj
           obtain ⟨b, q1, t, q2⟩ := hz2.get (i := j) (List.getElem?_eq_getElem (by omega))
           rw [hj] at q1
           cases q1
           have hg : (T.postN 0).getD j 0 = (T.postN 0)[j]'(by omega) := getD_of (List.getElem?_eq_getElem (by omega))
           refine LCgL.ld_own hN (by k_mem) hC hx ⟨⟨t, ?_⟩, _, _, rfl, fun _ _ e => e⟩
           rw [hg]; exact q2
         have hz8' : IntsAre zs8 ((T.leafN 0).map Int.ofNat) := by
           have := ints_of hz8
           rw [hl2, filter_getD (T.postN 0) (fun k => decide (k ∈ T.leafN 0)) Int.ofNat, T.post_leafN] at this
           exact this
         unfold LCg.FinE
         intro D8 h8 tk8 F8 N8 off8
         k_steps
         refine orL_nil ?_
         rw [if_neg (by decide)]
         refine wpL_of ?_
         k_steps
         · exact h1 _ _ (by assumption)
         · exact F8
         · exact news_sub N8 fun p hp => .tail _ (.tail _ hp)
end
end
section
theorem small_bits {x : Nat} (h : x < 1024) : PyData.weight (.int (Int.ofNat x)) ≤ 10 := by
  simp only [PyData.weight]
  by_cases q : x = 0
  · subst q; decide
  · rw [if_neg (by simpa using q)]
    have : (Int.ofNat x).natAbs.log2 < 10 := (Nat.log2_lt (by simpa using q)).mpr (by simpa using h)
    omega
theorem lay_small (l : List Nat) (hb : ∀ x ∈ l, x < 1024) (hl : l.length ≤ 1000) : PyData.layable0 (.list ((l.map Int.ofNat).map .int)) = true := by
  have hc : ∀ l : List Nat, PyData.canLayAll0 ((l.map Int.ofNat).map .int) = true := by
    intro l
    induction l with
    | nil => rfl
    | cons x r ih => simp only [List.map_cons, PyData.canLayAll0, PyData.canLay0, ih, Bool.and_self]
  have hw : ∀ l : List Nat, (∀ x ∈ l, x < 1024) → PyData.weightAll ((l.map Int.ofNat).map .int) ≤ 11 * l.length := by
    intro l hb
    induction l with
    | nil => exact Nat.le_refl _
    | cons x r ih =>
      have h1 := small_bits (hb x (.head _))
      have h2 := ih fun y hy => hb y (.tail _ hy)
      simp only [List.map_cons, PyData.weightAll, List.length_cons]
      omega
  have h3 := hw l hb
  unfold PyData.layable0
  refine Bool.and_eq_true_iff.mpr ⟨Bool.and_eq_true_iff.mpr ⟨?_, ?_⟩, ?_⟩
  · simp only [PyData.canLay0]; exact hc l
  · simp only [PyData.depth, PyProof.Rows.depthAll_ints]; decide
  · simp only [PyData.weight]; exact decide_eq_true (by have : (2 : Nat) ^ 20 = 1048576 := rfl; omega)
theorem idxOf_ofNat (k : Nat) : ∀ (l : List Nat), (l.map Int.ofNat).idxOf ((k : Nat) : Int) = l.idxOf k
  | [] => rfl
  | x :: r => by
    rw [List.map_cons, List.idxOf_cons, List.idxOf_cons, idxOf_ofNat k r]
    have : (Int.ofNat x == ((k : Nat) : Int)) = (x == k) := by
      rw [Bool.eq_iff_iff, beq_iff_eq, beq_iff_eq]
      exact ⟨fun h => Int.ofNat.inj h, fun h => by rw [h]; rfl⟩
    rw [this]
theorem index_own {prog : Program} {w : World} {A : Around} {E : Value → Shared → Prop} {s : Shared} {g : Heap} {L : Addr} {news : List (Addr × Obj)} {a : Addr} {vs : List Value} {n : Nat} {l : List Nat} {k : Nat} {t : Tok} {Q : Value → Shared → Prop} (N : News g L s.heap news) (hm : (a, listOf vs.toArray n) ∈ news) (hi : IntsAre vs (l.map Int.ofNat))
    (hk : k ∈ l) (hb : ∀ x ∈ l, x < 1024) (hl : l.length ≤ 1000) (h : ∀ t tk, Q (.int ((l.idxOf k : Nat) : Int) t) { s with toks := tk }) : wpAny (model prog w) A (call (.builtin "list.index") [.ref a, .int ((k : Nat) : Int) t]) Q E s :=
  index_list_ints (isL N hm) hi (lay_small l hb hl) (List.mem_map_of_mem (f := Int.ofNat) hk) (by rw [idxOf_ofNat]; exact h _ _)
local macro_rules | `(tactic| walk_at "call builtin:list.index") => `(tactic| (k_here; (with_reducible show wpAny _ _ (call (Value.builtin "list.index") [Value.ref _, Value.int (Nat.cast _) _]) _ _ _); k_dflt (refine' index_own ?k1 ?k2 ?k3 ?k4 ?k5 ?k6 ?_; (case k1 => k_asm); (case k2 => k_mem); (case k3 => with_reducible assumption); (case k4 => with_reducible assumption); (case k5 => with_reducible assumption); (case k6 => omega); k_whole); intro t9 tk9))
section
variable {w : World} {H₀ : Heap} {mean : ExcName → Option Value} {mg mb : Str → Option Value}
theorem part_spot : ∃ body scope cdv, LawFn w body scope cdv ∧ ∀ {s : Shared} (G : Gd w H₀ mean mg mb) {L : Addr} {V N Df Db Dl : Addr} {rows zs zs2 zl : List Value} {T : Tr} {nV nN n n2 nl : Nat} {o1 o2 o3 o4 o5 : Obj} {fa : List (Addr × Obj)} {m : Str → Option Value} (F : Fr H₀ L s.heap m)
    (W : News H₀ L s.heap ((Dl, listOf zl.toArray nl) :: (Db, listOf zs2.toArray n2) :: (Df, listOf zs.toArray n) :: lawLed L V N rows T nV nN o1 o2 o3 o4 o5 fa))
    (hfirst : m (Str.ofString "first") = some (.ref Df)) (sep : Sep L V N fa) (c1 : ∃ v, o1.data = .cell v) (d4 : o4.data = .cell (some (.ref Db))) (hz : All2 (fun j y => ∃ t, y = Value.int (j : Nat) t) (List.range' 0 T.size) zs) (hz2 : IntsAre zs2 ((T.postN 0).map Int.ofNat)) (hsz : T.size ≤ 40)
    (hneD : ∀ p ∈ lawLed L V N rows T nV nN o1 o2 o3 o4 o5 fa, p.1 ≠ Df) (hneD2 : ∀ p ∈ lawLed L V N rows T nV nN o1 o2 o3 o4 o5 fa, p.1 ≠ Db) (hneD3 : ∀ p ∈ lawLed L V N rows T nV nN o1 o2 o3 o4 o5 fa, p.1 ≠ Dl)
    {dp un : Nat} {outer : List Env} (hd : dp + 60 < recursionLimit) {Q : Flow → Shared → Prop}
    (hQ : ∀ h' tk' D zp np o1', Fr H₀ L h' m → News H₀ L h' ((D, listOf zp.toArray np) :: (Dl, listOf zl.toArray nl) :: (Db, listOf zs2.toArray n2) :: (Df, listOf zs.toArray n) :: lawLed L V N rows T nV nN o1' o2 o3 o4 o5 fa) → o1'.data = .cell (some (.ref D)) → All2 (fun j y => ∃ t, y = Value.int ((T.postN 0).idxOf j : Nat) t) (List.range' 0 T.size) zp →
      (∀ p ∈ (Dl, listOf zl.toArray nl) :: (Db, listOf zs2.toArray n2) :: (Df, listOf zs.toArray n) :: lawLed L V N rows T nV nN o1 o2 o3 o4 o5 fa, p.1 ≠ D) → Q .next { s with heap := h', toks := tk' }),
    wpAny (model PG w) (Ar dp un outer) (exec (body.getD 10 (.Pass default)) (envOfC "law" scope L 359 cdv)) Q (fun _ _ => False) s := by
  refine' ⟨_, _, _, LawFn.ex ?k5 ?k6 ?k7, ?walk⟩
  case k5 => k_is
  case k6 => k_is
  case k7 => intro s v; exact BindsTo.of_eq rfl
  case walk =>
    intro s G L V N Df Db Dl rows zs zs2 zl T nV nN n n2 nl o1 o2 o3 o4 o5 fa m F W hfirst sep c1 d4 hz hz2 hsz hneD hneD2 hneD3 dp un outer hd Q hQ
    dsimp only [List.getD, List.getElem?_cons_zero, List.getElem?_cons_succ, Option.getD_some]
    have Xg : (Mine.hd.heap_39 w.params).In H₀ := G.X
    have Tg := G.T
    have hzl : zs.length = T.size := by rw [hz.length, List.length_range']
    have hpl : (T.postN 0).length = T.size := by rw [(T.postN_perm 0).length_eq, List.length_range']
    have hpb : ∀ x ∈ T.postN 0, x < 1024 := fun x hx => by have := (T.postN_mem 0 x).mp hx; omega
    refine assignA (b := false) (by rfl) rfl ?_
    walk_at "mine:to comp"
    refine compSrc_list (vs := zs) (fun j y => ∃ t, y = .int ((T.postN 0).idxOf j : Nat) t) rfl F W (by k_mem) (by omega) (fun j tv I oI C oC D m₂ h tk ys E' hj hC hx hF hN => ?_) (fun g9 zs9 hz9 => ?_)
    · obtain ⟨hjl, _⟩ := List.getElem?_eq_some_iff.mp hj
      obtain ⟨b, q1, t, q2⟩ := hz.get (i := j) (List.getElem?_range' (by omega))
      rw [hj] at q1
      cases q1
      rw [Nat.zero_add, Nat.one_mul] at q2
      subst q2
      have hjm : j ∈ T.postN 0 := (T.postN_mem 0 j).mpr ⟨Nat.zero_le _, by omega⟩
      clear W
      dsimp only [lawLed] at hN
      k_steps
      exact ⟨_, _, rfl, fun _ _ e => e⟩
    rw [hzl] at hz9
    unfold LCg.FinE
    intro D h' tk' F' N' off
    have off := off_all off
    obtain ⟨v1, c1⟩ := c1
    have m1 : ((L + 1 + 1 + 1 + 1 + 1, o1) : Addr × Obj) ∈ lawLed L V N rows T nV nN o1 o2 o3 o4 o5 fa := .tail _ (.tail _ (.head _))
    exact storeX_C F' N' (c := L + 1 + 1 + 1 + 1 + 1) (by rfl) (.tail (Ne.symm (off _ (.tail _ (.tail _ (.tail _ m1))))) (.tail (Ne.symm (hneD3 _ m1)) (.tail (Ne.symm (hneD2 _ m1)) (.tail (Ne.symm (hneD _ m1)) (updF1 sep))))) c1 fun h' o' F'' W'' d' => hQ _ _ _ _ _ o' F'' W'' d' hz9 off
end
end
end
end
def forBody : Stmt → List Stmt
  | .For _ _ b _ _ => b
  | _ => []
/-- the law's ledger in its loop -/
abbrev loopLed (Dp Dl Db Df : Addr) (zp zl zs2 zs : List Value) (np nl n2 n : Nat) (L : Nat) (V N : Addr) (rows : List Value) (T : Tr) (nV nN : Nat) (o1 o2 o3 o4 o5 : Obj) (fa : List (Addr × Obj)) : List (Addr × Obj) :=
  (Dp, listOf zp.toArray np) :: (Dl, listOf zl.toArray nl) :: (Db, listOf zs2.toArray n2) :: (Df, listOf zs.toArray n) :: lawLed L V N rows T nV nN o1 o2 o3 o4 o5 fa
section
variable {w : World} {H₀ : Heap} {mean : ExcName → Option Value} {mg mb : Str → Option Value}
theorem part_loop : ∃ body scope cdv, LawFn w body scope cdv ∧ ∀ {s : Shared} {L : Addr} {V N Dp Df Db Dl : Addr} {rows zs zs2 zl zp : List Value} {T : Tr} {nV nN n n2 nl np : Nat} {o1 o2 o3 o4 o5 : Obj} {fa : List (Addr × Obj)} {m : Str → Option Value} (F : Fr H₀ L s.heap m)
    (W : News H₀ L s.heap (loopLed Dp Dl Db Df zp zl zs2 zs np nl n2 n L V N rows T nV nN o1 o2 o3 o4 o5 fa))
    (hfirst : m (Str.ofString "first") = some (.ref Df)) (habove : m (Str.ofString "above") = some (.ref V)) (sep : Sep L V N fa) (c3 : ∃ v, o3.data = .cell v) (hz : All2 (fun j y => ∃ t, y = Value.int (j : Nat) t) (List.range' 0 T.size) zs)
    (hne : ∀ D ∈ [Dp, Dl, Db, Df], @Ne Nat D (L + 1 + 1 + 1))
    {dp un : Nat} {outer : List Env} {Q : Flow → Shared → Prop}
    (turn : ∀ j, j < T.size → ∀ h tk m t o3' I oI, Fr H₀ L h m → News H₀ L h ((I, oI) :: loopLed Dp Dl Db Df zp zl zs2 zs np nl n2 n L V N rows T nV nN o1 o2 o3' o4 o5 fa) → m (Str.ofString "first") = some (.ref Df) → m (Str.ofString "above") = some (.ref V) → o3'.data = .cell (some (.int ((j : Nat) : Int) t)) →
      wpAny (model PG w) (Ar dp un outer) (execs (forBody (body.getD 11 (.Pass default))) (envOfC "law" scope L 359 cdv)) (fun f s₂ => f = .next ∧ ∃ h' tk' m', s₂ = { s with heap := h', toks := tk' } ∧ Fr H₀ L h' m' ∧ News H₀ L h' ((I, oI) :: loopLed Dp Dl Db Df zp zl zs2 zs np nl n2 n L V N rows T nV nN o1 o2 o3' o4 o5 fa) ∧ m' (Str.ofString "first") = some (.ref Df) ∧ m' (Str.ofString "above") = some (.ref V)) (fun _ _ => False) { s with heap := h, toks := tk })
    (hQ : ∀ h' tk' m' o3', Fr H₀ L h' m' → News H₀ L h' (loopLed Dp Dl Db Df zp zl zs2 zs np nl n2 n L V N rows T nV nN o1 o2 o3' o4 o5 fa) → Q .next { s with heap := h', toks := tk' }),
    wpAny (model PG w) (Ar dp un outer) (exec (body.getD 11 (.Pass default)) (envOfC "law" scope L 359 cdv)) Q (fun _ _ => False) s := by
  refine' ⟨_, _, _, LawFn.ex ?k5 ?k6 ?k7, ?walk⟩
  case k5 => k_is
  case k6 => k_is
  case k7 => intro s v; exact BindsTo.of_eq rfl
  case walk =>
    intro s L V N Dp Df Db Dl rows zs zs2 zl zp T nV nN n n2 nl np o1 o2 o3 o4 o5 fa m F W hfirst habove sep c3 hz hne dp un outer Q turn hQ
    dsimp only [List.getD, List.getElem?_cons_zero, List.getElem?_cons_succ, Option.getD_some, forBody] at turn ⊢
    refine For_turns F ?_
    refine nameX_L F hfirst ?_
    refine iter_listTurns rfl F W (.tail _ (.tail _ (.tail _ (.head _)))) rfl rfl (fun I hI => ?_)
    refine' (?key : ∀ (r : List Value) (m : Str → Option Value) (o3' : Obj), (∀ v ∈ r, ∃ j t, j < T.size ∧ v = Value.int ((j : Nat) : Int) t) → m (Str.ofString "first") = some (.ref Df) → m (Str.ofString "above") = some (.ref V) → (∃ v, o3'.data = .cell v) →
        ItemsRest PG w (Ar dp un outer) (fun _ _ => False) H₀ _ _ _ Q s [(I, "list_iterator")] [(Df, listOf zs.toArray n)] (r.map .val) m (loopLed Dp Dl Db Df zp zl zs2 zs np nl n2 n L V N rows T nV nN o1 o2 o3' o4 o5 fa)) zs m o3 ?hr hfirst habove c3
    case hr =>
      intro v hv
      obtain ⟨i, hi, e⟩ := List.mem_iff_getElem.mp hv
      have hzl : zs.length = T.size := by rw [hz.length, List.length_range']
      obtain ⟨b, q1, t, q2⟩ := hz.get (i := i) (List.getElem?_range' (by omega))
      rw [List.getElem?_eq_getElem hi, e] at q1
      cases q1
      rw [Nat.zero_add, Nat.one_mul] at q2
      exact ⟨i, t, by omega, q2⟩
    case key =>
      intro r
      induction r with
      | nil => intro m o3' _ _ _ _; exact ItemsRest.zero fun h tk F N => hQ h tk m o3' F N
      | cons v r ih =>
        intro m o3' hr h1 h2 h3
        refine ItemsRest.val fun h tk F' => AllObj.cons fun oI hcI => AllObj.nil fun N' => ?_
        obtain ⟨j, t, hj, rfl⟩ := hr v (.head _)
        dsimp only [List.nil_append, List.cons_append] at N' ⊢
        clear W F
        walk1
        obtain ⟨v3, c3'⟩ := h3
        have m3 : ((L + 1 + 1 + 1, o3) : Addr × Obj) ∈ loopLed Dp Dl Db Df zp zl zs2 zs np nl n2 n L V N rows T nV nN o1 o2 o3 o4 o5 fa := .tail _ (.tail _ (.tail _ (.tail _ (.tail _ (.tail _ (.tail _ (.tail _ (.head _))))))))
        have hI3 : @Ne Nat I (L + 1 + 1 + 1) := Ne.symm (Nat.ne_of_lt (hI _ m3))
        refine storeX_C F' N' (c := L + 1 + 1 + 1) (by rfl) (.tail hI3 (.tail (hne _ (.head _)) (.tail (hne _ (.tail _ (.head _))) (.tail (hne _ (.tail _ (.tail _ (.head _)))) (.tail (hne _ (.tail _ (.tail _ (.tail _ (.head _))))) (updF3 sep)))))) c3' fun h' o' F'' W'' d' => ?_
        refine wpAny_mono (turn j hj h' tk m t o' I oI F'' W'' h1 h2 d') (fun f s₂ hx => ?_) fun _ _ e => e
        obtain ⟨rfl, h8, tk8, m8, rfl, F8, N8, a8, b8⟩ := hx
        refine ⟨h8, tk8, m8, loopLed Dp Dl Db Df zp zl zs2 zs np nl n2 n L V N rows T nV nN o1 o2 o' o4 o5 fa, rfl, F8, N8, fun p hp q hq => ?_, ⟨.tail _ (.tail _ (.tail _ (.head _))), trivial⟩, ih m8 o' (fun v hv => hr v (.tail _ hv)) a8 b8 ⟨_, d'⟩⟩
        rw [List.mem_singleton.mp hq]
        refine Nat.ne_of_lt ?_
        have z : p.1 ∈ (loopLed Dp Dl Db Df zp zl zs2 zs np nl n2 n L V N rows T nV nN o1 o2 o3 o4 o5 fa).map (·.1) := (List.mem_map_of_mem (f := (·.1)) hp)
        obtain ⟨q', hq', e⟩ := List.mem_map.mp z
        have e : q'.1 = p.1 := e
        rw [← e]
        exact hI _ hq'
end
/-- where the law's loop stands: a node of the tree -/
structure Nd (H₀ : Heap) (T : Tr) (rows : List Value) (fa : List (Addr × Obj)) (path : List (Nat × Tr)) (u : Tr) (j : Nat) : Prop where
  tree : Tree H₀ T rows fa
  occ : Occ T 0 path u j
theorem Nd.ln {H₀ T rows fa path u j} (x : Nd H₀ T rows fa path u j) : LN H₀ T rows fa j u := ⟨x.tree, x.occ.mem⟩
theorem Nd.full {H₀ T rows fa path u j} (x : Nd H₀ T rows fa path u j) {h : Heap} (hh : Has fa h) : ∃ par pn r A B, rows = A ++ (r ++ B) ∧ A.length = j ∧ Full H₀ h u j par pn r ∧ par = (lastOf path).map (fun p => p.2.root) ∧ pn = (lastOf path).map (·.1) ∧
    ∀ kp P, lastOf path = some (kp, P) → (j, u) ∈ P.kidsN kp ∧ ∃ q parP, Occ T 0 q P kp ∧ path = q ++ [(kp, P)] ∧ At H₀ h P kp parP := by
  obtain ⟨par, pn, r, A, B, e, hl, f, h0, h1⟩ := x.occ.full (x.tree.full h hh)
  cases q : lastOf path with
  | none =>
    have : path = [] := by unfold lastOf at q; exact List.getLast?_eq_none_iff.mp q
    obtain ⟨e1, e2, _⟩ := h0 this
    exact ⟨par, pn, r, A, B, e, hl, f, e1, e2, fun _ _ z => by cases z⟩
  | some p =>
    obtain ⟨kp, P⟩ := p
    obtain ⟨e1, e2, e3, q', pp, pnp, rp, o, ep, fP⟩ := h1 kp P q
    exact ⟨par, pn, r, A, B, e, hl, f, e1, e2, fun kp' P' z => by cases z; exact ⟨e3, q', pp, o, ep, fP.at⟩⟩
theorem Nd.at {H₀ T rows fa path u j} (x : Nd H₀ T rows fa path u j) {h : Heap} (hh : Has fa h) : At H₀ h u j ((lastOf path).map fun p => p.2.root) := by
  obtain ⟨par, pn, r, A, B, _, _, f, e, _⟩ := x.full hh
  exact e ▸ f.at
theorem Nd.small {H₀ T rows fa path u j} (x : Nd H₀ T rows fa path u j) : u.height ≤ 3 ∧ path.length ≤ 3 ∧ u.Short ∧ T.size ≤ 40 ∧ u.size ≤ 40 ∧ j < T.size := by
  obtain ⟨h1, h2, h3⟩ := x.occ.facts
  obtain ⟨g1, g2, g3, g4, _⟩ := x.occ.slice
  have := x.tree.high
  have hs := size_cap 3 x.tree.high
  have hc : capN 3 = 40 := rfl
  have := u.size_pos
  exact ⟨by omega, by omega, h2 x.tree.short, by omega, by omega, by omega⟩
/-- the neighbours of a node among its parent's children -/
def nextOf (path : List (Nat × Tr)) (j : Nat) : Option (Nat × Tr) := (lastOf path).bind fun p => nextIn (p.2.kidsN p.1) j
def prevOf (path : List (Nat × Tr)) (j : Nat) : Option (Nat × Tr) := (lastOf path).bind fun p => prevIn (p.2.kidsN p.1) j
/-- a node's reference, or None -/
def refV : Option (Nat × Tr) → Value
  | none => .none
  | some p => .ref p.2.root
theorem refV_handed (o : Option (Nat × Tr)) : handedIn (refV o) = true := by cases o <;> rfl
theorem GivesU.mono {w A c s V V'} {outer} (x : GivesU w A c s outer V) (h : ∀ v h', V v h' → V' v h') : GivesU w A c s outer V' := fun R k => x R fun v h' tk' hv st up => k v h' tk' (h v h' hv) st up
theorem At.inst' {H₀ h : Heap} {t : Tr} {k : Nat} {par : Option Addr} (i : At H₀ h t k par) : ∃ C a, (C = 225 ∨ C = 305) ∧ Inst h t.root C a ∧ a (Str.ofString "parent") = par.map Value.ref ∧ ∀ nm, leafKeys.contains nm = false → nodeKeys.contains nm = false → a nm = none := by
  cases t with
  | leaf x pre line => obtain ⟨a, j, l⟩ := i; exact ⟨305, a, .inr rfl, j, l.par, fun nm h _ => l.no nm h⟩
  | n0 x l => obtain ⟨a, j, na, _⟩ := i; exact ⟨225, a, .inl rfl, j, na.par, fun nm _ h => na.no nm h⟩
  | n1 x l => obtain ⟨a, j, na, _⟩ := i; exact ⟨225, a, .inl rfl, j, na.par, fun nm _ h => na.no nm h⟩
  | n2 x l => obtain ⟨a, j, na, _⟩ := i; exact ⟨225, a, .inl rfl, j, na.par, fun nm _ h => na.no nm h⟩
  | n3 x l => obtain ⟨a, j, na, _⟩ := i; exact ⟨225, a, .inl rfl, j, na.par, fun nm _ h => na.no nm h⟩
section
variable {prog : Program} {w : World} {A : Around} {E : Value → Shared → Prop} {s : Shared} {K : Frag} {x C L : Addr} {name : Str} {v : Value} {a : Str → Option Value} {expr : Bool} {Q : Value → Shared → Prop}
theorem own_here {attr : Option Value} (X : K.In s.heap) (I : Inst s.heap x C a) (hl : a name = some v) (hg : plainGet K C name = true) (hh : hasDictIn K C = true)
    (ha : findIn K (.ref C) name = some attr) (hn : noGet K attr = true) (hv : handedIn v = true) (h : Q v { s with toks := s.toks + 1 }) :
    wpAny (model prog w) A (getAttr (.ref x) name expr) Q E s := by
  obtain ⟨dx, es, n, h1, h2, h3⟩ := I
  exact get_value (od := some (dictOf es n)) X ⟨h1, rfl, rfl, h2⟩ (plainGet_of hg).1 (findObj_own hh ha hn ((lookIn_dict name es n).trans ((h3 name).trans (congrArg some hl)))) hv h
theorem cls_here {c : Value} (X : K.In s.heap) (I : Inst s.heap x C a) (hl : a name = none) (hg : plainGet K C name = true) (hh : hasDictIn K C = true)
    (ha : findIn K (.ref C) name = some (some c)) (hn : specialIn K c "__get__" = some none) (hv : handedIn c = true) (hc : copiedNames.contains name = false) (h : Q c { s with toks := s.toks + 1 }) :
    wpAny (model prog w) A (getAttr (.ref x) name expr) Q E s := by
  obtain ⟨dx, es, n, h1, h2, h3⟩ := I
  exact get_value (od := some (dictOf es n)) X ⟨h1, rfl, rfl, h2⟩ (plainGet_of hg).1 (findObj_cls hh ha hn hv hc ((lookIn_dict name es n).trans ((h3 name).trans (congrArg some hl)))) hv h
end
section
variable {w : World} {H₀ : Heap} {mean : ExcName → Option Value} {mg mb : Str → Option Value} {A : Around} {E : Value → Shared → Prop} {s : Shared} {L : Addr} {m : Str → Option Value} {news fa : List (Addr × Obj)} {T u : Tr} {rows : List Value} {path : List (Nat × Tr)} {j : Nat} {Q : Value → Shared → Prop}
/-- a call that may raise and catch within, met at the law's own level -/
theorem use_U {c : Code} {R : Result → Shared → Prop} {V : Value → Heap → Prop} {env : Env} (F : Fr H₀ L s.heap m) (N : News H₀ L s.heap news) (he : env.frame = some L) (H : GivesU w A c s [env] V)
    (k : ∀ v h' tk', V v h' → Fr H₀ L h' m → News H₀ L h' news → R (.ok (.ret v)) { s with heap := h', toks := tk' }) : codeAny (model PG w) A c R s := by
  have hL : H₀.get? L = none := Heap.get?_none_of_le F.above
  have off : ∀ b : Addr, b ≠ L → ∀ env' ∈ [env], env'.frame ≠ some b := fun b hb env' he' hf => by
    cases List.mem_singleton.mp he'
    rw [he] at hf; cases hf; exact hb rfl
  refine H R fun v h' tk' hv st up => k v h' tk' hv ⟨up.ns F.ns, fun b o e => st b o (frameless_get (F.keep b o e) (off b fun q => by rw [q, hL] at e; cases e)), F.above⟩ fun q hq => ⟨st _ _ (frameless_get (N q hq).1 (off _ (N q hq).2.1)), (N q hq).2⟩
theorem frames_law {env : Env} (F : Fr H₀ L s.heap m) (he : env.frame = some L) (hk : env.scope.kind = .function) : FramesIn s.heap [env] := fun e h => by
  cases List.mem_singleton.mp h
  obtain ⟨o, es, ep, a, b, _⟩ := F.ns
  exact ⟨by rw [hk]; decide, L, o, es, ep, he, a, b⟩
theorem frames_off {env : Env} (F : Fr H₀ L s.heap m) (he : env.frame = some L) : ∀ e ∈ [env], ∀ L', e.frame = some L' → H₀.get? L' = none := fun e h L' hf => by
  cases List.mem_singleton.mp h
  rw [he] at hf; cases hf
  exact Heap.get?_none_of_le F.above
theorem has_frameless {env : Env} (N : News H₀ L s.heap news) (hs : ∀ p ∈ fa, p ∈ news) (he : env.frame = some L) : Has fa (frameless s.heap [env]) := fun p hp => frameless_get (N p (hs p hp)).1 fun e h hf => by
  cases List.mem_singleton.mp h
  rw [he] at hf; cases hf
  exact (N p (hs p hp)).2.1 rfl
/-- the parent's field -/
theorem nd_parent {expr : Bool} (G : Gd w H₀ mean mg mb) (F : Fr H₀ L s.heap m) (N : News H₀ L s.heap news) (hs : ∀ p ∈ fa, p ∈ news) (x : Nd H₀ T rows fa path u j) (h : ∀ tk, Q (refV (lastOf path)) { s with toks := tk }) :
    wpAny (model PG w) A (getAttr (.ref u.root) (Str.ofString "parent") expr) Q E s := by
  have i := x.at (has_of N hs)
  obtain ⟨C, a, hC, I, hp, _⟩ := i.inst'
  have Xs := G.X.keeps F.keep
  clear N hs x i G
  cases q : lastOf path with
  | none =>
    rw [q] at hp
    have hp : a (Str.ofString "parent") = none := hp
    rw [q] at h
    rcases hC with rfl | rfl
    all_goals (
      refine' cls_here (c := .none) Xs I hp ?k1 ?k2 ?k3 ?k4 ?k5 ?k6 (h _)
      case k1 => k_is
      case k2 => k_is
      case k3 => k_is
      case k4 => k_is
      case k5 => rfl
      case k6 => decide +kernel)
  | some p =>
    rw [q] at hp
    have hp : a (Str.ofString "parent") = some (.ref p.2.root) := hp
    rw [q] at h
    rcases hC with rfl | rfl
    all_goals (
      refine' own_here Xs I hp ?k1 ?k2 ?k3 ?k4 ?k5 (h _)
      case k1 => k_is
      case k2 => k_is
      case k3 => k_is
      case k4 => k_is
      case k5 => rfl)
/-- its methods -/
theorem nd_meth {pl : Sem Bool} {Q : Value × List Value → Shared → Prop} {name : Str} {f : Addr} (G : Gd w H₀ mean mg mb) (F : Fr H₀ L s.heap m) (N : News H₀ L s.heap news) (hs : ∀ p ∈ fa, p ∈ news) (x : Nd H₀ T rows fa path u j)
    (hn : name = Str.ofString "depth" ∧ f = 122 ∨ name = Str.ofString "get_lineno" ∧ f = 78 ∨ name = Str.ofString "get_suffix" ∧ f = 129) (h : Q (.ref f, [.ref u.root]) s) :
    wpAny (model PG w) A (getMethod (.ref u.root) name pl) Q E s := by
  have i := x.at (has_of N hs)
  obtain ⟨C, a, hC, I, _, hno⟩ := i.inst'
  have Xs := G.X.keeps F.keep
  clear N hs x i G
  rcases hn with ⟨rfl, rfl⟩ | ⟨rfl, rfl⟩ | ⟨rfl, rfl⟩ <;> rcases hC with rfl | rfl
  all_goals (
    refine' meth_here Xs I (hno _ (by kernel_rfl) (by kernel_rfl)) ?k1 ?k2 ?k3 h
    case k1 => k_is
    case k2 => k_is
    case k3 => k_is)
end
section
variable {w : World} {H₀ : Heap} {mean : ExcName → Option Value} {mg mb : Str → Option Value}
theorem kid_next (G : Gd w H₀ mean mg mb) {P c : Tr} {kp kc : Nat} {parP : Option Addr} {s : Shared} (st : H₀.StaysIn s.heap) {dp un : Nat} {outer : List Env} (iP : At H₀ s.heap P kp parP) (m : (kc, c) ∈ P.kidsN kp) (hap : P.Apart) (hd : dp + 1 < recursionLimit) (hFr : FramesIn s.heap outer) (hFo : ∀ env ∈ outer, ∀ L, env.frame = some L → H₀.get? L = none) :
    GivesU w (Ar dp un outer) (.call (.ref 99) ⟨[.ref c.root], []⟩) s outer (fun v _ => v = refV (nextIn (P.kidsN kp) kc)) := by
  cases P with
  | leaf => cases m
  | n0 => cases m
  | n1 x l a =>
    obtain ⟨aa, i, na, hL, ia⟩ := iP
    have sa := a.size_pos
    obtain ⟨Ca, Aa, hCa, _, Ja, hpa, _⟩ := ia.inst
    · cases List.mem_singleton.mp m
      have e : nextIn [(kp + 1, c)] (kp + 1) = none := by
        unfold nextIn; rw [if_pos rfl]; rfl
      show GivesU _ _ _ _ _ (fun v _ => v = refV (nextIn [(kp + 1, c)] (kp + 1)))
      rw [e]
      exact next_10 G st Ja hCa i hpa na.ch hL hd hFr hFo
  | n2 x l a b =>
    obtain ⟨aa, i, na, hL, ia, ib⟩ := iP
    have sa := a.size_pos
    have sb := b.size_pos
    obtain ⟨Ca, Aa, hCa, _, Ja, hpa, _⟩ := ia.inst
    obtain ⟨Cb, Ab, hCb, _, Jb, hpb, _⟩ := ib.inst
    obtain ⟨_, _, ne01⟩ := hap
    rcases List.mem_cons.mp m with m | m
    · cases m
      have e : nextIn [(kp + 1, c), (kp + 1 + c.size, b)] (kp + 1) = some (kp + 1 + c.size, b) := by
        unfold nextIn; rw [if_pos rfl]; rfl
      show GivesU _ _ _ _ _ (fun v _ => v = refV (nextIn [(kp + 1, c), (kp + 1 + c.size, b)] (kp + 1)))
      rw [e]
      exact (next_20 G st Ja hCa i hpa na.ch hL hd).u
    · cases List.mem_singleton.mp m
      have e : nextIn [(kp + 1, a), (kp + 1 + a.size, c)] (kp + 1 + a.size) = none := by
        unfold nextIn; rw [if_neg (by show ¬ _ = _; dsimp only; omega)]; unfold nextIn; rw [if_pos rfl]; rfl
      show GivesU _ _ _ _ _ (fun v _ => v = refV (nextIn [(kp + 1, a), (kp + 1 + a.size, c)] (kp + 1 + a.size)))
      rw [e]
      exact next_21 G st Jb hCb i hpb na.ch hL Ja ne01 hd hFr hFo
  | n3 x l a b d =>
    obtain ⟨aa, i, na, hL, ia, ib, id⟩ := iP
    have sa := a.size_pos
    have sb := b.size_pos
    have sd := d.size_pos
    obtain ⟨Ca, Aa, hCa, _, Ja, hpa, _⟩ := ia.inst
    obtain ⟨Cb, Ab, hCb, _, Jb, hpb, _⟩ := ib.inst
    obtain ⟨Cd, Ad, hCd, _, Jd, hpd, _⟩ := id.inst
    obtain ⟨_, _, _, ne01, ne02, ne12⟩ := hap
    rcases List.mem_cons.mp m with m | m
    · cases m
      have e : nextIn [(kp + 1, c), (kp + 1 + c.size, b), (kp + 1 + c.size + b.size, d)] (kp + 1) = some (kp + 1 + c.size, b) := by
        unfold nextIn; rw [if_pos rfl]; rfl
      show GivesU _ _ _ _ _ (fun v _ => v = refV (nextIn [(kp + 1, c), (kp + 1 + c.size, b), (kp + 1 + c.size + b.size, d)] (kp + 1)))
      rw [e]
      exact (next_30 G st Ja hCa i hpa na.ch hL hd).u
    rcases List.mem_cons.mp m with m | m
    · cases m
      have e : nextIn [(kp + 1, a), (kp + 1 + a.size, c), (kp + 1 + a.size + c.size, d)] (kp + 1 + a.size) = some (kp + 1 + a.size + c.size, d) := by
        unfold nextIn; rw [if_neg (by show ¬ _ = _; dsimp only; omega)]; unfold nextIn; rw [if_pos rfl]; rfl
      show GivesU _ _ _ _ _ (fun v _ => v = refV (nextIn [(kp + 1, a), (kp + 1 + a.size, c), (kp + 1 + a.size + c.size, d)] (kp + 1 + a.size)))
      rw [e]
      exact (next_31 G st Jb hCb i hpb na.ch hL Ja ne01 hd).u
    · cases List.mem_singleton.mp m
      have e : nextIn [(kp + 1, a), (kp + 1 + a.size, b), (kp + 1 + a.size + b.size, c)] (kp + 1 + a.size + b.size) = none := by
        unfold nextIn; rw [if_neg (by show ¬ _ = _; dsimp only; omega)]; unfold nextIn; rw [if_neg (by show ¬ _ = _; dsimp only; omega)]; unfold nextIn; rw [if_pos rfl]; rfl
      show GivesU _ _ _ _ _ (fun v _ => v = refV (nextIn [(kp + 1, a), (kp + 1 + a.size, b), (kp + 1 + a.size + b.size, c)] (kp + 1 + a.size + b.size)))
      rw [e]
      exact next_32 G st Jd hCd i hpd na.ch hL Ja ne02 Jb ne12 hd hFr hFo
theorem kid_prev (G : Gd w H₀ mean mg mb) {P c : Tr} {kp kc : Nat} {parP : Option Addr} {s : Shared} (st : H₀.StaysIn s.heap) {dp un : Nat} {outer : List Env} (iP : At H₀ s.heap P kp parP) (m : (kc, c) ∈ P.kidsN kp) (hap : P.Apart) (hd : dp + 1 < recursionLimit) (hFr : FramesIn s.heap outer) (hFo : ∀ env ∈ outer, ∀ L, env.frame = some L → H₀.get? L = none) :
    GivesU w (Ar dp un outer) (.call (.ref 107) ⟨[.ref c.root], []⟩) s outer (fun v _ => v = refV (prevIn (P.kidsN kp) kc)) := by
  cases P with
  | leaf => cases m
  | n0 => cases m
  | n1 x l a =>
    obtain ⟨aa, i, na, hL, ia⟩ := iP
    have sa := a.size_pos
    obtain ⟨Ca, Aa, hCa, _, Ja, hpa, _⟩ := ia.inst
    · cases List.mem_singleton.mp m
      have e : prevIn [(kp + 1, c)] (kp + 1) = none := by
        rfl
      show GivesU _ _ _ _ _ (fun v _ => v = refV (prevIn [(kp + 1, c)] (kp + 1)))
      rw [e]
      exact (prev_10 G st Ja hCa i hpa na.ch hL hd).u
  | n2 x l a b =>
    obtain ⟨aa, i, na, hL, ia, ib⟩ := iP
    have sa := a.size_pos
    have sb := b.size_pos
    obtain ⟨Ca, Aa, hCa, _, Ja, hpa, _⟩ := ia.inst
    obtain ⟨Cb, Ab, hCb, _, Jb, hpb, _⟩ := ib.inst
    obtain ⟨_, _, ne01⟩ := hap
    rcases List.mem_cons.mp m with m | m
    · cases m
      have e : prevIn [(kp + 1, c), (kp + 1 + c.size, b)] (kp + 1) = none := by
        unfold prevIn; rw [if_neg (by show ¬ _ = _; dsimp only; omega)]; rfl
      show GivesU _ _ _ _ _ (fun v _ => v = refV (prevIn [(kp + 1, c), (kp + 1 + c.size, b)] (kp + 1)))
      rw [e]
      exact (prev_20 G st Ja hCa i hpa na.ch hL hd).u
    · cases List.mem_singleton.mp m
      have e : prevIn [(kp + 1, a), (kp + 1 + a.size, c)] (kp + 1 + a.size) = some (kp + 1, a) := by
        unfold prevIn; rw [if_pos rfl]
      show GivesU _ _ _ _ _ (fun v _ => v = refV (prevIn [(kp + 1, a), (kp + 1 + a.size, c)] (kp + 1 + a.size)))
      rw [e]
      exact (prev_21 G st Jb hCb i hpb na.ch hL Ja ne01 hd).u
  | n3 x l a b d =>
    obtain ⟨aa, i, na, hL, ia, ib, id⟩ := iP
    have sa := a.size_pos
    have sb := b.size_pos
    have sd := d.size_pos
    obtain ⟨Ca, Aa, hCa, _, Ja, hpa, _⟩ := ia.inst
    obtain ⟨Cb, Ab, hCb, _, Jb, hpb, _⟩ := ib.inst
    obtain ⟨Cd, Ad, hCd, _, Jd, hpd, _⟩ := id.inst
    obtain ⟨_, _, _, ne01, ne02, ne12⟩ := hap
    rcases List.mem_cons.mp m with m | m
    · cases m
      have e : prevIn [(kp + 1, c), (kp + 1 + c.size, b), (kp + 1 + c.size + b.size, d)] (kp + 1) = none := by
        unfold prevIn; rw [if_neg (by show ¬ _ = _; dsimp only; omega)]; unfold prevIn; rw [if_neg (by show ¬ _ = _; dsimp only; omega)]; rfl
      show GivesU _ _ _ _ _ (fun v _ => v = refV (prevIn [(kp + 1, c), (kp + 1 + c.size, b), (kp + 1 + c.size + b.size, d)] (kp + 1)))
      rw [e]
      exact (prev_30 G st Ja hCa i hpa na.ch hL hd).u
    rcases List.mem_cons.mp m with m | m
    · cases m
      have e : prevIn [(kp + 1, a), (kp + 1 + a.size, c), (kp + 1 + a.size + c.size, d)] (kp + 1 + a.size) = some (kp + 1, a) := by
        unfold prevIn; rw [if_pos rfl]
      show GivesU _ _ _ _ _ (fun v _ => v = refV (prevIn [(kp + 1, a), (kp + 1 + a.size, c), (kp + 1 + a.size + c.size, d)] (kp + 1 + a.size)))
      rw [e]
      exact (prev_31 G st Jb hCb i hpb na.ch hL Ja ne01 hd).u
    · cases List.mem_singleton.mp m
      have e : prevIn [(kp + 1, a), (kp + 1 + a.size, b), (kp + 1 + a.size + b.size, c)] (kp + 1 + a.size + b.size) = some (kp + 1 + a.size, b) := by
        unfold prevIn; rw [if_neg (by show ¬ _ = _; dsimp only; omega)]; unfold prevIn; rw [if_pos rfl]
      show GivesU _ _ _ _ _ (fun v _ => v = refV (prevIn [(kp + 1, a), (kp + 1 + a.size, b), (kp + 1 + a.size + b.size, c)] (kp + 1 + a.size + b.size)))
      rw [e]
      exact (prev_32 G st Jd hCd i hpd na.ch hL Ja ne02 Jb ne12 hd).u
end
theorem nextIn_mem : ∀ {l : List (Nat × Tr)} {j : Nat} {p : Nat × Tr}, nextIn l j = some p → p ∈ l
  | [], _, _, h => by cases h
  | q :: r, j, p, h => by
    unfold nextIn at h
    split at h
    · exact .tail _ (List.mem_of_mem_head? (by rw [h]; rfl))
    · exact .tail _ (nextIn_mem h)
theorem prevIn_mem : ∀ {l : List (Nat × Tr)} {j : Nat} {p : Nat × Tr}, prevIn l j = some p → p ∈ l
  | [], _, _, h => by cases h
  | [_], _, _, h => by cases h
  | q :: r :: l, j, p, h => by
    unfold prevIn at h
    split at h
    · cases h; exact .head _
    · exact .tail _ (prevIn_mem h)
section
variable {w : World} {H₀ : Heap} {mean : ExcName → Option Value} {mg mb : Str → Option Value} {E : Value → Shared → Prop} {s : Shared} {L : Addr} {m : Str → Option Value} {news fa : List (Addr × Obj)} {T u : Tr} {rows : List Value} {path : List (Nat × Tr)} {j : Nat} {Q : Value → Shared → Prop} {env : Env} {dp un : Nat}
theorem up_F {h' : Heap} (F : Fr H₀ L s.heap m) (he : env.frame = some L) (st : (frameless s.heap [env]).StaysIn h') (up : s.heap.UpToSlots h') : Fr H₀ L h' m := by
  have hL : H₀.get? L = none := Heap.get?_none_of_le F.above
  refine ⟨up.ns F.ns, fun b o e => st b o (frameless_get (F.keep b o e) fun env' he' hf => ?_), F.above⟩
  cases List.mem_singleton.mp he'
  rw [he] at hf; cases hf
  rw [hL] at e; cases e
theorem up_N {h' : Heap} (N : News H₀ L s.heap news) (he : env.frame = some L) (st : (frameless s.heap [env]).StaysIn h') : News H₀ L h' news := fun q hq => ⟨st _ _ (frameless_get (N q hq).1 fun env' he' hf => by
  cases List.mem_singleton.mp he'
  rw [he] at hf; cases hf
  exact (N q hq).2.1 rfl), (N q hq).2⟩
/-- the trees beside a node -/
theorem Nd.sib (x : Nd H₀ T rows fa path u j) {o : Option (Nat × Tr)} (ho : o = nextOf path j ∨ o = prevOf path j) {k : Nat} {t : Tr} (e : o = some (k, t)) : (k, t) ∈ T.nodeL 0 ∧ t.height ≤ 3 ∧ ∃ q, Nd H₀ T rows fa q t k := by
  have key : ∃ kp P q, Occ T 0 q P kp ∧ (k, t) ∈ P.kidsN kp := by
    cases q : lastOf path with
    | none =>
      rcases ho with rfl | rfl
      · unfold nextOf at e; rw [q] at e; cases e
      · unfold prevOf at e; rw [q] at e; cases e
    | some p =>
      obtain ⟨kp, P⟩ := p
      obtain ⟨q', o', _, hl⟩ : ∃ q', Occ T 0 q' P kp ∧ (j, u) ∈ P.kidsN kp ∧ True := by
        have oc := x.occ
        cases oc with
        | root => cases q
        | step oP hm => rw [lastOf_snoc] at q; cases q; exact ⟨_, oP, hm, trivial⟩
      refine ⟨kp, P, q', o', ?_⟩
      rcases ho with rfl | rfl
      · unfold nextOf at e; rw [q] at e; exact nextIn_mem e
      · unfold prevOf at e; rw [q] at e; exact prevIn_mem e
  obtain ⟨kp, P, q, o, hm⟩ := key
  have oc := Occ.step o hm
  have nd : Nd H₀ T rows fa _ t k := ⟨x.tree, oc⟩
  exact ⟨oc.mem, nd.small.1, _, nd⟩
theorem nd_next (G : Gd w H₀ mean mg mb) (x : Nd H₀ T rows fa path u j) (hh : Has fa s.heap) (st : H₀.StaysIn s.heap) {outer : List Env} (hd : dp + 1 < recursionLimit) (hFr : FramesIn s.heap outer) (hFo : ∀ env ∈ outer, ∀ L, env.frame = some L → H₀.get? L = none) :
    GivesU w (Ar dp un outer) (.call (.ref 99) ⟨[.ref u.root], []⟩) s outer (fun v _ => v = refV (nextOf path j)) := by
  obtain ⟨par, pn, r, A, B, _, _, f, e, _, hk⟩ := x.full hh
  cases q : lastOf path with
  | none =>
    rw [q] at e
    obtain ⟨C, a, hC, _, I, hp, _⟩ := f.at.inst
    rw [e] at hp
    have := (next_root G (un := un) (outer := outer) st I hC hp hd).u (outer := outer)
    unfold nextOf
    rw [q]
    exact this
  | some p =>
    obtain ⟨kp, P⟩ := p
    obtain ⟨hm, q', parP, oP, _, iP⟩ := hk kp P q
    unfold nextOf
    rw [q]
    exact kid_next G st iP hm (oP.facts.2.2 x.tree.apart) hd hFr hFo
theorem nd_prev (G : Gd w H₀ mean mg mb) (x : Nd H₀ T rows fa path u j) (hh : Has fa s.heap) (st : H₀.StaysIn s.heap) {outer : List Env} (hd : dp + 1 < recursionLimit) (hFr : FramesIn s.heap outer) (hFo : ∀ env ∈ outer, ∀ L, env.frame = some L → H₀.get? L = none) :
    GivesU w (Ar dp un outer) (.call (.ref 107) ⟨[.ref u.root], []⟩) s outer (fun v _ => v = refV (prevOf path j)) := by
  obtain ⟨par, pn, r, A, B, _, _, f, e, _, hk⟩ := x.full hh
  cases q : lastOf path with
  | none =>
    rw [q] at e
    obtain ⟨C, a, hC, _, I, hp, _⟩ := f.at.inst
    rw [e] at hp
    have := (prev_root G (un := un) (outer := outer) st I hC hp hd).u (outer := outer)
    unfold prevOf
    rw [q]
    exact this
  | some p =>
    obtain ⟨kp, P⟩ := p
    obtain ⟨hm, q', parP, oP, _, iP⟩ := hk kp P q
    unfold prevOf
    rw [q]
    exact kid_prev G st iP hm (oP.facts.2.2 x.tree.apart) hd hFr hFo
theorem nd_next_at {expr : Bool} (G : Gd w H₀ mean mg mb) (F : Fr H₀ L s.heap m) (N : News H₀ L s.heap news) (hs : ∀ p ∈ fa, p ∈ news) (x : Nd H₀ T rows fa path u j) (he : env.frame = some L) (hk : env.scope.kind = .function) (hd : dp + 5 < recursionLimit)
    (h : ∀ h' tk', Fr H₀ L h' m → News H₀ L h' news → Q (refV (nextOf path j)) { s with heap := h', toks := tk' }) :
    wpAny (model PG w) (Ar dp un [env]) (getAttr (.ref u.root) (Str.ofString "next_sibling") expr) Q E s := by
  have i := x.at (has_of N hs)
  obtain ⟨C, a, hC, I, hp, _⟩ := i.inst'
  have Xs := G.X.keeps F.keep
  have hU := nd_next (s := { s with toks := s.toks + 1 }) (un := un + 1) (dp := dp) G x (has_of N hs) F.keep (by omega) (frames_law F he hk) (frames_off F he)
  have hk := fun v h' tk' (hv : v = refV (nextOf path j)) st up => (hv ▸ h h' tk' (up_F F he st up) (up_N N he st) : Q v { s with heap := h', toks := tk' })
  clear h hp i x N hs
  rcases hC with rfl | rfl
  all_goals (
    refine' attr_propU Xs I ?k1 ?k2 ?k3 ?k4 ?k5 ?k6 hU (fun v h' hv => hv ▸ refV_handed _) hk
    case k1 => k_is
    case k2 => k_is
    case k3 => k_is
    case k4 => k_is
    case k5 => k_is
    case k6 => k_is)
theorem nd_prev_at {expr : Bool} (G : Gd w H₀ mean mg mb) (F : Fr H₀ L s.heap m) (N : News H₀ L s.heap news) (hs : ∀ p ∈ fa, p ∈ news) (x : Nd H₀ T rows fa path u j) (he : env.frame = some L) (hk : env.scope.kind = .function) (hd : dp + 5 < recursionLimit)
    (h : ∀ h' tk', Fr H₀ L h' m → News H₀ L h' news → Q (refV (prevOf path j)) { s with heap := h', toks := tk' }) :
    wpAny (model PG w) (Ar dp un [env]) (getAttr (.ref u.root) (Str.ofString "prev_sibling") expr) Q E s := by
  have i := x.at (has_of N hs)
  obtain ⟨C, a, hC, I, hp, _⟩ := i.inst'
  have Xs := G.X.keeps F.keep
  have hU := nd_prev (s := { s with toks := s.toks + 1 }) (un := un + 1) (dp := dp) G x (has_of N hs) F.keep (by omega) (frames_law F he hk) (frames_off F he)
  have hk := fun v h' tk' (hv : v = refV (prevOf path j)) st up => (hv ▸ h h' tk' (up_F F he st up) (up_N N he st) : Q v { s with heap := h', toks := tk' })
  clear h hp i x N hs
  rcases hC with rfl | rfl
  all_goals (
    refine' attr_propU Xs I ?k1 ?k2 ?k3 ?k4 ?k5 ?k6 hU (fun v h' hv => hv ▸ refV_handed _) hk
    case k1 => k_is
    case k2 => k_is
    case k3 => k_is
    case k4 => k_is
    case k5 => k_is
    case k6 => k_is)
/-- depth, get_lineno, get_suffix, str -/
theorem nd_depth (G : Gd w H₀ mean mg mb) (F : Fr H₀ L s.heap m) (N : News H₀ L s.heap news) (hs : ∀ p ∈ fa, p ∈ news) (x : Nd H₀ T rows fa path u j) {outer : List Env} (hd : dp + 10 < recursionLimit)
    (h : ∀ h' tk' t, Fr H₀ L h' m → News H₀ L h' news → Q (.int ((path.length : Nat) : Int) t) { s with heap := h', toks := tk' }) :
    wpAny (model PG w) (Ar dp un outer) (call (.ref 122) [.ref u.root]) Q E s := by
  have hp := x.small.2.1
  refine wpAny_call (use_gives F N (depth_up G path.length F.keep (x.occ.up (x.tree.full _ (has_of N hs)).at).2 (by omega)) ?_)
  rintro v h' tk' ⟨t, rfl⟩ F' N'
  exact h h' tk' t F' N'
theorem nd_lineno (G : Gd w H₀ mean mg mb) (F : Fr H₀ L s.heap m) (N : News H₀ L s.heap news) (hs : ∀ p ∈ fa, p ∈ news) (x : Nd H₀ T rows fa path u j) {outer : List Env} (hd : dp + 10 < recursionLimit)
    (h : ∀ v h' tk', (u.firstLine = none ∧ v = .none) ∨ (∃ tk n, u.firstLine = some n ∧ v = .int n tk) → Fr H₀ L h' m → News H₀ L h' news → Q v { s with heap := h', toks := tk' }) :
    wpAny (model PG w) (Ar dp un outer) (call (.ref 78) [.ref u.root]) Q E s := by
  exact wpAny_call (use_gives F N (lineno_at G F.keep (x.at (has_of N hs)) (by omega)) fun v h' tk' hv F' N' => h v h' tk' hv F' N')
theorem nd_str (G : Gd w H₀ mean mg mb) (F : Fr H₀ L s.heap m) (N : News H₀ L s.heap news) (hs : ∀ p ∈ fa, p ∈ news) (x : Nd H₀ T rows fa path u j) {outer : List Env} (hd : dp + 20 < recursionLimit) (hun : un + 100 < cLine)
    (h : ∀ h' tk' t, Fr H₀ L h' m → News H₀ L h' news → Q (.str (u.text j) t) { s with heap := h', toks := tk' }) :
    wpAny (model PG w) (Ar dp un outer) (call (.type "str") [.ref u.root]) Q E s := by
  obtain ⟨h1, h2, h3, h4, h5, _⟩ := x.small
  refine use_T F N (str_T G u F.keep (x.at (has_of N hs)) h3 (by omega) (by omega) (by omega)) ?_
  rintro v h' tk' ⟨t, rfl⟩ F' N'
  exact h h' tk' t F' N'
theorem nd_suffix (G : Gd w H₀ mean mg mb) (F : Fr H₀ L s.heap m) (N : News H₀ L s.heap news) (hs : ∀ p ∈ fa, p ∈ news) (x : Nd H₀ T rows fa path u j) (he : env.frame = some L) (hk : env.scope.kind = .function) (hd : dp + 20 < recursionLimit)
    (h : ∀ h' tk' t, Fr H₀ L h' m → News H₀ L h' news → Q (.str (((nextOf path j).map fun p => p.2.firstPre).getD (Str.ofString "")) t) { s with heap := h', toks := tk' }) :
    wpAny (model PG w) (Ar dp un [env]) (call (.ref 129) [.ref u.root]) Q E s := by
  have has := has_of N hs
  have i := x.at has
  obtain ⟨C, a, hC, I, hp, _⟩ := i.inst'
  have hr : ∀ o : Option (Nat × Tr), refV o = ((o.map (·.2)).map fun t => Value.ref t.root).getD .none := fun o => by cases o <;> rfl
  have hr2 : ∀ o : Option (Nat × Tr), (o.map fun p => p.2.firstPre).getD (Str.ofString "") = ((o.map (·.2)).map Tr.firstPre).getD (Str.ofString "") := fun o => by cases o <;> rfl
  refine wpAny_call (use_U (env := env) F N he (suffix_of (o := (nextOf path j).map (·.2)) G F.keep I hC (frames_off F he) (by omega) (fun {s' un' env'} st' hFr' hno => ?_) (fun t ht => ?_) (frames_law F he hk)) ?_)
  · have hU := nd_next (s := s') (un := un') (dp := dp + 1) (outer := [env', env]) G x (has.keeps st') (fun b o e => st' b o (F.keep b o e)) (by omega) hFr' (fun e h => by
      rcases List.mem_cons.mp h with rfl | h
      · exact hno
      · exact frames_off F he e h)
    exact hU.mono fun v _ hv => by rw [hv, hr]
  · obtain ⟨p, hp1, hp2⟩ := Option.map_eq_some_iff.mp ht
    obtain ⟨k, t'⟩ := p
    have hp2 : t' = t := hp2
    subst hp2
    obtain ⟨_, hh, q, nd⟩ := x.sib (.inl rfl) hp1
    exact ⟨by omega, k, _, nd.at (has_frameless N hs he)⟩
  · rintro v h' tk' ⟨t, rfl⟩ F' N'
    rw [← hr2]
    exact h h' tk' t F' N'
/-- the law's own helpers -/
theorem nd_number (G : Gd w H₀ mean mg mb) (F : Fr H₀ L s.heap m) (N : News H₀ L s.heap news) (hs : ∀ p ∈ fa, p ∈ news) (x : Nd H₀ T rows fa path u j) {outer : List Env} (hd : dp + 10 < recursionLimit)
    (h : ∀ h' tk' t, Fr H₀ L h' m → News H₀ L h' news → Q (.int ((j : Nat) : Int) t) { s with heap := h', toks := tk' }) :
    wpAny (model PG w) (Ar dp un outer) (call (.ref 340) [.ref u.root]) Q E s := by
  refine wpAny_call (use_gives F N (number_at G F.keep (x.at (has_of N hs)) (by omega)) ?_)
  rintro v h' tk' ⟨t, rfl⟩ F' N'
  exact h h' tk' t F' N'
theorem nd_number0 (G : Gd w H₀ mean mg mb) (F : Fr H₀ L s.heap m) (N : News H₀ L s.heap news) {outer : List Env} (hd : dp + 10 < recursionLimit)
    (h : ∀ h' tk', Fr H₀ L h' m → News H₀ L h' news → Q .none { s with heap := h', toks := tk' }) :
    wpAny (model PG w) (Ar dp un outer) (call (.ref 340) [.none]) Q E s := by
  refine wpAny_call (use_gives F N (number_none G F.keep (by omega)) ?_)
  rintro v h' tk' rfl F' N'
  exact h h' tk' F' N'
/-- a number, or None -/
def numV (o : Option Nat) (v : Value) : Prop := (o = none ∧ v = .none) ∨ ∃ t k, o = some k ∧ v = .int ((k : Nat) : Int) t
theorem nd_end (G : Gd w H₀ mean mg mb) (F : Fr H₀ L s.heap m) (N : News H₀ L s.heap news) (hs : ∀ p ∈ fa, p ∈ news) (x : Nd H₀ T rows fa path u j) {outer : List Env} {tk : Tok} {z : Int} (e : Bool) (hz : z = endInt e) (hd : dp + 10 < recursionLimit)
    (h : ∀ v h' tk', numV (u.endOf e j) v → Fr H₀ L h' m → News H₀ L h' news → Q v { s with heap := h', toks := tk' }) :
    wpAny (model PG w) (Ar dp un outer) (call (.ref 347) [.ref u.root, .int z tk]) Q E s := by
  have hh := x.small.1
  subst hz
  cases e with
  | false => exact wpAny_call (use_gives F N (law_end_0 G F.keep (x.at (has_of N hs)) (by omega) (by omega)) fun v h' tk' hv F' N' => h v h' tk' hv F' N')
  | true => exact wpAny_call (use_gives F N (law_end_1 G F.keep (x.at (has_of N hs)) (by omega) (by omega)) fun v h' tk' hv F' N' => h v h' tk' hv F' N')
theorem nd_told (G : Gd w H₀ mean mg mb) (F : Fr H₀ L s.heap m) (N : News H₀ L s.heap news) (hs : ∀ p ∈ fa, p ∈ news) (x : Nd H₀ T rows fa path u j) (he : env.frame = some L) (hk : env.scope.kind = .function) {tk : Tok} {z : Int} (e : Bool) (hz : z = endInt e) (hd : dp + 20 < recursionLimit)
    (h : ∀ v h' tk', numV (u.endOf e j) v → Fr H₀ L h' m → News H₀ L h' news → Q v { s with heap := h', toks := tk' }) :
    wpAny (model PG w) (Ar dp un [env]) (call (.ref 354) [.ref u.root, .int z tk]) Q E s := by
  have hh := x.small.1
  have i := x.at (has_of N hs)
  have hX := Tr.endX_endOf (e := e) (t := u) j
  subst hz
  cases q : u.endX e with
  | none =>
    rw [q] at hX
    have ho : u.endOf e j = none := by cases z : u.endOf e j with | none => rfl | some k => rw [z] at hX; cases hX
    rw [ho] at h
    cases e with
    | false => exact wpAny_call (use_U (env := env) F N he (told_first_none G (by omega) F.keep i q (by omega) (frames_law F he hk) (frames_off F he)) fun v h' tk' hv F' N' => h v h' tk' (.inl ⟨rfl, hv⟩) F' N')
    | true => exact wpAny_call (use_U (env := env) F N he (told_last_none G (by omega) F.keep i q (by omega) (frames_law F he hk) (frames_off F he)) fun v h' tk' hv F' N' => h v h' tk' (.inl ⟨rfl, hv⟩) F' N')
  | some a =>
    rw [q] at hX
    obtain ⟨k, ho⟩ : ∃ k, u.endOf e j = some k := by cases z : u.endOf e j with | none => rw [z] at hX; cases hX | some k => exact ⟨k, rfl⟩
    cases e with
    | false => exact wpAny_call (use_gives F N (told_first_found G (by omega) F.keep i q ho (by omega)) fun v h' tk' hv F' N' => h v h' tk' (.inr (let ⟨t, e⟩ := hv; ⟨t, k, ho, e⟩)) F' N')
    | true => exact wpAny_call (use_gives F N (told_last_found G (by omega) F.keep i q ho (by omega)) fun v h' tk' hv F' N' => h v h' tk' (.inr (let ⟨t, e⟩ := hv; ⟨t, k, ho, e⟩)) F' N')
/-- a leaf's fields -/
theorem nd_value {expr : Bool} {A : Around} {y : Addr} {pre : Str} {line : Int} (G : Gd w H₀ mean mg mb) (F : Fr H₀ L s.heap m) (N : News H₀ L s.heap news) (hs : ∀ p ∈ fa, p ∈ news) (x : Nd H₀ T rows fa path (.leaf y pre line) j)
    (h : ∀ tk t, Q (.str (xy j) t) { s with toks := tk }) : wpAny (model PG w) A (getAttr (.ref y) (Str.ofString "value") expr) Q E s := by
  obtain ⟨a, I, l⟩ := x.at (has_of N hs)
  obtain ⟨t, ht⟩ := l.value
  have Xs := G.X.keeps F.keep
  refine' own_here Xs I ht ?k1 ?k2 ?k3 ?k4 rfl (h _ _)
  case k1 => k_is
  case k2 => k_is
  case k3 => k_is
  case k4 => k_is
theorem nd_line {expr : Bool} {A : Around} {y : Addr} {pre : Str} {line : Int} (G : Gd w H₀ mean mg mb) (F : Fr H₀ L s.heap m) (N : News H₀ L s.heap news) (hs : ∀ p ∈ fa, p ∈ news) (x : Nd H₀ T rows fa path (.leaf y pre line) j)
    (h : ∀ tk t, Q (.int line t) { s with toks := tk }) : wpAny (model PG w) A (getAttr (.ref y) (Str.ofString "lineno") expr) Q E s := by
  obtain ⟨a, I, l⟩ := x.at (has_of N hs)
  obtain ⟨t, ht⟩ := l.line
  have Xs := G.X.keeps F.keep
  refine' own_here Xs I ht ?k1 ?k2 ?k3 ?k4 rfl (h _ _)
  case k1 => k_is
  case k2 => k_is
  case k3 => k_is
  case k4 => k_is
theorem nd_prefix {expr : Bool} {outer : List Env} {y : Addr} {pre : Str} {line : Int} (G : Gd w H₀ mean mg mb) (F : Fr H₀ L s.heap m) (N : News H₀ L s.heap news) (hs : ∀ p ∈ fa, p ∈ news) (x : Nd H₀ T rows fa path (.leaf y pre line) j) (hd : dp + 10 < recursionLimit)
    (h : ∀ h' tk' t, Fr H₀ L h' m → News H₀ L h' news → Q (.str pre t) { s with heap := h', toks := tk' }) : wpAny (model PG w) (Ar dp un outer) (getAttr (.ref y) (Str.ofString "prefix") expr) Q E s := by
  refine use_T F N (pre_attr G (.leaf y pre line) F.keep (x.at (has_of N hs)) (by simp only [Tr.height]; omega)) ?_
  rintro v h' tk' ⟨t, rfl⟩ F' N'
  exact h h' tk' t F' N'
end
section
variable {w : World} {H₀ : Heap} {mean : ExcName → Option Value} {mg mb : Str → Option Value} {E : Value → Shared → Prop} {s : Shared} {L : Addr} {m : Str → Option Value} {news fa : List (Addr × Obj)} {T u : Tr} {rows : List Value} {path : List (Nat × Tr)} {j : Nat} {Q : Value → Shared → Prop} {env : Env} {dp un : Nat}
/-- the heap without what the ground holds -/
def newOnly (H₀ h : Heap) : Heap := hideAll h ((List.range H₀.objs.size).filter fun b => (H₀.get? b).isSome)
theorem newOnly_get {h : Heap} {b : Addr} {o : Obj} (e : h.get? b = some o) (hb : H₀.get? b = none) : (newOnly H₀ h).get? b = some o := hideAll_get _ e fun q => by
  have := (List.mem_filter.mp q).2
  rw [hb] at this; cases this
theorem newOnly_of {h : Heap} {b : Addr} {o : Obj} (e : (newOnly H₀ h).get? b = some o) : h.get? b = some o ∧ H₀.get? b = none := by
  refine ⟨of_hideAll _ e, ?_⟩
  cases q : H₀.get? b with
  | none => rfl
  | some o' =>
    have : (newOnly H₀ h).get? b = none := hideAll_none _ (List.mem_filter.mpr ⟨List.mem_range.mpr (Heap.lt_size q), by rw [q]; rfl⟩)
    rw [this] at e; cases e
/-- the row of a node, on the ledger -/
theorem row_led (F : Fr H₀ L s.heap m) (N : News H₀ L s.heap news) (hs : ∀ p ∈ fa, p ∈ news) (x : Nd H₀ T rows fa path u j) :
    ∃ R C nR nC pv csv, rows[j]? = some (.ref R) ∧ News H₀ L s.heap ((R, listOf [pv, .ref C].toArray nR) :: (C, listOf (List.toArray csv) nC) :: news) ∧ ParV pv ((lastOf path).map (·.1)) ∧ IntsAre csv (((u.kidsN j).map (·.1)).map Int.ofNat) := by
  have has : Has fa (newOnly H₀ s.heap) := fun p hp => newOnly_get (N p (hs p hp)).1 (N p (hs p hp)).2.2
  obtain ⟨par, pn, r, A, B, e, hl, f, _, ep, _⟩ := x.full has
  obtain ⟨R, r', er, C, nR, nC, pv, csv, h1, h2, h3, h4⟩ := f.head
  have off : ∀ {a : Addr} {vs : List Value} {n : Nat}, (newOnly H₀ s.heap).get? a = some (listOf vs.toArray n) → s.heap.get? a = some (listOf vs.toArray n) ∧ a ≠ L ∧ H₀.get? a = none := fun {a vs n} h => by
    obtain ⟨q1, q2⟩ := newOnly_of h
    refine ⟨q1, fun q => ?_, q2⟩
    obtain ⟨o, es, ep, a1, a2, _⟩ := F.ns
    rw [q, a1] at q1
    cases q1
    cases a2
  refine ⟨R, C, nR, nC, pv, csv, ?_, ?_, ep ▸ h2, h4⟩
  · rw [e, er, ← hl, List.cons_append, List.getElem?_append_right (Nat.le_refl _), Nat.sub_self]; rfl
  · intro p hp
    rcases List.mem_cons.mp hp with rfl | hp
    · exact off h1
    rcases List.mem_cons.mp hp with rfl | hp
    · exact off h3
    · exact N p hp
theorem nd_parent0 {A : Around} {expr : Bool} (G : Gd w H₀ mean mg mb) (F : Fr H₀ L s.heap m) (N : News H₀ L s.heap news) (hs : ∀ p ∈ fa, p ∈ news) (x : Nd H₀ T rows fa path u j) (hq : lastOf path = none) (h : ∀ tk, Q .none { s with toks := tk }) :
    wpAny (model PG w) A (getAttr (.ref u.root) (Str.ofString "parent") expr) Q E s := nd_parent G F N hs x fun tk => by rw [hq]; exact h tk
theorem nd_parent1 {A : Around} {expr : Bool} {kp : Nat} {P : Tr} (G : Gd w H₀ mean mg mb) (F : Fr H₀ L s.heap m) (N : News H₀ L s.heap news) (hs : ∀ p ∈ fa, p ∈ news) (x : Nd H₀ T rows fa path u j) (hq : lastOf path = some (kp, P)) (h : ∀ tk, Q (.ref P.root) { s with toks := tk }) :
    wpAny (model PG w) A (getAttr (.ref u.root) (Str.ofString "parent") expr) Q E s := nd_parent G F N hs x fun tk => by rw [hq]; exact h tk
theorem Nd.par (x : Nd H₀ T rows fa path u j) {kp : Nat} {P : Tr} (hq : lastOf path = some (kp, P)) : ∃ q, Nd H₀ T rows fa q P kp ∧ (j, u) ∈ P.kidsN kp ∧ path = q ++ [(kp, P)] := by
  have oc := x.occ
  cases oc with
  | root => cases hq
  | step oP hm => rw [lastOf_snoc] at hq; cases hq; exact ⟨_, ⟨x.tree, oP⟩, hm, rfl⟩
theorem lastOf_none {path : List (Nat × Tr)} (h : lastOf path = none) : path = [] := by unfold lastOf at h; exact List.getLast?_eq_none_iff.mp h
/-- the last item of a list of the ledger's -/
theorem item_lastN {A : Around} {l : Addr} {vs : List Value} {n : Nat} {v : Value} {value slice : PySem.Expr} {t : Tok} (N : News H₀ L s.heap news) (hm : (l, listOf vs.toArray n) ∈ news) (hx : vs.getLast? = some v) (h : Q v s)
    (hs : subscripted slice false (.ref l) (.int (-1) t) = operate [.ref l, .int (-1) t] (getItem (.ref l) (.int (-1) t))) :
    wpAny (model PG w) A (subscriptTail value slice (.ref l) (.int (-1) t)) Q E s := by
  have hne : vs.length ≠ 0 := by intro e; rw [List.length_eq_zero_iff.mp e] at hx; cases hx
  refine tail_any (isL N hm).typeIs slot_list_getitem.lookup (wpAny_getItem_list_neg (x := v) (isL N hm) (by decide) (by simp only [List.size_toArray]; omega) (by decide) ?_ h) hs
  rw [List.getLast?_eq_getElem?] at hx
  rw [List.getElem?_toArray, ← hx, List.size_toArray]
  congr 1
  omega
theorem All2.last {α β : Type} {R : α → β → Prop} {l : List α} {zs : List β} (h : All2 R l zs) {a : α} (e : l.getLast? = some a) : ∃ z, zs.getLast? = some z ∧ R a z := by
  rw [List.getLast?_eq_getElem?] at e
  obtain ⟨b, q1, q2⟩ := h.get e
  exact ⟨b, by rw [List.getLast?_eq_getElem?, h.length]; exact q1, q2⟩
theorem lastOf_map {path : List (Nat × Tr)} {kp : Nat} {P : Tr} (h : lastOf path = some (kp, P)) : (path.map (·.1)).getLast? = some kp := by
  unfold lastOf at h
  rw [List.getLast?_map, h]; rfl
end
theorem execs_app {prog : Program} {w : World} {A : Around} {s : Shared} {E : Value → Shared → Prop} {xs ys : List Stmt} {env : Env} {Q : Flow → Shared → Prop} (h : wpAny (model prog w) A (execs xs env) (fun f s' => match f with | .next => wpAny (model prog w) A (execs ys env) Q E s' | f => Q f s') E s) :
    wpAny (model prog w) A (execs (xs ++ ys) env) Q E s := by
  have e : execs (xs ++ ys) env = execs xs env >>= fun f => match f with | .next => execs ys env | f => pure f := by
    clear h
    induction xs with
    | nil => rfl
    | cons x xs ih =>
      rw [List.cons_append, execs_cons, execs_cons, ih]
      show Sem.bind _ _ = Sem.bind (Sem.bind _ _) _
      rw [Sem.bind_eq_wrap, Sem.bind_eq_wrap, Sem.bind_eq_wrap, Sem.wrap_wrap]
      refine Sem.wrap_congr _ _ _ (fun f => ?_) fun _ => rfl
      cases f with
      | next => exact Sem.bind_eq_wrap _ _
      | brk => rfl
      | cont => rfl
      | ret v => rfl
  rw [e]
  refine wpAny_bind (wpAny_mono h (fun f s' h' => ?_) fun _ _ e => e)
  cases f with
  | next => exact h'
  | brk => exact wpAny_pure h'
  | cont => exact wpAny_pure h'
  | ret v => exact wpAny_pure h'
/-- what stays as it is in the law's loop -/
structure LoopC (H₀ : Heap) (T : Tr) (rows zp zl zs2 zs : List Value) (fa : List (Addr × Obj)) (Dp Dl Db Df N : Addr) (o1 o2 o4 o5 : Obj) : Prop where
  tree : Tree H₀ T rows fa
  d1 : o1.data = .cell (some (.ref Dp))
  d2 : o2.data = .cell (some (.ref Dl))
  d4 : o4.data = .cell (some (.ref Db))
  d5 : o5.data = .cell (some (.ref N))
  hz : All2 (fun j y => ∃ t, y = Value.int (j : Nat) t) (List.range' 0 T.size) zs
  hzl : IntsAre zl ((T.leafN 0).map Int.ofNat)
  hzp : All2 (fun j y => ∃ t, y = Value.int ((T.postN 0).idxOf j : Nat) t) (List.range' 0 T.size) zp
  hsz : T.size ≤ 40
theorem range_item {f : Nat → Int} {n j : Nat} {zs : List Value} (h : All2 (fun j y => ∃ t, y = Value.int (f j) t) (List.range' 0 n) zs) (hj : j < n) : ∃ t, zs[j]? = some (.int (f j) t) := by
  obtain ⟨b, q1, t, q2⟩ := h.get (i := j) (List.getElem?_range' hj)
  rw [Nat.zero_add, Nat.one_mul] at q2
  exact ⟨t, by rw [q1, q2]⟩
/-- the statements of one round of the law's loop -/
def rnd (body : List Stmt) (a n : Nat) : List Stmt := ((forBody (body.getD 11 (.Pass default))).drop a).take n
/-- the parent's row of the table, or the root's own -/
def rowN (path : List (Nat × Tr)) : List Nat := match lastOf path with
  | none => [0]
  | some p => (p.2.kidsN p.1).map (·.1)
theorem Nd.root_num {H₀ : Heap} {T u : Tr} {rows : List Value} {fa : List (Addr × Obj)} {path : List (Nat × Tr)} {j : Nat} (x : Nd H₀ T rows fa path u j) (hq : lastOf path = none) : j = 0 := by
  have oc := x.occ
  cases oc with
  | root => rfl
  | step oP hm => rw [lastOf_snoc] at hq; cases hq
theorem ints_get : ∀ {vs : List Value} {l : List Nat} {i k : Nat}, IntsAre vs (l.map Int.ofNat) → l[i]? = some k → ∃ t, vs[i]? = some (.int ((k : Nat) : Int) t)
  | _, [], _, _, _, h => by cases h
  | _, x :: r, 0, k, hi, h => by
    cases hi with
    | cons n t h' => cases h; exact ⟨t, rfl⟩
  | _, x :: r, i + 1, k, hi, h => by
    cases hi with
    | cons n t h' =>
      obtain ⟨t', e⟩ := ints_get (i := i) (k := k) h' h
      exact ⟨t', e⟩
theorem getD_at {l : List Nat} {i k : Nat} (h : l[i]? = some k) {z : Int} (hz : z.toNat = i) : (l.map Int.ofNat).getD z.toNat 0 = ((k : Nat) : Int) := by
  rw [hz, List.getD_eq_getElem?_getD, List.getElem?_map, h]
  rfl
theorem next_idx (j : Nat) : ∀ (l : List (Nat × Tr)), (l.map (·.1))[(l.map (·.1)).idxOf j + 1]? = (nextIn l j).map (·.1)
  | [] => rfl
  | p :: r => by
    unfold nextIn
    by_cases h : p.1 = j
    · rw [if_pos h, List.map_cons, List.idxOf_cons, h]
      cases r <;> simp
    · rw [if_neg h, List.map_cons, List.idxOf_cons]
      have : (p.1 == j) = false := by simpa using h
      rw [this, ← next_idx j r]
      rfl
theorem prev_none (j : Nat) : ∀ (l : List (Nat × Tr)), j ∉ (l.drop 1).map (·.1) → prevIn l j = none
  | [], _ => rfl
  | [_], _ => rfl
  | p :: q :: r, h => by
    unfold prevIn
    have hq : ¬ q.1 = j := fun e => h (by rw [← e]; exact .head _)
    rw [if_neg hq]
    exact prev_none j (q :: r) fun z => h (.tail _ z)
theorem prev_idx (j : Nat) : ∀ (l : List (Nat × Tr)), (l.map (·.1)).Nodup → j ∈ l.map (·.1) → (prevIn l j).map (·.1) = if (l.map (·.1)).idxOf j = 0 then none else (l.map (·.1))[(l.map (·.1)).idxOf j - 1]?
  | [], _, h => by cases h
  | [p], nd, h => by
    have e : j = p.1 := List.mem_singleton.mp h
    subst e
    simp [prevIn]
  | p :: q :: r, nd, h => by
    rw [List.map_cons, List.nodup_cons] at nd
    by_cases hp : p.1 = j
    · subst hp
      rw [prev_none _ (p :: q :: r) nd.1, List.map_cons, List.idxOf_cons]
      simp
    · have hb : (p.1 == j) = false := by simpa using hp
      have hm : j ∈ (q :: r).map (·.1) := by
        rcases List.mem_cons.mp h with z | z
        · exact absurd z.symm hp
        · exact z
      have ih := prev_idx j (q :: r) nd.2 hm
      rw [List.map_cons, List.idxOf_cons, hb]
      unfold prevIn
      by_cases hq : q.1 = j
      · rw [if_pos hq, List.map_cons, List.idxOf_cons]
        have : (q.1 == j) = true := by simpa using hq
        rw [this]
        rfl
      · rw [if_neg hq, ih]
        have hqb : (q.1 == j) = false := by simpa using hq
        rw [List.map_cons, List.idxOf_cons, hqb]
        simp
theorem Tr.kidsN_nodup (P : Tr) (kp : Nat) : ((P.kidsN kp).map (·.1)).Nodup ∧ (P.kidsN kp).length ≤ 3 := by
  cases P with
  | leaf => exact ⟨.nil, by simp [Tr.kidsN]⟩
  | n0 => exact ⟨.nil, by simp [Tr.kidsN]⟩
  | n1 x l a => exact ⟨by simp [Tr.kidsN], by simp [Tr.kidsN]⟩
  | n2 x l a b =>
    have := a.size_pos
    exact ⟨by simp [Tr.kidsN]; omega, by simp [Tr.kidsN]⟩
  | n3 x l a b c =>
    have := a.size_pos
    have := b.size_pos
    refine ⟨?_, by simp [Tr.kidsN]⟩
    simp only [Tr.kidsN, List.map_cons, List.map_nil, List.nodup_cons, List.mem_cons, List.not_mem_nil, or_false, not_or, not_false_eq_true, List.nodup_nil, and_true]
    refine ⟨⟨?_, ?_⟩, ?_⟩ <;> omega
theorem Nd.row {H₀ : Heap} {T u : Tr} {rows : List Value} {fa : List (Addr × Obj)} {path : List (Nat × Tr)} {j : Nat} (x : Nd H₀ T rows fa path u j) :
    j ∈ rowN path ∧ (rowN path).length ≤ 3 ∧ (∀ y ∈ rowN path, y < 1024) ∧ (rowN path)[(rowN path).idxOf j + 1]? = (nextOf path j).map (·.1) ∧ (prevOf path j).map (·.1) = if (rowN path).idxOf j = 0 then none else (rowN path)[(rowN path).idxOf j - 1]? := by
  cases q : lastOf path with
  | none =>
    have := x.root_num q
    subst this
    unfold rowN nextOf prevOf
    rw [q]
    exact ⟨.head _, by simp, fun y hy => by rw [List.mem_singleton.mp hy]; decide, rfl, rfl⟩
  | some p =>
    obtain ⟨kp, P⟩ := p
    obtain ⟨q', ndP, hm, _⟩ := x.par q
    obtain ⟨_, _, _, g4, g5, g6⟩ := ndP.small
    obtain ⟨n1, n2⟩ := P.kidsN_nodup kp
    have hj : j ∈ (P.kidsN kp).map (·.1) := List.mem_map.mpr ⟨_, hm, rfl⟩
    unfold rowN nextOf prevOf
    rw [q]
    refine ⟨hj, by rw [List.length_map]; exact n2, fun y hy => ?_, next_idx j _, prev_idx j _ n1 hj⟩
    obtain ⟨⟨k, c⟩, hk, e⟩ := List.mem_map.mp hy
    have e : k = y := e
    subst e
    have hk : (k, c) ∈ P.kidsN kp := hk
    have h1 : k + c.size ≤ kp + P.size := (kid_slice hk).2.1
    have h2 := c.size_pos
    have h3 : kp + P.size ≤ 0 + T.size := ndP.occ.slice.2.1
    omega
theorem All2.of_map {α β γ : Type} {R : β → γ → Prop} {f : α → β} : ∀ {l : List α} {zs : List γ}, All2 R (l.map f) zs → All2 (fun a y => R (f a) y) l zs
  | [], [], _ => .nil
  | [], _ :: _, h => by cases h
  | _ :: _, _, h => by cases h with | cons h r => exact .cons h r.of_map
theorem All2.to_map {α β γ : Type} {R : β → γ → Prop} {f : α → β} : ∀ {l : List α} {zs : List γ}, All2 (fun a y => R (f a) y) l zs → All2 R (l.map f) zs
  | [], _, .nil => .nil
  | _ :: _, _, .cons h r => .cons h r.to_map
theorem All2.mono_mem {α β : Type} {R S : α → β → Prop} : ∀ {l : List α} {zs : List β}, (∀ a ∈ l, ∀ b, R a b → S a b) → All2 R l zs → All2 S l zs
  | [], _, _, .nil => .nil
  | _ :: _, _, k, .cons h r => .cons (k _ (.head _) _ h) (r.mono_mem fun a ha => k a (.tail _ ha))
/-- the leaves of a node -/
def Tr.leaves (u : Tr) (j : Nat) : List (Nat × Tr) := (u.nodeL j).filter (·.2.isLeaf)
theorem Nd.sub {H₀ : Heap} {T u : Tr} {rows : List Value} {fa : List (Addr × Obj)} {path : List (Nat × Tr)} {j : Nat} (x : Nd H₀ T rows fa path u j) {p : Nat × Tr} (h : p ∈ u.nodeL j) : p ∈ T.nodeL 0 := by
  obtain ⟨_, _, _, _, ⟨A, B, e⟩, _⟩ := x.occ.slice
  rw [e]
  exact List.mem_append_right _ (List.mem_append_left _ h)
theorem Nd.of {H₀ : Heap} {T : Tr} {rows : List Value} {fa : List (Addr × Obj)} (t : Tree H₀ T rows fa) {p : Nat × Tr} (h : p ∈ T.nodeL 0) : ∃ q, Nd H₀ T rows fa q p.2 p.1 := by
  obtain ⟨q, o⟩ := Occ.all T 0 h
  exact ⟨q, t, o⟩
theorem leaf_of {t : Tr} (h : t.isLeaf = true) : ∃ y pre line, t = .leaf y pre line := by
  cases t with
  | leaf y pre line => exact ⟨y, pre, line, rfl⟩
  | n0 => cases h
  | n1 => cases h
  | n2 => cases h
  | n3 => cases h
theorem Nd.mine_all {H₀ : Heap} {T u : Tr} {rows : List Value} {fa : List (Addr × Obj)} {path : List (Nat × Tr)} {j : Nat} (x : Nd H₀ T rows fa path u j) {zs : List Value}
    (h : All2 (fun i y => ∃ q : Nat × Tr, q ∈ T.nodeL 0 ∧ q.1 = j + i ∧ y = Value.ref q.2.root) ((List.range' 0 u.size).filter fun i => decide (j + i ∈ T.leafN 0)) zs) : All2 (fun q y => y = Value.ref q.2.root) (u.leaves j) zs := by
  have e : ((List.range' 0 u.size).filter fun i => decide (j + i ∈ T.leafN 0)).map (fun i => j + i) = (u.leaves j).map (·.1) := by
    have := x.occ.mine
    rw [show (u.leaves j).map (·.1) = u.leafN j from rfl, ← this, show List.range' j u.size = (List.range' 0 u.size).map (fun i => j + i) by
      rw [List.map_add_range']; simp, List.filter_map]
    rfl
  have h2 : All2 (fun k y => ∃ q : Nat × Tr, q ∈ T.nodeL 0 ∧ q.1 = k ∧ y = Value.ref q.2.root) (((List.range' 0 u.size).filter fun i => decide (j + i ∈ T.leafN 0)).map (fun i => j + i)) zs := h.to_map
  rw [e] at h2
  refine (h2.of_map).mono_mem fun q hq y hy => ?_
  obtain ⟨q', hm, e1, rfl⟩ := hy
  obtain ⟨k, v⟩ := q
  obtain ⟨k', v'⟩ := q'
  have e1 : k' = k := e1
  subst e1
  have := T.num_unique 0 hm (x.sub (List.mem_filter.mp hq).1)
  rw [this]
/-- the first leaf on the way down: its line, its prefix -/
theorem Tr.end_first : ∀ (t : Tr) (k : Nat), (t.endOf false k = none ∧ t.firstLine = none ∧ t.firstPre = Str.ofString "") ∨ ∃ i x pre line, t.endOf false k = some i ∧ (i, Tr.leaf x pre line) ∈ t.nodeL k ∧ t.firstLine = some line ∧ t.firstPre = pre
  | .leaf x pre line, k => .inr ⟨k, x, pre, line, rfl, .head _, rfl, rfl⟩
  | .n0 .., k => .inl ⟨rfl, rfl, rfl⟩
  | .n1 x l a, k => by
    rcases a.end_first (k + 1) with ⟨h1, h2, h3⟩ | ⟨i, y, pre, line, h1, h2, h3, h4⟩
    · exact .inl ⟨h1, h2, h3⟩
    · exact .inr ⟨i, y, pre, line, h1, .tail _ h2, h3, h4⟩
  | .n2 x l a b, k => by
    rcases a.end_first (k + 1) with ⟨h1, h2, h3⟩ | ⟨i, y, pre, line, h1, h2, h3, h4⟩
    · exact .inl ⟨h1, h2, h3⟩
    · exact .inr ⟨i, y, pre, line, h1, .tail _ (List.mem_append_left _ h2), h3, h4⟩
  | .n3 x l a b c, k => by
    rcases a.end_first (k + 1) with ⟨h1, h2, h3⟩ | ⟨i, y, pre, line, h1, h2, h3, h4⟩
    · exact .inl ⟨h1, h2, h3⟩
    · exact .inr ⟨i, y, pre, line, h1, .tail _ (List.mem_append_left _ h2), h3, h4⟩
section
variable {w : World} {H₀ : Heap} {mean : ExcName → Option Value} {mg mb : Str → Option Value} {E : Value → Shared → Prop} {s : Shared} {L : Addr} {m : Str → Option Value} {news fa : List (Addr × Obj)} {T u : Tr} {rows : List Value} {path : List (Nat × Tr)} {j : Nat} {Q : Value → Shared → Prop} {env : Env} {dp un : Nat}
theorem item_int {A : Around} {l : Addr} {vs : List Value} {n k : Nat} {v : Value} {value slice : PySem.Expr} {i : Int} {t : Tok} (N : News H₀ L s.heap news) (hm : (l, listOf vs.toArray n) ∈ news) (hx : vs[k]? = some v) (hi : i = ((k : Nat) : Int)) (hk : k < 1000) (h : Q v s)
    (hs : subscripted slice false (.ref l) (.int i t) = operate [.ref l, .int i t] (getItem (.ref l) (.int i t))) :
    wpAny (model PG w) A (subscriptTail value slice (.ref l) (.int i t)) Q E s := by
  subst hi
  exact item_nat N hm hx hk h hs
theorem nd_next0 {expr : Bool} (G : Gd w H₀ mean mg mb) (F : Fr H₀ L s.heap m) (N : News H₀ L s.heap news) (hs : ∀ p ∈ fa, p ∈ news) (x : Nd H₀ T rows fa path u j) (hq : nextOf path j = none) (he : env.frame = some L) (hk : env.scope.kind = .function) (hd : dp + 5 < recursionLimit)
    (h : ∀ h' tk', Fr H₀ L h' m → News H₀ L h' news → Q .none { s with heap := h', toks := tk' }) : wpAny (model PG w) (Ar dp un [env]) (getAttr (.ref u.root) (Str.ofString "next_sibling") expr) Q E s :=
  nd_next_at G F N hs x he hk hd fun h' tk' => by rw [hq]; exact h h' tk'
theorem nd_next1 {expr : Bool} {k : Nat} {t : Tr} (G : Gd w H₀ mean mg mb) (F : Fr H₀ L s.heap m) (N : News H₀ L s.heap news) (hs : ∀ p ∈ fa, p ∈ news) (x : Nd H₀ T rows fa path u j) (hq : nextOf path j = some (k, t)) (he : env.frame = some L) (hk : env.scope.kind = .function) (hd : dp + 5 < recursionLimit)
    (h : ∀ h' tk', Fr H₀ L h' m → News H₀ L h' news → Q (.ref t.root) { s with heap := h', toks := tk' }) : wpAny (model PG w) (Ar dp un [env]) (getAttr (.ref u.root) (Str.ofString "next_sibling") expr) Q E s :=
  nd_next_at G F N hs x he hk hd fun h' tk' => by rw [hq]; exact h h' tk'
theorem nd_prev0 {expr : Bool} (G : Gd w H₀ mean mg mb) (F : Fr H₀ L s.heap m) (N : News H₀ L s.heap news) (hs : ∀ p ∈ fa, p ∈ news) (x : Nd H₀ T rows fa path u j) (hq : prevOf path j = none) (he : env.frame = some L) (hk : env.scope.kind = .function) (hd : dp + 5 < recursionLimit)
    (h : ∀ h' tk', Fr H₀ L h' m → News H₀ L h' news → Q .none { s with heap := h', toks := tk' }) : wpAny (model PG w) (Ar dp un [env]) (getAttr (.ref u.root) (Str.ofString "prev_sibling") expr) Q E s :=
  nd_prev_at G F N hs x he hk hd fun h' tk' => by rw [hq]; exact h h' tk'
theorem nd_prev1 {expr : Bool} {k : Nat} {t : Tr} (G : Gd w H₀ mean mg mb) (F : Fr H₀ L s.heap m) (N : News H₀ L s.heap news) (hs : ∀ p ∈ fa, p ∈ news) (x : Nd H₀ T rows fa path u j) (hq : prevOf path j = some (k, t)) (he : env.frame = some L) (hk : env.scope.kind = .function) (hd : dp + 5 < recursionLimit)
    (h : ∀ h' tk', Fr H₀ L h' m → News H₀ L h' news → Q (.ref t.root) { s with heap := h', toks := tk' }) : wpAny (model PG w) (Ar dp un [env]) (getAttr (.ref u.root) (Str.ofString "prev_sibling") expr) Q E s :=
  nd_prev_at G F N hs x he hk hd fun h' tk' => by rw [hq]; exact h h' tk'
theorem numV_none {o : Option Nat} {v : Value} (h : numV o v) (e : o = none) : v = .none := by
  rcases h with ⟨_, h⟩ | ⟨t, k, h, _⟩
  · exact h
  · rw [e] at h; cases h
theorem numV_some {o : Option Nat} {v : Value} {k : Nat} (h : numV o v) (e : o = some k) : ∃ t, v = .int ((k : Nat) : Int) t := by
  rcases h with ⟨h, _⟩ | ⟨t, k', h, h'⟩
  · rw [e] at h; cases h
  · rw [e] at h; cases h; exact ⟨t, h'⟩
theorem nd_endN {outer : List Env} {tk : Tok} {z : Int} (e : Bool) (hz : z = endInt e) (G : Gd w H₀ mean mg mb) (F : Fr H₀ L s.heap m) (N : News H₀ L s.heap news) (hs : ∀ p ∈ fa, p ∈ news) (x : Nd H₀ T rows fa path u j) (hE : u.endOf e j = none) (hd : dp + 10 < recursionLimit)
    (h : ∀ h' tk', Fr H₀ L h' m → News H₀ L h' news → Q .none { s with heap := h', toks := tk' }) : wpAny (model PG w) (Ar dp un outer) (call (.ref 347) [.ref u.root, .int z tk]) Q E s :=
  nd_end G F N hs x e hz hd fun v h' tk' hv F' N' => by rw [numV_none hv hE]; exact h h' tk' F' N'
theorem nd_endS {outer : List Env} {tk : Tok} {z : Int} {k : Nat} (e : Bool) (hz : z = endInt e) (G : Gd w H₀ mean mg mb) (F : Fr H₀ L s.heap m) (N : News H₀ L s.heap news) (hs : ∀ p ∈ fa, p ∈ news) (x : Nd H₀ T rows fa path u j) (hE : u.endOf e j = some k) (hd : dp + 10 < recursionLimit)
    (h : ∀ h' tk' t, Fr H₀ L h' m → News H₀ L h' news → Q (.int ((k : Nat) : Int) t) { s with heap := h', toks := tk' }) : wpAny (model PG w) (Ar dp un outer) (call (.ref 347) [.ref u.root, .int z tk]) Q E s :=
  nd_end G F N hs x e hz hd fun v h' tk' hv F' N' => by obtain ⟨t, rfl⟩ := numV_some hv hE; exact h h' tk' t F' N'
theorem nd_toldN {tk : Tok} {z : Int} (e : Bool) (hz : z = endInt e) (G : Gd w H₀ mean mg mb) (F : Fr H₀ L s.heap m) (N : News H₀ L s.heap news) (hs : ∀ p ∈ fa, p ∈ news) (x : Nd H₀ T rows fa path u j) (hE : u.endOf e j = none) (he : env.frame = some L) (hk : env.scope.kind = .function) (hd : dp + 20 < recursionLimit)
    (h : ∀ h' tk', Fr H₀ L h' m → News H₀ L h' news → Q .none { s with heap := h', toks := tk' }) : wpAny (model PG w) (Ar dp un [env]) (call (.ref 354) [.ref u.root, .int z tk]) Q E s :=
  nd_told G F N hs x he hk e hz hd fun v h' tk' hv F' N' => by rw [numV_none hv hE]; exact h h' tk' F' N'
theorem nd_toldS {tk : Tok} {z : Int} {k : Nat} (e : Bool) (hz : z = endInt e) (G : Gd w H₀ mean mg mb) (F : Fr H₀ L s.heap m) (N : News H₀ L s.heap news) (hs : ∀ p ∈ fa, p ∈ news) (x : Nd H₀ T rows fa path u j) (hE : u.endOf e j = some k) (he : env.frame = some L) (hk : env.scope.kind = .function) (hd : dp + 20 < recursionLimit)
    (h : ∀ h' tk' t, Fr H₀ L h' m → News H₀ L h' news → Q (.int ((k : Nat) : Int) t) { s with heap := h', toks := tk' }) : wpAny (model PG w) (Ar dp un [env]) (call (.ref 354) [.ref u.root, .int z tk]) Q E s :=
  nd_told G F N hs x he hk e hz hd fun v h' tk' hv F' N' => by obtain ⟨t, rfl⟩ := numV_some hv hE; exact h h' tk' t F' N'
theorem nd_lineno0 {outer : List Env} (G : Gd w H₀ mean mg mb) (F : Fr H₀ L s.heap m) (N : News H₀ L s.heap news) (hs : ∀ p ∈ fa, p ∈ news) (x : Nd H₀ T rows fa path u j) (hq : u.firstLine = none) (hd : dp + 10 < recursionLimit)
    (h : ∀ h' tk', Fr H₀ L h' m → News H₀ L h' news → Q .none { s with heap := h', toks := tk' }) : wpAny (model PG w) (Ar dp un outer) (call (.ref 78) [.ref u.root]) Q E s :=
  nd_lineno G F N hs x hd fun v h' tk' hv F' N' => by
    rcases hv with ⟨_, rfl⟩ | ⟨t, n, e, _⟩
    · exact h h' tk' F' N'
    · rw [hq] at e; cases e
theorem nd_lineno1 {outer : List Env} {line : Int} (G : Gd w H₀ mean mg mb) (F : Fr H₀ L s.heap m) (N : News H₀ L s.heap news) (hs : ∀ p ∈ fa, p ∈ news) (x : Nd H₀ T rows fa path u j) (hq : u.firstLine = some line) (hd : dp + 10 < recursionLimit)
    (h : ∀ h' tk' t, Fr H₀ L h' m → News H₀ L h' news → Q (.int line t) { s with heap := h', toks := tk' }) : wpAny (model PG w) (Ar dp un outer) (call (.ref 78) [.ref u.root]) Q E s :=
  nd_lineno G F N hs x hd fun v h' tk' hv F' N' => by
    rcases hv with ⟨e, _⟩ | ⟨t, n, e, rfl⟩
    · rw [hq] at e; cases e
    · rw [hq] at e; cases e; exact h h' tk' t F' N'
theorem nd_suffixV {p : Str} (G : Gd w H₀ mean mg mb) (F : Fr H₀ L s.heap m) (N : News H₀ L s.heap news) (hs : ∀ p ∈ fa, p ∈ news) (x : Nd H₀ T rows fa path u j) (hq : ((nextOf path j).map fun p => p.2.firstPre).getD (Str.ofString "") = p) (he : env.frame = some L) (hk : env.scope.kind = .function) (hd : dp + 20 < recursionLimit)
    (h : ∀ h' tk' t, Fr H₀ L h' m → News H₀ L h' news → Q (.str p t) { s with heap := h', toks := tk' }) : wpAny (model PG w) (Ar dp un [env]) (call (.ref 129) [.ref u.root]) Q E s := by
  subst hq
  exact nd_suffix G F N hs x he hk hd h
theorem nd_prefixS {expr : Bool} {outer : List Env} {y : Addr} {pre : Str} {line : Int} (G : Gd w H₀ mean mg mb) (F : Fr H₀ L s.heap m) (N : News H₀ L s.heap news) (hs : ∀ p ∈ fa, p ∈ news) (x : Nd H₀ T rows fa path (.leaf y pre line) j) (hd : dp + 10 < recursionLimit)
    (h : ∀ h' tk' t, Fr H₀ L h' m → News H₀ L h' news → s.heap.StaysIn h' → Q (.str pre t) { s with heap := h', toks := tk' }) : wpAny (model PG w) (Ar dp un outer) (getAttr (.ref y) (Str.ofString "prefix") expr) Q E s := by
  refine pre_attr G (.leaf y pre line) F.keep (x.at (has_of N hs)) (by simp only [Tr.height]; omega) Q E ?_
  rintro v h' tk' ⟨t, rfl⟩ st
  exact h h' tk' t (F.keeps st) (N.keepsAll st) st
end
def MineV (T : Tr) (j i : Nat) (y : Value) : Prop := ∃ q : Nat × Tr, q ∈ T.nodeL 0 ∧ q.1 = j + i ∧ y = Value.ref q.2.root
def TextV (u : Tr) (j i : Nat) (y : Value) : Prop := ∃ q t, (u.leaves j)[i]? = some q ∧ y = Value.str (leafText q) t
theorem join_cat : ∀ l : List Str, Str.join (Str.ofString "") l = catStr l
  | [] => rfl
  | [x] => by show x = x ++ Str.empty; rw [Str.append_empty]
  | x :: y :: r => by
    show x ++ Str.ofString "" ++ Str.join (Str.ofString "") (y :: r) = x ++ catStr (y :: r)
    rw [ofString_empty, Str.append_empty, ← ofString_empty, join_cat (y :: r)]
theorem cat_length : ∀ l : List Str, (l.map (·.length)).sum = (catStr l).length
  | [] => rfl
  | x :: r => by
    show x.length + (r.map (·.length)).sum = (x ++ catStr r).length
    rw [Str.length_append, cat_length r]
theorem texts_of : ∀ {l : List (Nat × Tr)} {zs : List Value}, All2 (fun q y => ∃ t, y = Value.str (leafText q) t) l zs → ∃ ss : List (Str × Tok), zs = strValues ss ∧ ss.map (·.1) = l.map leafText
  | [], _, .nil => ⟨[], rfl, rfl⟩
  | q :: l, _, .cons ⟨t, e⟩ r => by
    obtain ⟨ss, h1, h2⟩ := texts_of r
    exact ⟨(leafText q, t) :: ss, by rw [e, h1]; rfl, by rw [List.map_cons, h2, List.map_cons]⟩
theorem text_all {u : Tr} {j : Nat} : ∀ {l : List (Nat × Tr)} {i : Nat} {zs : List Value}, (∀ k, l[k]? = (u.leaves j)[i + k]?) → All2 (TextV u j) (List.range' i l.length) zs → All2 (fun q y => ∃ t, y = Value.str (leafText q) t) l zs
  | [], _, _, _, h => by cases h; exact .nil
  | q :: l, i, _, hl, h => by
    rw [List.length_cons, List.range'_succ] at h
    cases h with
    | cons h r =>
      obtain ⟨q', t, e1, e2⟩ := h
      have := hl 0
      rw [Nat.add_zero, e1] at this
      have e : q = q' := Option.some.inj this
      subst e
      exact .cons ⟨t, e2⟩ (text_all (i := i + 1) (fun k => by have := hl (k + 1); rw [show i + 1 + k = i + (k + 1) by omega, ← this]; rfl) r)
theorem join_text {prog : Program} {w : World} {A : Around} {E : Value → Shared → Prop} {s : Shared} {g : Heap} {L D : Addr} {news : List (Addr × Obj)} {Q : Value → Shared → Prop} {t : Tok} {u : Tr} {j : Nat} {zs : List Value} (N : News g L s.heap news) (hm : (D, LCg.lst zs) ∈ news)
    (hz : All2 (TextV u j) (List.range' 0 (u.leaves j).length) zs) (hs : u.Short) (hsz : u.size ≤ 40) (h : ∀ t' k, Q (.str (u.text j) t') { s with toks := k }) :
    wpAny (model prog w) A (call (.builtin "str.join") [.str (Str.ofString "") t, .ref D]) Q E s := by
  obtain ⟨ss, rfl, e⟩ := texts_of (text_all (i := 0) (fun k => by rw [Nat.zero_add]) hz)
  have et : catStr ((u.leaves j).map leafText) = u.text j := (u.text_eq j).symm
  have hl : (u.leaves j).length ≤ u.size := Nat.le_trans (List.length_filter_le ..) (by rw [u.nodeL_length]; omega)
  have ht := u.text_len j hs
  refine join_own ss N hm rfl ⟨_, rfl⟩ ?_ (by rw [e, join_cat, et]) h
  rw [e, cat_length, et, List.length_map]
  omega
section
local macro_rules | `(tactic| k_room) => `(tactic| ((try simp only [depth_under_make, depth_under_kw, depth_in1, depth_deeper]); (try dsimp only [Ar] at *); (simp only [recursionLimit] at *); omega))
local macro_rules | `(tactic| walk_at "mine:look") => `(tactic| first | with_reducible assumption | exact rfl | ((try dsimp only); (refine (if_neg (by decide)).trans ?_); walk_at "mine:look"))
local macro_rules | `(tactic| walk_at "eval Name") => `(tactic| (k_here; (with_reducible show wpAny _ _ (eval (Expr.Name _ _) (envOfC _ _ _ _ _)) _ _ _); k_dflt (refine' nameX_L ?k1 ?k2 ?_ ?k3 ?k4 ?k5; (case k1 => k_asm); (case k3 => rfl); (case k4 => rfl); (case k5 => decide); (case k2 => walk_at "mine:look"); k_whole)))
local macro_rules | `(tactic| walk_at "eval ListComp") => `(tactic| (k_here; (with_reducible show wpAny _ _ (eval (Expr.ListComp _ [⟨_, _, [], _⟩] _ _) _) _ _ _); k_dflt (refine LCg.ListComp_U (F₀ := by k_asm) (by with_unfolding_all rfl) (by decide) (by rfl) (by decide) (by rfl) ?_)))
local macro_rules | `(tactic| walk_at "eval ListComp") => `(tactic| (k_here; (with_reducible show wpAny _ _ (eval (Expr.ListComp _ [⟨_, _, [_], _⟩] _ _) _) _ _ _); k_dflt (refine LCt.ListComp_T (F₀ := by k_asm) (by with_unfolding_all rfl) (by decide) (by rfl) (by decide) (by rfl) ?_)))
local macro_rules | `(tactic| walk_at "mine:noComp") => `(tactic| ((fail_if_success (with_reducible show LCg.CompSrc _ _ _ _ _ _ _ _ _ _ _ _ _ _)); (fail_if_success (with_reducible show LCt.CompSrcT _ _ _ _ _ _ _ _ _ _ _ _ _ _ _))))
local macro_rules | `(tactic| walk_at "mine:to comp") => `(tactic| repeat' (first | (walk_at "mine:noComp"; k_unfold; (try dsimp only)) | (walk_at "mine:noComp"; walk1) | (walk_at "mine:noComp"; dsimp only; walk1) | fail "no step"))
local macro_rules | `(tactic| walk_at "compareOp NotEq ref ref") => `(tactic| (k_here; (with_reducible show wpAny _ _ (compareOp CmpOp.NotEq (Value.ref _) (Value.ref _)) _ _ _); k_dflt (refine' ne_same ?k1 ?k2 ?k3 ?k4 ?k5 ?k6 ?k7 ?_; (case k1 => k_asm); (case k2 => k_mem); (case k3 => k_mem); (case k4 => with_reducible assumption); (case k5 => with_reducible assumption); (case k6 => with_reducible rfl); (case k7 => (show _ + 64 < _; omega)); k_whole)))
local macro_rules | `(tactic| walk_at "call builtin:sorted") => `(tactic| (k_here; (with_reducible show wpAny _ _ (call (Value.builtin "sorted") [Value.ref _]) _ _ _); k_dflt (refine' sorted_own ?k1 ?k2 ?k3 ?k4 ?k5 ?k6 ?k7 ?_; (case k1 => k_asm); (case k2 => k_asm); (case k3 => k_mem); (case k4 => with_reducible assumption); (case k5 => with_reducible assumption); (case k6 => exact ints_range); (case k7 => (simp only [List.length_map]; omega)); k_whole); intro h' vs9 e9 F' N' hi9))
local macro_rules | `(tactic| walk_at "mine:sub") => `(tactic| (intro q9 hq9; repeat (first | exact hq9 | refine List.mem_cons_of_mem _ ?_)))
local macro_rules | `(tactic| walk_at "call builtin:isinstance") => `(tactic| (k_here; (with_reducible show wpAny _ _ (call _ [Value.ref (Tr.root _), Value.ref _]) _ _ _); k_dflt (refine' isi_led ?k1 ?k2 ?k0 ?ks ?k3 ?kc ?k4 ?k5 ?k6 ?k7 ?k8 ?k9 ?k10 ?_; (case k1 => k_asm); (case k2 => k_asm); (case k0 => k_asm); (case k3 => with_reducible assumption); (case kc => with_reducible assumption); (case ks => walk_at "mine:sub"); (case k4 => kit_is); (case k5 => k_is); (case k6 => k_is); (case k7 => k_is); (case k8 => k_is); (case k9 => k_is); (case k10 => k_is); k_whole); intro tk9))
local macro_rules | `(tactic| walk_at "subscriptTail") => `(tactic| (k_here; (with_reducible show wpAny _ _ (subscriptTail _ _ (Value.ref _) (Value.int (Nat.cast _) _)) _ _ _); k_dflt (refine' item_nat ?k1 ?k2 ?k3 ?k4 ?_ ?k6; (case k1 => k_asm); (case k2 => k_mem); (case k3 => with_reducible assumption); (case k4 => omega); (case k6 => with_unfolding_all rfl); k_whole)))
local macro_rules | `(tactic| walk_at "mine:noAC") => `(tactic| (fail_if_success (with_reducible show wpAny _ _ (exec (Stmt.Assign _ (Expr.ListComp _ _ _ _) _) _) _ _ _)))
local macro_rules | `(tactic| walk_at "mine:to ac") => `(tactic| repeat' (first | (walk_at "mine:noAC"; k_unfold; (try dsimp only)) | (walk_at "mine:noAC"; walk1) | (walk_at "mine:noAC"; dsimp only; walk1) | fail "no step"))
local macro_rules | `(tactic| walk_at "mine:acT") => `(tactic| (refine' LCt.Assign_ListComp_T ?hF ?hLe ?hsw ?hclos ?hcell ?hkind ?hnames ?hx ?hy ?hp ?h; (case hF => k_asm); (case hLe => rfl); (case hkind => rfl); (case hx => rfl); (case hy => rfl); (case hp => rfl); (case hcell => decide); (case hnames => decide); (case hsw => rfl); (case hclos => with_unfolding_all rfl)))
local macro_rules | `(tactic| walk_at "mine:acU") => `(tactic| (refine' LCg.Assign_ListComp_U ?hF ?hLe ?hsw ?hclos ?hcell ?hkind ?hnames ?hx ?hy ?hp ?h; (case hF => k_asm); (case hLe => rfl); (case hkind => rfl); (case hx => rfl); (case hy => rfl); (case hp => rfl); (case hcell => decide); (case hnames => decide); (case hsw => rfl); (case hclos => with_unfolding_all rfl)))
local macro_rules | `(tactic| walk_at "getAttr ref") => `(tactic| (k_here; (with_reducible show wpAny _ _ (getAttr (Value.ref (Tr.root _)) (PySem.Str.ofString "parent") _) _ _ _); k_dflt (first | (refine' nd_parent0 ?k1 ?k2 ?k3 ?k4 ?k5 ?k6 ?_; (case k1 => k_asm); (case k2 => k_asm); (case k3 => k_asm); (case k5 => with_reducible assumption); (case k6 => with_reducible assumption); (case k4 => walk_at "mine:sub"); k_whole) | (refine' nd_parent1 ?k1 ?k2 ?k3 ?k4 ?k5 ?k6 ?_; (case k1 => k_asm); (case k2 => k_asm); (case k3 => k_asm); (case k5 => with_reducible assumption); (case k6 => with_reducible assumption); (case k4 => walk_at "mine:sub"); k_whole)); intro tk9))
local macro_rules | `(tactic| walk_at "call ref") => `(tactic| (k_here; (show wpAny _ _ (call (Value.ref 340) [Value.ref (Tr.root _)]) _ _ _); k_dflt (refine' nd_number ?k1 ?k2 ?k3 ?k4 ?k5 ?k6 ?_; (case k1 => k_asm); (case k2 => k_asm); (case k3 => k_asm); (case k5 => with_reducible assumption); (case k4 => walk_at "mine:sub"); (case k6 => omega); k_whole); intro h' tk' t9 F' N'; (try k_sweep)))
local macro_rules | `(tactic| walk_at "call ref") => `(tactic| (k_here; (show wpAny _ _ (call (Value.ref 340) [Value.none]) _ _ _); k_dflt (refine' nd_number0 ?k1 ?k2 ?k3 ?k6 ?_; (case k1 => k_asm); (case k2 => k_asm); (case k3 => k_asm); (case k6 => omega); k_whole); intro h' tk' F' N'; (try k_sweep)))
local macro_rules | `(tactic| walk_at "subscriptTail") => `(tactic| (k_here; (with_reducible show wpAny _ _ (subscriptTail _ _ (Value.ref _) (Value.int (-1) _)) _ _ _); k_dflt (refine' item_lastN ?k1 ?k2 ?k3 ?_ ?k6; (case k1 => k_asm); (case k2 => k_mem); (case k3 => with_reducible assumption); (case k6 => with_unfolding_all rfl); k_whole)))
local macro_rules | `(tactic| walk_at "getMethod ref") => `(tactic| (k_here; (with_reducible show wpAny _ _ (getMethod (Value.ref (Tr.root _)) _ _) _ _ _); k_dflt (refine' nd_meth ?k1 ?k2 ?k3 ?k4 ?k5 ?k6 ?_; (case k1 => k_asm); (case k2 => k_asm); (case k3 => k_asm); (case k5 => with_reducible assumption); (case k4 => walk_at "mine:sub"); (case k6 => first | exact .inl ⟨rfl, rfl⟩ | exact .inr (.inl ⟨rfl, rfl⟩) | exact .inr (.inr ⟨rfl, rfl⟩)); k_whole)))
local macro_rules | `(tactic| walk_at "call ref") => `(tactic| (k_here; (show wpAny _ _ (call (Value.ref 122) [Value.ref (Tr.root _)]) _ _ _); k_dflt (refine' nd_depth ?k1 ?k2 ?k3 ?k4 ?k5 ?k6 ?_; (case k1 => k_asm); (case k2 => k_asm); (case k3 => k_asm); (case k5 => with_reducible assumption); (case k4 => walk_at "mine:sub"); (case k6 => omega); k_whole); intro h' tk' t9 F' N'; (try k_sweep)))
local macro_rules | `(tactic| walk_at "call builtin:list.index") => `(tactic| (k_here; (with_reducible show wpAny _ _ (call (Value.builtin "list.index") [Value.ref _, Value.int (Nat.cast _) _]) _ _ _); k_dflt (refine' index_own ?k1 ?k2 ?k3 ?k4 ?k5 ?k6 ?_; (case k1 => k_asm); (case k2 => k_mem); (case k3 => with_reducible assumption); (case k4 => with_reducible assumption); (case k5 => with_reducible assumption); (case k6 => omega); k_whole); intro t9 tk9))
local macro_rules | `(tactic| walk_at "compareOp In int ref") => `(tactic| (k_here; (with_reducible show wpAny _ _ (compareOp CmpOp.In (Value.int (Nat.cast _) _) (Value.ref _)) _ _ _); k_dflt (refine' in_own ?k1 ?k2 ?k3 ?_; (case k1 => k_asm); (case k2 => k_mem); (case k3 => with_reducible assumption); k_whole)))
local macro_rules | `(tactic| walk_at "getAttr ref") => `(tactic| (k_here; (with_reducible show wpAny _ _ (getAttr (Value.ref (Tr.root _)) (PySem.Str.ofString "next_sibling") _) _ _ _); k_dflt (first | (refine' nd_next0 ?k1 ?k2 ?k3 ?k4 ?k5 ?k6 ?k7 ?k8 ?k9 ?_; (case k1 => k_asm); (case k2 => k_asm); (case k3 => k_asm); (case k5 => with_reducible assumption); (case k6 => with_reducible assumption); (case k7 => rfl); (case k8 => rfl); (case k9 => omega); (case k4 => walk_at "mine:sub"); k_whole) | (refine' nd_next1 ?k1 ?k2 ?k3 ?k4 ?k5 ?k6 ?k7 ?k8 ?k9 ?_; (case k1 => k_asm); (case k2 => k_asm); (case k3 => k_asm); (case k5 => with_reducible assumption); (case k6 => with_reducible assumption); (case k7 => rfl); (case k8 => rfl); (case k9 => omega); (case k4 => walk_at "mine:sub"); k_whole)); intro h' tk' F' N'; (try k_sweep)))
local macro_rules | `(tactic| walk_at "getAttr ref") => `(tactic| (k_here; (with_reducible show wpAny _ _ (getAttr (Value.ref (Tr.root _)) (PySem.Str.ofString "prev_sibling") _) _ _ _); k_dflt (first | (refine' nd_prev0 ?k1 ?k2 ?k3 ?k4 ?k5 ?k6 ?k7 ?k8 ?k9 ?_; (case k1 => k_asm); (case k2 => k_asm); (case k3 => k_asm); (case k5 => with_reducible assumption); (case k6 => with_reducible assumption); (case k7 => rfl); (case k8 => rfl); (case k9 => omega); (case k4 => walk_at "mine:sub"); k_whole) | (refine' nd_prev1 ?k1 ?k2 ?k3 ?k4 ?k5 ?k6 ?k7 ?k8 ?k9 ?_; (case k1 => k_asm); (case k2 => k_asm); (case k3 => k_asm); (case k5 => with_reducible assumption); (case k6 => with_reducible assumption); (case k7 => rfl); (case k8 => rfl); (case k9 => omega); (case k4 => walk_at "mine:sub"); k_whole)); intro h' tk' F' N'; (try k_sweep)))
local macro_rules | `(tactic| walk_at "call ref") => `(tactic| (k_here; (show wpAny _ _ (call (Value.ref 347) [Value.ref (Tr.root _), Value.int _ _]) _ _ _); k_dflt (first | (refine' nd_endN false ?kz ?k1 ?k2 ?k3 ?k4 ?k5 ?k6 ?k7 ?_; (case kz => exact rfl); (case k1 => k_asm); (case k2 => k_asm); (case k3 => k_asm); (case k5 => with_reducible assumption); (case k6 => with_reducible assumption); (case k7 => omega); (case k4 => walk_at "mine:sub"); k_whole; intro h' tk' F' N') | (refine' nd_endS false ?kz ?k1 ?k2 ?k3 ?k4 ?k5 ?k6 ?k7 ?_; (case kz => exact rfl); (case k1 => k_asm); (case k2 => k_asm); (case k3 => k_asm); (case k5 => with_reducible assumption); (case k6 => with_reducible assumption); (case k7 => omega); (case k4 => walk_at "mine:sub"); k_whole; intro h' tk' t9 F' N') | (refine' nd_endN true ?kz ?k1 ?k2 ?k3 ?k4 ?k5 ?k6 ?k7 ?_; (case kz => exact rfl); (case k1 => k_asm); (case k2 => k_asm); (case k3 => k_asm); (case k5 => with_reducible assumption); (case k6 => with_reducible assumption); (case k7 => omega); (case k4 => walk_at "mine:sub"); k_whole; intro h' tk' F' N') | (refine' nd_endS true ?kz ?k1 ?k2 ?k3 ?k4 ?k5 ?k6 ?k7 ?_; (case kz => exact rfl); (case k1 => k_asm); (case k2 => k_asm); (case k3 => k_asm); (case k5 => with_reducible assumption); (case k6 => with_reducible assumption); (case k7 => omega); (case k4 => walk_at "mine:sub"); k_whole; intro h' tk' t9 F' N')); (try k_sweep)))
local macro_rules | `(tactic| walk_at "call ref") => `(tactic| (k_here; (show wpAny _ _ (call (Value.ref 354) [Value.ref (Tr.root _), Value.int _ _]) _ _ _); k_dflt (first | (refine' nd_toldN false ?kz ?k1 ?k2 ?k3 ?k4 ?k5 ?k6 ?k7 ?k8 ?k9 ?_; (case kz => exact rfl); (case k1 => k_asm); (case k2 => k_asm); (case k3 => k_asm); (case k5 => with_reducible assumption); (case k6 => with_reducible assumption); (case k7 => rfl); (case k8 => rfl); (case k9 => omega); (case k4 => walk_at "mine:sub"); k_whole; intro h' tk' F' N') | (refine' nd_toldS false ?kz ?k1 ?k2 ?k3 ?k4 ?k5 ?k6 ?k7 ?k8 ?k9 ?_; (case kz => exact rfl); (case k1 => k_asm); (case k2 => k_asm); (case k3 => k_asm); (case k5 => with_reducible assumption); (case k6 => with_reducible assumption); (case k7 => rfl); (case k8 => rfl); (case k9 => omega); (case k4 => walk_at "mine:sub"); k_whole; intro h' tk' t9 F' N') | (refine' nd_toldN true ?kz ?k1 ?k2 ?k3 ?k4 ?k5 ?k6 ?k7 ?k8 ?k9 ?_; (case kz => exact rfl); (case k1 => k_asm); (case k2 => k_asm); (case k3 => k_asm); (case k5 => with_reducible assumption); (case k6 => with_reducible assumption); (case k7 => rfl); (case k8 => rfl); (case k9 => omega); (case k4 => walk_at "mine:sub"); k_whole; intro h' tk' F' N') | (refine' nd_toldS true ?kz ?k1 ?k2 ?k3 ?k4 ?k5 ?k6 ?k7 ?k8 ?k9 ?_; (case kz => exact rfl); (case k1 => k_asm); (case k2 => k_asm); (case k3 => k_asm); (case k5 => with_reducible assumption); (case k6 => with_reducible assumption); (case k7 => rfl); (case k8 => rfl); (case k9 => omega); (case k4 => walk_at "mine:sub"); k_whole; intro h' tk' t9 F' N')); (try k_sweep)))
local macro_rules | `(tactic| walk_at "call ref") => `(tactic| (k_here; (show wpAny _ _ (call (Value.ref 78) [Value.ref (Tr.root _)]) _ _ _); k_dflt (first | (refine' nd_lineno0 ?k1 ?k2 ?k3 ?k4 ?k5 ?k6 ?k7 ?_; (case k1 => k_asm); (case k2 => k_asm); (case k3 => k_asm); (case k5 => with_reducible assumption); (case k6 => with_reducible assumption); (case k7 => omega); (case k4 => walk_at "mine:sub"); k_whole; intro h' tk' F' N') | (refine' nd_lineno1 ?k1 ?k2 ?k3 ?k4 ?k5 ?k6 ?k7 ?_; (case k1 => k_asm); (case k2 => k_asm); (case k3 => k_asm); (case k5 => with_reducible assumption); (case k6 => with_reducible assumption); (case k7 => omega); (case k4 => walk_at "mine:sub"); k_whole; intro h' tk' t9 F' N')); (try k_sweep)))
local macro_rules | `(tactic| walk_at "call ref") => `(tactic| (k_here; (show wpAny _ _ (call (Value.ref 129) [Value.ref (Tr.root _)]) _ _ _); k_dflt (refine' nd_suffixV ?k1 ?k2 ?k3 ?k4 ?k5 ?k6 ?k7 ?k8 ?k9 ?_; (case k1 => k_asm); (case k2 => k_asm); (case k3 => k_asm); (case k5 => with_reducible assumption); (case k6 => with_reducible assumption); (case k7 => rfl); (case k8 => rfl); (case k9 => omega); (case k4 => walk_at "mine:sub"); k_whole); intro h' tk' t9 F' N'; (try k_sweep)))
local macro_rules | `(tactic| walk_at "call type:str") => `(tactic| (k_here; (with_reducible show wpAny _ _ (call (Value.type "str") [Value.ref (Tr.root _)]) _ _ _); k_dflt (refine' nd_str ?k1 ?k2 ?k3 ?k4 ?k5 ?k6 ?k7 ?_; (case k1 => k_asm); (case k2 => k_asm); (case k3 => k_asm); (case k5 => with_reducible assumption); (case k6 => omega); (case k7 => omega); (case k4 => walk_at "mine:sub"); k_whole); intro h' tk' t9 F' N'; (try k_sweep)))
local macro_rules | `(tactic| walk_at "getAttr ref") => `(tactic| (k_here; (with_reducible show wpAny _ _ (getAttr (Value.ref _) (PySem.Str.ofString "value") _) _ _ _); k_dflt (refine' nd_value ?k1 ?k2 ?k3 ?k4 ?k5 ?_; (case k1 => k_asm); (case k2 => k_asm); (case k3 => k_asm); (case k5 => with_reducible assumption); (case k4 => walk_at "mine:sub"); k_whole); intro tk9 t9))
local macro_rules | `(tactic| walk_at "getAttr ref") => `(tactic| (k_here; (with_reducible show wpAny _ _ (getAttr (Value.ref _) (PySem.Str.ofString "lineno") _) _ _ _); k_dflt (refine' nd_line ?k1 ?k2 ?k3 ?k4 ?k5 ?_; (case k1 => k_asm); (case k2 => k_asm); (case k3 => k_asm); (case k5 => with_reducible assumption); (case k4 => walk_at "mine:sub"); k_whole); intro tk9 t9))
set_option hygiene false in
local macro_rules | `(tactic| walk_at "getAttr ref") => `(tactic| (k_here; (with_reducible show wpAny _ _ (getAttr (Value.ref _) (PySem.Str.ofString "prefix") _) _ _ _); k_dflt (refine' nd_prefixS ?k1 ?k2 ?k3 ?k4 ?k5 ?k6 ?_; (case k1 => k_asm); (case k2 => k_asm); (case k3 => k_asm); (case k5 => with_reducible assumption); (case k6 => omega); (case k4 => walk_at "mine:sub"); k_whole); intro h' tk' t9 F' N' st9; (try k_sweep)))
local macro_rules | `(tactic| walk_at "subscriptTail") => `(tactic| (k_here; (with_reducible show wpAny _ _ (subscriptTail _ _ (Value.ref _) (Value.int _ _)) _ _ _); k_dflt (refine' item_int ?k1 ?k2 ?k3 ?k4 ?k5 ?_ ?k6; (case k1 => k_asm); (case k2 => k_mem); (case k3 => with_reducible assumption); (case k4 => omega); (case k5 => omega); (case k6 => with_unfolding_all rfl); k_whole)))
local macro_rules | `(tactic| walk_at "call builtin:str.join") => `(tactic| (k_here; (with_reducible show wpAny _ _ (call (Value.builtin "str.join") [Value.str _ _, Value.ref _]) _ _ _); k_dflt (refine' join_text ?k1 ?k2 ?k3 ?k4 ?k5 ?_; (case k1 => k_asm); (case k2 => k_mem); (case k3 => with_reducible assumption); (case k4 => with_reducible assumption); (case k5 => with_reducible assumption); k_whole); intro t9 tk9))
section
variable {w : World} {H₀ : Heap} {mean : ExcName → Option Value} {mg mb : Str → Option Value}
theorem round_over : ∃ body scope cdv, LawFn w body scope cdv ∧ ∀ {s : Shared} (G : Gd w H₀ mean mg mb) {L : Addr} {V N Dp Df Db Dl I : Addr} {rows zs zs2 zl zp : List Value} {T : Tr} {nV nN n n2 nl np : Nat} {o1 o2 o3 o4 o5 oI : Obj} {fa : List (Addr × Obj)} {m : Str → Option Value}  (F : Fr H₀ L s.heap m)
    (W : News H₀ L s.heap ((I, oI) :: loopLed Dp Dl Db Df zp zl zs2 zs np nl n2 n L V N rows T nV nN o1 o2 o3 o4 o5 fa)) (C : LoopC H₀ T rows zp zl zs2 zs fa Dp Dl Db Df N o1 o2 o4 o5)
    {j : Nat} {t : Tok} {u : Tr} {path : List (Nat × Tr)} (nd : Nd H₀ T rows fa path u j) (d3 : o3.data = .cell (some (.int ((j : Nat) : Int) t))) 
    {dp un : Nat} (hd : dp + 60 < recursionLimit) (hun : un + 200 < cLine) {Q : Flow → Shared → Prop}
    (hQ : ∀ h' tk' D zo no, Fr H₀ L h' (fun z => if z = Str.ofString "over" then some (.ref D) else if z = Str.ofString "one" then some (.ref u.root) else m z) → News H₀ L h' ((D, listOf zo.toArray no) :: (I, oI) :: loopLed Dp Dl Db Df zp zl zs2 zs np nl n2 n L V N rows T nV nN o1 o2 o3 o4 o5 fa) → All2 (fun k y => ∃ t, y = Value.int (k : Nat) t) (path.map (·.1)) zo → Q .next { s with heap := h', toks := tk' }),
    wpAny (model PG w) (Ar dp un [envOfC "law" scope L 359 cdv]) (execs (rnd body 0 2) (envOfC "law" scope L 359 cdv)) Q (fun _ _ => False) s := by
  refine' ⟨_, _, _, LawFn.ex ?k5 ?k6 ?k7, ?walk⟩
  case k5 => k_is
  case k6 => k_is
  case k7 => intro s v; exact BindsTo.of_eq rfl
  case walk =>
    intro s G L V N Dp Df Db Dl I rows zs zs2 zl zp T nV nN n n2 nl np o1 o2 o3 o4 o5 oI fa m F W C j t u path nd d3 dp un hd hun Q hQ
    dsimp only [rnd, forBody, List.getD, List.getElem?_cons_zero, List.getElem?_cons_succ, Option.getD_some, List.drop, List.take]
    have Xg : (Mine.hd.heap_39 w.params).In H₀ := G.X
    have Tg := G.T
    dsimp only [loopLed, lawLed] at W
    have hit := nd.ln.item
    have d1 := C.d1
    have d2 := C.d2
    have d5 := C.d5
    obtain ⟨_, hpl3, _, hsz, husz, hj⟩ := nd.small
    obtain ⟨tj, hpj⟩ := range_item C.hzp hj
    walk_at "mine:to ac"
    walk_at "mine:acT"
    walk_at "mine:to comp"
    rename_i hr9 F9 W9 _
    refine compSrcT_range (n := j) (fun i y => ∃ t, y = .int (Int.ofNat i) t) (fun i => decide ((T.postN 0).idxOf i > (T.postN 0).idxOf j)) rfl F9 W9 hr9 (by omega) (fun i tv I2 oI2 C2 oC D m₂ h tk ys E' hi hC hx hF hN => ?_) (fun i tv I2 oI2 C2 oC D m₂ h tk ys E' hi hp hC hx hF hN => ?_) (fun g9 zs9 hz9 => ?_)
    · obtain ⟨ti, hpi⟩ := range_item C.hzp (j := i) (by omega)
      clear F9 W9 hr9
      k_steps
      · exact decide_eq_decide.mpr (by omega)
      · exact ⟨_, _, rfl, fun _ _ e => e⟩
    · exact LCgL.ld_own hN (by k_mem) hC hx ⟨⟨_, rfl⟩, _, _, rfl, fun _ _ e => e⟩
    rw [← List.range_eq_range', nd.occ.over] at hz9
    unfold LCg.FinA
    intro D h' tk' F' N' off
    exact wpAny_pure (hQ _ _ _ _ _ F' N' hz9)
end
section
variable {w : World} {H₀ : Heap} {mean : ExcName → Option Value} {mg mb : Str → Option Value}
theorem round_par : ∃ body scope cdv, LawFn w body scope cdv ∧ ∀ {s : Shared} (G : Gd w H₀ mean mg mb) {L : Addr} {V N Dp Df Db Dl I : Addr} {rows zs zs2 zl zp : List Value} {T : Tr} {nV nN n n2 nl np : Nat} {o1 o2 o3 o4 o5 oI : Obj} {fa : List (Addr × Obj)} {m : Str → Option Value} {D : Addr} {zo : List Value} {no : Nat} (F : Fr H₀ L s.heap m)
    (W : News H₀ L s.heap ((D, listOf zo.toArray no) :: (I, oI) :: loopLed Dp Dl Db Df zp zl zs2 zs np nl n2 n L V N rows T nV nN o1 o2 o3 o4 o5 fa)) (C : LoopC H₀ T rows zp zl zs2 zs fa Dp Dl Db Df N o1 o2 o4 o5)
    {j : Nat} {t : Tok} {u : Tr} {path : List (Nat × Tr)} (nd : Nd H₀ T rows fa path u j) (d3 : o3.data = .cell (some (.int ((j : Nat) : Int) t))) (hone : m (Str.ofString "one") = some (.ref u.root)) (hover : m (Str.ofString "over") = some (.ref D)) (habove : m (Str.ofString "above") = some (.ref V)) (hzo : All2 (fun k y => ∃ t, y = Value.int (k : Nat) t) (path.map (·.1)) zo)
    {dp un : Nat} (hd : dp + 60 < recursionLimit) (hun : un + 200 < cLine) {Q : Flow → Shared → Prop}
    (hQ : ∀ h' tk', Fr H₀ L h' m → News H₀ L h' ((D, listOf zo.toArray no) :: (I, oI) :: loopLed Dp Dl Db Df zp zl zs2 zs np nl n2 n L V N rows T nV nN o1 o2 o3 o4 o5 fa) → Q .next { s with heap := h', toks := tk' }),
    wpAny (model PG w) (Ar dp un [envOfC "law" scope L 359 cdv]) (execs (rnd body 2 1) (envOfC "law" scope L 359 cdv)) Q (fun _ _ => False) s := by
  refine' ⟨_, _, _, LawFn.ex ?k5 ?k6 ?k7, ?walk⟩
  case k5 => k_is
  case k6 => k_is
  case k7 => intro s v; exact BindsTo.of_eq rfl
  case walk =>
    intro s G L V N Dp Df Db Dl I rows zs zs2 zl zp T nV nN n n2 nl np o1 o2 o3 o4 o5 oI fa m D zo no F W C j t u path nd d3 hone hover habove hzo dp un hd hun Q hQ
    dsimp only [rnd, forBody, List.getD, List.getElem?_cons_zero, List.getElem?_cons_succ, Option.getD_some, List.drop, List.take]
    have Xg : (Mine.hd.heap_39 w.params).In H₀ := G.X
    have Tg := G.T
    dsimp only [loopLed, lawLed] at W
    have hit := nd.ln.item
    have d1 := C.d1
    have d2 := C.d2
    have d5 := C.d5
    obtain ⟨_, hpl3, _, hsz, husz, hj⟩ := nd.small
    have hzl := hzo.length
    rw [List.length_map] at hzl
    obtain ⟨R, Cl, nR, nC, pv, csv, hR, W', hpv, hcs⟩ := row_led F W (fa := fa) (by walk_at "mine:sub") nd
    clear W
    cases hq : lastOf path with
    | none =>
      rw [hq] at hpv
      have hpv : pv = .none := hpv
      subst hpv
      have hl0 : path.length = 0 := by rw [lastOf_none hq]; rfl
      rw [hl0] at hzl
      k_steps
      all_goals exact hQ _ _ (by k_asm) (news_sub (by k_asm) fun p hp => .tail _ (.tail _ hp))
    | some p =>
      obtain ⟨kp, P⟩ := p
      rw [hq] at hpv
      obtain ⟨tp, hpv⟩ : ∃ tp, pv = .int ((kp : Nat) : Int) tp := hpv
      subst hpv
      obtain ⟨q, ndP, hkid, hpath⟩ := nd.par hq
      have hl1 : 1 ≤ path.length := by rw [hpath]; simp
      obtain ⟨z, hz1, tz, hz2⟩ := hzo.last (lastOf_map hq)
      subst hz2
      k_steps
      all_goals first | exact hQ _ _ (by k_asm) (news_sub (by k_asm) fun p hp => .tail _ (.tail _ hp)) | (rename (_ ≠ _) => hx9; exact absurd rfl hx9)
end
section
variable {w : World} {H₀ : Heap} {mean : ExcName → Option Value} {mg mb : Str → Option Value}
theorem round_depth : ∃ body scope cdv, LawFn w body scope cdv ∧ ∀ {s : Shared} (G : Gd w H₀ mean mg mb) {L : Addr} {V N Dp Df Db Dl I : Addr} {rows zs zs2 zl zp : List Value} {T : Tr} {nV nN n n2 nl np : Nat} {o1 o2 o3 o4 o5 oI : Obj} {fa : List (Addr × Obj)} {m : Str → Option Value} {D : Addr} {zo : List Value} {no : Nat} (F : Fr H₀ L s.heap m)
    (W : News H₀ L s.heap ((D, listOf zo.toArray no) :: (I, oI) :: loopLed Dp Dl Db Df zp zl zs2 zs np nl n2 n L V N rows T nV nN o1 o2 o3 o4 o5 fa)) (C : LoopC H₀ T rows zp zl zs2 zs fa Dp Dl Db Df N o1 o2 o4 o5)
    {j : Nat} {t : Tok} {u : Tr} {path : List (Nat × Tr)} (nd : Nd H₀ T rows fa path u j) (d3 : o3.data = .cell (some (.int ((j : Nat) : Int) t))) (hone : m (Str.ofString "one") = some (.ref u.root)) (hover : m (Str.ofString "over") = some (.ref D)) (hzo : All2 (fun k y => ∃ t, y = Value.int (k : Nat) t) (path.map (·.1)) zo)
    {dp un : Nat} (hd : dp + 60 < recursionLimit) (hun : un + 200 < cLine) {Q : Flow → Shared → Prop}
    (hQ : ∀ h' tk', Fr H₀ L h' m → News H₀ L h' ((D, listOf zo.toArray no) :: (I, oI) :: loopLed Dp Dl Db Df zp zl zs2 zs np nl n2 n L V N rows T nV nN o1 o2 o3 o4 o5 fa) → Q .next { s with heap := h', toks := tk' }),
    wpAny (model PG w) (Ar dp un [envOfC "law" scope L 359 cdv]) (execs (rnd body 3 1) (envOfC "law" scope L 359 cdv)) Q (fun _ _ => False) s := by
  refine' ⟨_, _, _, LawFn.ex ?k5 ?k6 ?k7, ?walk⟩
  case k5 => k_is
  case k6 => k_is
  case k7 => intro s v; exact BindsTo.of_eq rfl
  case walk =>
    intro s G L V N Dp Df Db Dl I rows zs zs2 zl zp T nV nN n n2 nl np o1 o2 o3 o4 o5 oI fa m D zo no F W C j t u path nd d3 hone hover hzo dp un hd hun Q hQ
    dsimp only [rnd, forBody, List.getD, List.getElem?_cons_zero, List.getElem?_cons_succ, Option.getD_some, List.drop, List.take]
    have Xg : (Mine.hd.heap_39 w.params).In H₀ := G.X
    have Tg := G.T
    dsimp only [loopLed, lawLed] at W
    have hit := nd.ln.item
    have d1 := C.d1
    have d2 := C.d2
    have d5 := C.d5
    obtain ⟨_, hpl3, _, hsz, husz, hj⟩ := nd.small
    have hzl := hzo.length
    rw [List.length_map] at hzl
    k_steps
    all_goals first | exact hQ _ _ (by k_asm) (by k_asm) | (rename (_ ≠ _) => hx9; exact absurd rfl hx9)
end
section
variable {w : World} {H₀ : Heap} {mean : ExcName → Option Value} {mg mb : Str → Option Value}
theorem round_row : ∃ body scope cdv, LawFn w body scope cdv ∧ ∀ {s : Shared} (G : Gd w H₀ mean mg mb) {L : Addr} {V N Dp Df Db Dl I : Addr} {rows zs zs2 zl zp : List Value} {T : Tr} {nV nN n n2 nl np : Nat} {o1 o2 o3 o4 o5 oI : Obj} {fa : List (Addr × Obj)} {m : Str → Option Value} {D : Addr} {zo : List Value} {no : Nat} (F : Fr H₀ L s.heap m)
    (W : News H₀ L s.heap ((D, listOf zo.toArray no) :: (I, oI) :: loopLed Dp Dl Db Df zp zl zs2 zs np nl n2 n L V N rows T nV nN o1 o2 o3 o4 o5 fa)) (C : LoopC H₀ T rows zp zl zs2 zs fa Dp Dl Db Df N o1 o2 o4 o5)
    {j : Nat} {t : Tok} {u : Tr} {path : List (Nat × Tr)} (nd : Nd H₀ T rows fa path u j) (d3 : o3.data = .cell (some (.int ((j : Nat) : Int) t))) (hone : m (Str.ofString "one") = some (.ref u.root)) (hover : m (Str.ofString "over") = some (.ref D)) (habove : m (Str.ofString "above") = some (.ref V)) (hzo : All2 (fun k y => ∃ t, y = Value.int (k : Nat) t) (path.map (·.1)) zo)
    {dp un : Nat} (hd : dp + 60 < recursionLimit) (hun : un + 200 < cLine) {Q : Flow → Shared → Prop}
    (hQ : ∀ h' tk' R rv nr, Fr H₀ L h' (fun z => if z = Str.ofString "row" then some (.ref R) else m z) → News H₀ L h' ((R, listOf (List.toArray rv) nr) :: (I, oI) :: loopLed Dp Dl Db Df zp zl zs2 zs np nl n2 n L V N rows T nV nN o1 o2 o3 o4 o5 fa) → IntsAre rv ((rowN path).map Int.ofNat) → Q .next { s with heap := h', toks := tk' }),
    wpAny (model PG w) (Ar dp un [envOfC "law" scope L 359 cdv]) (execs (rnd body 4 1) (envOfC "law" scope L 359 cdv)) Q (fun _ _ => False) s := by
  refine' ⟨_, _, _, LawFn.ex ?k5 ?k6 ?k7, ?walk⟩
  case k5 => k_is
  case k6 => k_is
  case k7 => intro s v; exact BindsTo.of_eq rfl
  case walk =>
    intro s G L V N Dp Df Db Dl I rows zs zs2 zl zp T nV nN n n2 nl np o1 o2 o3 o4 o5 oI fa m D zo no F W C j t u path nd d3 hone hover habove hzo dp un hd hun Q hQ
    dsimp only [rnd, forBody, List.getD, List.getElem?_cons_zero, List.getElem?_cons_succ, Option.getD_some, List.drop, List.take]
    have Xg : (Mine.hd.heap_39 w.params).In H₀ := G.X
    have Tg := G.T
    dsimp only [loopLed, lawLed] at W
    have hit := nd.ln.item
    have d1 := C.d1
    have d2 := C.d2
    have d5 := C.d5
    obtain ⟨_, hpl3, _, hsz, husz, hj⟩ := nd.small
    have hzl := hzo.length
    rw [List.length_map] at hzl
    cases hq : lastOf path with
    | none =>
      have hl0 : path.length = 0 := by rw [lastOf_none hq]; rfl
      have hj0 : j = 0 := nd.root_num hq
      rw [hl0] at hzl
      unfold rowN at hQ
      rw [hq] at hQ
      k_steps
      all_goals exact hQ _ _ _ [Value.int (j : Nat) t] _ (by k_asm) (news_sub (by k_asm) fun p hp => by
        rcases List.mem_cons.mp hp with rfl | hp
        · exact .head _
        · exact .tail _ (.tail _ hp)) (by rw [hj0]; exact .cons _ _ .nil)
    | some p =>
      obtain ⟨kp, P⟩ := p
      obtain ⟨q, ndP, hkid, hpath⟩ := nd.par hq
      obtain ⟨R, Cl, nR, nC, pv, csv, hR, W', hpv, hcs⟩ := row_led F W (fa := fa) (by walk_at "mine:sub") ndP
      clear W
      have hl1 : 1 ≤ path.length := by rw [hpath]; simp
      obtain ⟨z, hz1, tz, hz2⟩ := hzo.last (lastOf_map hq)
      subst hz2
      unfold rowN at hQ
      rw [hq] at hQ
      have hkpj := ndP.small.2.2.2.2.2
      k_steps
      all_goals first | exact hQ _ _ _ csv _ (by k_asm) (news_sub (by k_asm) fun p hp => by
        rcases List.mem_cons.mp hp with rfl | hp
        · exact .tail _ (.head _)
        · exact .tail _ (.tail _ (.tail _ hp))) hcs | (exfalso; clear hQ; omega)
end
section
variable {w : World} {H₀ : Heap} {mean : ExcName → Option Value} {mg mb : Str → Option Value}
theorem round_place : ∃ body scope cdv, LawFn w body scope cdv ∧ ∀ {s : Shared} (G : Gd w H₀ mean mg mb) {L : Addr} {V N Dp Df Db Dl I : Addr} {rows zs zs2 zl zp : List Value} {T : Tr} {nV nN n n2 nl np : Nat} {o1 o2 o3 o4 o5 oI : Obj} {fa : List (Addr × Obj)} {m : Str → Option Value} {R : Addr} {rv : List Value} {nr : Nat} (F : Fr H₀ L s.heap m)
    (W : News H₀ L s.heap ((R, listOf (List.toArray rv) nr) :: (I, oI) :: loopLed Dp Dl Db Df zp zl zs2 zs np nl n2 n L V N rows T nV nN o1 o2 o3 o4 o5 fa)) (C : LoopC H₀ T rows zp zl zs2 zs fa Dp Dl Db Df N o1 o2 o4 o5)
    {j : Nat} {t : Tok} {u : Tr} {path : List (Nat × Tr)} (nd : Nd H₀ T rows fa path u j) (d3 : o3.data = .cell (some (.int ((j : Nat) : Int) t))) (hi : IntsAre rv ((rowN path).map Int.ofNat)) (hrow : m (Str.ofString "row") = some (.ref R))
    {dp un : Nat} (hd : dp + 60 < recursionLimit) (hun : un + 200 < cLine) {Q : Flow → Shared → Prop}
    (hQ : ∀ h' tk' tp, Fr H₀ L h' (fun z => if z = Str.ofString "place" then some (.int (((rowN path).idxOf j : Nat) : Int) tp) else m z) → News H₀ L h' ((R, listOf (List.toArray rv) nr) :: (I, oI) :: loopLed Dp Dl Db Df zp zl zs2 zs np nl n2 n L V N rows T nV nN o1 o2 o3 o4 o5 fa) → Q .next { s with heap := h', toks := tk' }),
    wpAny (model PG w) (Ar dp un [envOfC "law" scope L 359 cdv]) (execs (rnd body 5 1) (envOfC "law" scope L 359 cdv)) Q (fun _ _ => False) s := by
  refine' ⟨_, _, _, LawFn.ex ?k5 ?k6 ?k7, ?walk⟩
  case k5 => k_is
  case k6 => k_is
  case k7 => intro s v; exact BindsTo.of_eq rfl
  case walk =>
    intro s G L V N Dp Df Db Dl I rows zs zs2 zl zp T nV nN n n2 nl np o1 o2 o3 o4 o5 oI fa m R rv nr F W C j t u path nd d3 hi hrow dp un hd hun Q hQ
    dsimp only [rnd, forBody, List.getD, List.getElem?_cons_zero, List.getElem?_cons_succ, Option.getD_some, List.drop, List.take]
    have Xg : (Mine.hd.heap_39 w.params).In H₀ := G.X
    have Tg := G.T
    dsimp only [loopLed, lawLed] at W
    have hit := nd.ln.item
    have d1 := C.d1
    have d2 := C.d2
    have d5 := C.d5
    obtain ⟨_, hpl3, _, hsz, husz, hj⟩ := nd.small
    have hrl : rv.length = (rowN path).length := by have := hi.length; rw [List.length_map] at this; exact this
    obtain ⟨hmem, hlen3, hb, hnx, hpv⟩ := nd.row
    k_steps
    all_goals exact hQ _ _ _ (by k_asm) (by k_asm)
end
section
variable {w : World} {H₀ : Heap} {mean : ExcName → Option Value} {mg mb : Str → Option Value}
theorem round_later : ∃ body scope cdv, LawFn w body scope cdv ∧ ∀ {s : Shared} (G : Gd w H₀ mean mg mb) {L : Addr} {V N Dp Df Db Dl I : Addr} {rows zs zs2 zl zp : List Value} {T : Tr} {nV nN n n2 nl np : Nat} {o1 o2 o3 o4 o5 oI : Obj} {fa : List (Addr × Obj)} {m : Str → Option Value} {R : Addr} {rv : List Value} {nr : Nat} (F : Fr H₀ L s.heap m)
    (W : News H₀ L s.heap ((R, listOf (List.toArray rv) nr) :: (I, oI) :: loopLed Dp Dl Db Df zp zl zs2 zs np nl n2 n L V N rows T nV nN o1 o2 o3 o4 o5 fa)) (C : LoopC H₀ T rows zp zl zs2 zs fa Dp Dl Db Df N o1 o2 o4 o5)
    {j : Nat} {t : Tok} {u : Tr} {path : List (Nat × Tr)} (nd : Nd H₀ T rows fa path u j) (d3 : o3.data = .cell (some (.int ((j : Nat) : Int) t))) (hi : IntsAre rv ((rowN path).map Int.ofNat)) (hrow : m (Str.ofString "row") = some (.ref R)) {tp : Tok} (hplace : m (Str.ofString "place") = some (.int (((rowN path).idxOf j : Nat) : Int) tp))
    {dp un : Nat} (hd : dp + 60 < recursionLimit) (hun : un + 200 < cLine) {Q : Flow → Shared → Prop}
    (hQ : ∀ h' tk' lv, Fr H₀ L h' (fun z => if z = Str.ofString "later" then some lv else m z) → News H₀ L h' ((R, listOf (List.toArray rv) nr) :: (I, oI) :: loopLed Dp Dl Db Df zp zl zs2 zs np nl n2 n L V N rows T nV nN o1 o2 o3 o4 o5 fa) → numV ((nextOf path j).map (·.1)) lv → Q .next { s with heap := h', toks := tk' }),
    wpAny (model PG w) (Ar dp un [envOfC "law" scope L 359 cdv]) (execs (rnd body 6 1) (envOfC "law" scope L 359 cdv)) Q (fun _ _ => False) s := by
  refine' ⟨_, _, _, LawFn.ex ?k5 ?k6 ?k7, ?walk⟩
  case k5 => k_is
  case k6 => k_is
  case k7 => intro s v; exact BindsTo.of_eq rfl
  case walk =>
    intro s G L V N Dp Df Db Dl I rows zs zs2 zl zp T nV nN n n2 nl np o1 o2 o3 o4 o5 oI fa m R rv nr F W C j t u path nd d3 hi hrow tp hplace dp un hd hun Q hQ
    dsimp only [rnd, forBody, List.getD, List.getElem?_cons_zero, List.getElem?_cons_succ, Option.getD_some, List.drop, List.take]
    have Xg : (Mine.hd.heap_39 w.params).In H₀ := G.X
    have Tg := G.T
    dsimp only [loopLed, lawLed] at W
    have hit := nd.ln.item
    have d1 := C.d1
    have d2 := C.d2
    have d5 := C.d5
    obtain ⟨_, hpl3, _, hsz, husz, hj⟩ := nd.small
    have hrl : rv.length = (rowN path).length := by have := hi.length; rw [List.length_map] at this; exact this
    obtain ⟨hmem, hlen3, hb, hnx, hpv⟩ := nd.row
    clear hpv hb d1 d2 d3 d5 hit
    cases hq : nextOf path j with
    | none =>
      rw [hq] at hnx
      have hge := List.getElem?_eq_none_iff.mp hnx
      clear hnx hmem
      k_steps
      all_goals exact hQ _ _ _ (by k_asm) (by k_asm) (.inl ⟨by rw [hq]; rfl, rfl⟩)
    | some p =>
      obtain ⟨k, tt⟩ := p
      rw [hq] at hnx
      have hnx : (rowN path)[(rowN path).idxOf j + 1]? = some k := hnx
      obtain ⟨hlt, _⟩ := List.getElem?_eq_some_iff.mp hnx
      have hget := getD_at hnx (z := (((rowN path).idxOf j : Nat) : Int) + 1) (by omega)
      clear hnx hmem
      k_steps
      all_goals (
        refine' hQ _ _ _ ?kf ?kn ?kv
        case kf => k_asm
        case kn => k_asm
        case kv => exact .inr ⟨_, k, by rw [hq]; rfl, congrArg (fun z => Value.int z _) hget⟩)
end
section
variable {w : World} {H₀ : Heap} {mean : ExcName → Option Value} {mg mb : Str → Option Value}
theorem round_sooner : ∃ body scope cdv, LawFn w body scope cdv ∧ ∀ {s : Shared} (G : Gd w H₀ mean mg mb) {L : Addr} {V N Dp Df Db Dl I : Addr} {rows zs zs2 zl zp : List Value} {T : Tr} {nV nN n n2 nl np : Nat} {o1 o2 o3 o4 o5 oI : Obj} {fa : List (Addr × Obj)} {m : Str → Option Value} {R : Addr} {rv : List Value} {nr : Nat} (F : Fr H₀ L s.heap m)
    (W : News H₀ L s.heap ((R, listOf (List.toArray rv) nr) :: (I, oI) :: loopLed Dp Dl Db Df zp zl zs2 zs np nl n2 n L V N rows T nV nN o1 o2 o3 o4 o5 fa)) (C : LoopC H₀ T rows zp zl zs2 zs fa Dp Dl Db Df N o1 o2 o4 o5)
    {j : Nat} {t : Tok} {u : Tr} {path : List (Nat × Tr)} (nd : Nd H₀ T rows fa path u j) (d3 : o3.data = .cell (some (.int ((j : Nat) : Int) t))) (hi : IntsAre rv ((rowN path).map Int.ofNat)) (hrow : m (Str.ofString "row") = some (.ref R)) {tp : Tok} (hplace : m (Str.ofString "place") = some (.int (((rowN path).idxOf j : Nat) : Int) tp))
    {dp un : Nat} (hd : dp + 60 < recursionLimit) (hun : un + 200 < cLine) {Q : Flow → Shared → Prop}
    (hQ : ∀ h' tk' sv, Fr H₀ L h' (fun z => if z = Str.ofString "sooner" then some sv else m z) → News H₀ L h' ((R, listOf (List.toArray rv) nr) :: (I, oI) :: loopLed Dp Dl Db Df zp zl zs2 zs np nl n2 n L V N rows T nV nN o1 o2 o3 o4 o5 fa) → numV ((prevOf path j).map (·.1)) sv → Q .next { s with heap := h', toks := tk' }),
    wpAny (model PG w) (Ar dp un [envOfC "law" scope L 359 cdv]) (execs (rnd body 7 1) (envOfC "law" scope L 359 cdv)) Q (fun _ _ => False) s := by
  refine' ⟨_, _, _, LawFn.ex ?k5 ?k6 ?k7, ?walk⟩
  case k5 => k_is
  case k6 => k_is
  case k7 => intro s v; exact BindsTo.of_eq rfl
  case walk =>
    intro s G L V N Dp Df Db Dl I rows zs zs2 zl zp T nV nN n n2 nl np o1 o2 o3 o4 o5 oI fa m R rv nr F W C j t u path nd d3 hi hrow tp hplace dp un hd hun Q hQ
    dsimp only [rnd, forBody, List.getD, List.getElem?_cons_zero, List.getElem?_cons_succ, Option.getD_some, List.drop, List.take]
    have Xg : (Mine.hd.heap_39 w.params).In H₀ := G.X
    have Tg := G.T
    dsimp only [loopLed, lawLed] at W
    have hit := nd.ln.item
    have d1 := C.d1
    have d2 := C.d2
    have d5 := C.d5
    obtain ⟨_, hpl3, _, hsz, husz, hj⟩ := nd.small
    have hrl : rv.length = (rowN path).length := by have := hi.length; rw [List.length_map] at this; exact this
    obtain ⟨hmem, hlen3, hb, hnx, hpv⟩ := nd.row
    clear hnx hb d1 d2 d3 d5 hit
    have hle : (rowN path).idxOf j < (rowN path).length := List.idxOf_lt_length_of_mem hmem
    clear hmem
    by_cases h0 : (rowN path).idxOf j = 0
    · rw [if_pos h0] at hpv
      rw [h0] at hplace
      k_steps
      all_goals exact hQ _ _ _ (by k_asm) (by k_asm) (.inl ⟨hpv, rfl⟩)
    · rw [if_neg h0] at hpv
      obtain ⟨k, hk⟩ : ∃ k, (rowN path)[(rowN path).idxOf j - 1]? = some k := ⟨_, List.getElem?_eq_getElem (by omega)⟩
      rw [hk] at hpv
      have hget := getD_at hk (z := (((rowN path).idxOf j : Nat) : Int) - 1) (by omega)
      clear hk
      k_steps
      all_goals (
        refine' hQ _ _ _ ?kf ?kn ?kv
        case kf => k_asm
        case kn => k_asm
        case kv => exact .inr ⟨_, k, hpv, congrArg (fun z => Value.int z _) hget⟩)
end
section
variable {w : World} {H₀ : Heap} {mean : ExcName → Option Value} {mg mb : Str → Option Value}
theorem round_sib : ∃ body scope cdv, LawFn w body scope cdv ∧ ∀ {s : Shared} (G : Gd w H₀ mean mg mb) {L : Addr} {V N Dp Df Db Dl I : Addr} {rows zs zs2 zl zp : List Value} {T : Tr} {nV nN n n2 nl np : Nat} {o1 o2 o3 o4 o5 oI : Obj} {fa : List (Addr × Obj)} {m : Str → Option Value}  (F : Fr H₀ L s.heap m)
    (W : News H₀ L s.heap ((I, oI) :: loopLed Dp Dl Db Df zp zl zs2 zs np nl n2 n L V N rows T nV nN o1 o2 o3 o4 o5 fa)) (C : LoopC H₀ T rows zp zl zs2 zs fa Dp Dl Db Df N o1 o2 o4 o5)
    {j : Nat} {t : Tok} {u : Tr} {path : List (Nat × Tr)} (nd : Nd H₀ T rows fa path u j) (d3 : o3.data = .cell (some (.int ((j : Nat) : Int) t))) (hone : m (Str.ofString "one") = some (.ref u.root)) {lv sv : Value} (hl : numV ((nextOf path j).map (·.1)) lv) (hs : numV ((prevOf path j).map (·.1)) sv) (hlater : m (Str.ofString "later") = some lv) (hsooner : m (Str.ofString "sooner") = some sv)
    {dp un : Nat} (hd : dp + 60 < recursionLimit) (hun : un + 200 < cLine) {Q : Flow → Shared → Prop}
    (hQ : ∀ h' tk', Fr H₀ L h' m → News H₀ L h' ((I, oI) :: loopLed Dp Dl Db Df zp zl zs2 zs np nl n2 n L V N rows T nV nN o1 o2 o3 o4 o5 fa) → Q .next { s with heap := h', toks := tk' }),
    wpAny (model PG w) (Ar dp un [envOfC "law" scope L 359 cdv]) (execs (rnd body 8 1) (envOfC "law" scope L 359 cdv)) Q (fun _ _ => False) s := by
  refine' ⟨_, _, _, LawFn.ex ?k5 ?k6 ?k7, ?walk⟩
  case k5 => k_is
  case k6 => k_is
  case k7 => intro s v; exact BindsTo.of_eq rfl
  case walk =>
    intro s G L V N Dp Df Db Dl I rows zs zs2 zl zp T nV nN n n2 nl np o1 o2 o3 o4 o5 oI fa m F W C j t u path nd d3 hone lv sv hl hs hlater hsooner dp un hd hun Q hQ
    dsimp only [rnd, forBody, List.getD, List.getElem?_cons_zero, List.getElem?_cons_succ, Option.getD_some, List.drop, List.take]
    have Xg : (Mine.hd.heap_39 w.params).In H₀ := G.X
    have Tg := G.T
    dsimp only [loopLed, lawLed] at W
    have hit := nd.ln.item
    have d1 := C.d1
    have d2 := C.d2
    have d5 := C.d5
    obtain ⟨_, hpl3, _, hsz, husz, hj⟩ := nd.small
    clear d1 d2 d3 d5 hit
    cases hq : nextOf path j with
    | none =>
      have hlv := numV_none hl (by rw [hq]; rfl)
      subst hlv
      cases hq2 : prevOf path j with
      | none =>
        have hsv := numV_none hs (by rw [hq2]; rfl)
        subst hsv
        k_steps
        all_goals first | exact hQ _ _ (by k_asm) (by k_asm) | (rename (_ ≠ _) => hx9; exact absurd rfl hx9) | (rename ((_ != _) = true) => hx9; exact absurd hx9 (by simp))
      | some p =>
        obtain ⟨k2, t2⟩ := p
        obtain ⟨ts, hsv⟩ := numV_some hs (k := k2) (by rw [hq2]; rfl)
        subst hsv
        obtain ⟨_, _, q2, nd2⟩ := nd.sib (.inr rfl) hq2
        k_steps
        all_goals first | exact hQ _ _ (by k_asm) (by k_asm) | (rename (_ ≠ _) => hx9; exact absurd rfl hx9) | (rename ((_ != _) = true) => hx9; exact absurd hx9 (by simp))
    | some p =>
      obtain ⟨k1, t1⟩ := p
      obtain ⟨tl, hlv⟩ := numV_some hl (k := k1) (by rw [hq]; rfl)
      subst hlv
      obtain ⟨_, _, q1, nd1⟩ := nd.sib (.inl rfl) hq
      cases hq2 : prevOf path j with
      | none =>
        have hsv := numV_none hs (by rw [hq2]; rfl)
        subst hsv
        k_steps
        all_goals first | exact hQ _ _ (by k_asm) (by k_asm) | (rename (_ ≠ _) => hx9; exact absurd rfl hx9) | (rename ((_ != _) = true) => hx9; exact absurd hx9 (by simp))
      | some p =>
        obtain ⟨k2, t2⟩ := p
        obtain ⟨ts, hsv⟩ := numV_some hs (k := k2) (by rw [hq2]; rfl)
        subst hsv
        obtain ⟨_, _, q2, nd2⟩ := nd.sib (.inr rfl) hq2
        k_steps
        all_goals first | exact hQ _ _ (by k_asm) (by k_asm) | (rename (_ ≠ _) => hx9; exact absurd rfl hx9) | (rename ((_ != _) = true) => hx9; exact absurd hx9 (by simp))
end
section
variable {w : World} {H₀ : Heap} {mean : ExcName → Option Value} {mg mb : Str → Option Value}
theorem round_below : ∃ body scope cdv, LawFn w body scope cdv ∧ ∀ {s : Shared} (G : Gd w H₀ mean mg mb) {L : Addr} {V N Dp Df Db Dl I : Addr} {rows zs zs2 zl zp : List Value} {T : Tr} {nV nN n n2 nl np : Nat} {o1 o2 o3 o4 o5 oI : Obj} {fa : List (Addr × Obj)} {m : Str → Option Value}  (F : Fr H₀ L s.heap m)
    (W : News H₀ L s.heap ((I, oI) :: loopLed Dp Dl Db Df zp zl zs2 zs np nl n2 n L V N rows T nV nN o1 o2 o3 o4 o5 fa)) (C : LoopC H₀ T rows zp zl zs2 zs fa Dp Dl Db Df N o1 o2 o4 o5)
    {j : Nat} {t : Tok} {u : Tr} {path : List (Nat × Tr)} (nd : Nd H₀ T rows fa path u j) (d3 : o3.data = .cell (some (.int ((j : Nat) : Int) t))) (hfirst : m (Str.ofString "first") = some (.ref Df))
    {dp un : Nat} (hd : dp + 60 < recursionLimit) (hun : un + 200 < cLine) {Q : Flow → Shared → Prop}
    (hQ : ∀ h' tk' B bv nb, Fr H₀ L h' (fun z => if z = Str.ofString "below" then some (.ref B) else m z) → News H₀ L h' ((B, listOf (List.toArray bv) nb) :: (I, oI) :: loopLed Dp Dl Db Df zp zl zs2 zs np nl n2 n L V N rows T nV nN o1 o2 o3 o4 o5 fa) → All2 (fun k y => ∃ t, y = Value.int (k : Nat) t) (List.range' j u.size) bv → Q .next { s with heap := h', toks := tk' }),
    wpAny (model PG w) (Ar dp un [envOfC "law" scope L 359 cdv]) (execs (rnd body 9 1) (envOfC "law" scope L 359 cdv)) Q (fun _ _ => False) s := by
  refine' ⟨_, _, _, LawFn.ex ?k5 ?k6 ?k7, ?walk⟩
  case k5 => k_is
  case k6 => k_is
  case k7 => intro s v; exact BindsTo.of_eq rfl
  case walk =>
    intro s G L V N Dp Df Db Dl I rows zs zs2 zl zp T nV nN n n2 nl np o1 o2 o3 o4 o5 oI fa m F W C j t u path nd d3 hfirst dp un hd hun Q hQ
    dsimp only [rnd, forBody, List.getD, List.getElem?_cons_zero, List.getElem?_cons_succ, Option.getD_some, List.drop, List.take]
    have Xg : (Mine.hd.heap_39 w.params).In H₀ := G.X
    have Tg := G.T
    dsimp only [loopLed, lawLed] at W
    have hit := nd.ln.item
    have d1 := C.d1
    have d2 := C.d2
    have d5 := C.d5
    obtain ⟨_, hpl3, _, hsz, husz, hj⟩ := nd.small
    have hzl : zs.length = T.size := by rw [C.hz.length, List.length_range']
    obtain ⟨tj, hpj⟩ := range_item C.hzp hj
    walk_at "mine:to ac"
    walk_at "mine:acT"
    walk_at "mine:to comp"
    refine compSrcT_list (vs := zs) (fun i y => ∃ t, y = .int (Int.ofNat i) t) (fun i => decide (i = j) || (decide (i > j) && decide ((T.postN 0).idxOf i < (T.postN 0).idxOf j))) rfl F W (by k_mem) (by omega) (fun i v I2 oI2 C2 oC D m₂ h tk ys E' hi hC hx hF hN => ?_) (fun i v I2 oI2 C2 oC D m₂ h tk ys E' hi hp hC hx hF hN => ?_) (fun g9 zs9 hz9 => ?_)
    · obtain ⟨hil, _⟩ := List.getElem?_eq_some_iff.mp hi
      have hil : i < T.size := by omega
      obtain ⟨tv, hv⟩ := range_item C.hz (j := i) hil
      rw [hi] at hv
      cases hv
      obtain ⟨ti, hpi⟩ := range_item C.hzp hil
      clear W
      k_steps
      all_goals first | exact ⟨_, _, rfl, fun _ _ e => e⟩ | (rw [Bool.eq_iff_iff]; simp only [Bool.or_eq_true, Bool.and_eq_true, decide_eq_true_eq, true_iff, false_iff, Bool.false_eq_true]; omega)
    · obtain ⟨hil, _⟩ := List.getElem?_eq_some_iff.mp hi
      obtain ⟨tv, hv⟩ := range_item C.hz (j := i) (by omega)
      rw [hi] at hv
      cases hv
      exact LCgL.ld_own hN (by k_mem) hC hx ⟨⟨_, rfl⟩, _, _, rfl, fun _ _ e => e⟩
    rw [hzl, ← List.range_eq_range', nd.occ.belowN] at hz9
    unfold LCg.FinA
    intro D h' tk' F' N' off
    exact wpAny_pure (hQ _ _ _ _ _ F' N' hz9)
end
section
variable {w : World} {H₀ : Heap} {mean : ExcName → Option Value} {mg mb : Str → Option Value}
theorem round_mine : ∃ body scope cdv, LawFn w body scope cdv ∧ ∀ {s : Shared} (G : Gd w H₀ mean mg mb) {L : Addr} {V N Dp Df Db Dl I : Addr} {rows zs zs2 zl zp : List Value} {T : Tr} {nV nN n n2 nl np : Nat} {o1 o2 o3 o4 o5 oI : Obj} {fa : List (Addr × Obj)} {m : Str → Option Value} {B : Addr} {bv : List Value} {nb : Nat} (F : Fr H₀ L s.heap m)
    (W : News H₀ L s.heap ((B, listOf (List.toArray bv) nb) :: (I, oI) :: loopLed Dp Dl Db Df zp zl zs2 zs np nl n2 n L V N rows T nV nN o1 o2 o3 o4 o5 fa)) (C : LoopC H₀ T rows zp zl zs2 zs fa Dp Dl Db Df N o1 o2 o4 o5)
    {j : Nat} {t : Tok} {u : Tr} {path : List (Nat × Tr)} (nd : Nd H₀ T rows fa path u j) (d3 : o3.data = .cell (some (.int ((j : Nat) : Int) t))) (hbv : All2 (fun k y => ∃ t, y = Value.int (k : Nat) t) (List.range' j u.size) bv) (hbelow : m (Str.ofString "below") = some (.ref B))
    {dp un : Nat} (hd : dp + 60 < recursionLimit) (hun : un + 200 < cLine) {Q : Flow → Shared → Prop}
    (hQ : ∀ h' tk' M mv nm, Fr H₀ L h' (fun z => if z = Str.ofString "mine" then some (.ref M) else m z) → News H₀ L h' ((M, listOf (List.toArray mv) nm) :: (I, oI) :: loopLed Dp Dl Db Df zp zl zs2 zs np nl n2 n L V N rows T nV nN o1 o2 o3 o4 o5 fa) → All2 (fun q y => y = Value.ref q.2.root) (u.leaves j) mv → Q .next { s with heap := h', toks := tk' }),
    wpAny (model PG w) (Ar dp un [envOfC "law" scope L 359 cdv]) (execs (rnd body 10 1) (envOfC "law" scope L 359 cdv)) Q (fun _ _ => False) s := by
  refine' ⟨_, _, _, LawFn.ex ?k5 ?k6 ?k7, ?walk⟩
  case k5 => k_is
  case k6 => k_is
  case k7 => intro s v; exact BindsTo.of_eq rfl
  case walk =>
    intro s G L V N Dp Df Db Dl I rows zs zs2 zl zp T nV nN n n2 nl np o1 o2 o3 o4 o5 oI fa m B bv nb F W C j t u path nd d3 hbv hbelow dp un hd hun Q hQ
    dsimp only [rnd, forBody, List.getD, List.getElem?_cons_zero, List.getElem?_cons_succ, Option.getD_some, List.drop, List.take]
    have Xg : (Mine.hd.heap_39 w.params).In H₀ := G.X
    have Tg := G.T
    dsimp only [loopLed, lawLed] at W
    have hit := nd.ln.item
    have d1 := C.d1
    have d2 := C.d2
    have d5 := C.d5
    obtain ⟨_, hpl3, _, hsz, husz, hj⟩ := nd.small
    have hbl : bv.length = u.size := by rw [hbv.length, List.length_range']
    have hzl := C.hzl
    obtain ⟨g1, g2, _⟩ := nd.occ.slice
    have item : ∀ (i : Nat) v, bv[i]? = some v → i < u.size ∧ ∃ t, v = .int ((j + i : Nat) : Int) t := fun i v hi => by
      obtain ⟨hil, _⟩ := List.getElem?_eq_some_iff.mp hi
      obtain ⟨b, q1, t, q2⟩ := hbv.get (i := i) (List.getElem?_range' (by omega))
      rw [hi] at q1
      cases q1
      rw [Nat.one_mul] at q2
      exact ⟨by omega, t, q2⟩
    walk_at "mine:to ac"
    walk_at "mine:acT"
    walk_at "mine:to comp"
    refine compSrcT_list (vs := bv) (MineV T j) (fun i => decide (j + i ∈ T.leafN 0)) rfl F W (by k_mem) (by omega) (fun i v I2 oI2 C2 oC D m₂ h tk ys E' hi hC hx hF hN => ?_) (fun i v I2 oI2 C2 oC D m₂ h tk ys E' hi hp hC hx hF hN => ?_) (fun g9 zs9 hz9 => ?_)
    · obtain ⟨hil, tv, rfl⟩ := item i v hi
      clear W
      k_steps
      exact ⟨_, _, rfl, fun _ _ e => e⟩
    · obtain ⟨hil, tv, rfl⟩ := item i v hi
      obtain ⟨uu, hu⟩ := LN.of C.tree (j := j + i) (by omega)
      have hitem := hu.item
      clear W
      k_steps
      · exact ⟨(j + i, uu), hu.mem, rfl, rfl⟩
      · exact ⟨_, _, rfl, fun _ _ e => e⟩
    unfold LCg.FinA
    intro D h' tk' F' N' off
    have N2 : News H₀ L h' ((D, LCg.lst zs9) :: (I, oI) :: loopLed Dp Dl Db Df zp zl zs2 zs np nl n2 n L V N rows T nV nN o1 o2 o3 o4 o5 fa) := news_sub N' fun p hp => by
      rcases List.mem_cons.mp hp with rfl | hp
      · exact .head _
      · exact .tail _ (.tail _ hp)
    rw [hbl] at hz9
    exact wpAny_pure (hQ _ _ _ _ _ F' N2 (nd.mine_all hz9))
end
section
variable {w : World} {H₀ : Heap} {mean : ExcName → Option Value} {mg mb : Str → Option Value}
theorem round_str : ∃ body scope cdv, LawFn w body scope cdv ∧ ∀ {s : Shared} (G : Gd w H₀ mean mg mb) {L : Addr} {V N Dp Df Db Dl I : Addr} {rows zs zs2 zl zp : List Value} {T : Tr} {nV nN n n2 nl np : Nat} {o1 o2 o3 o4 o5 oI : Obj} {fa : List (Addr × Obj)} {m : Str → Option Value} {M : Addr} {mv : List Value} {nm : Nat} (F : Fr H₀ L s.heap m)
    (W : News H₀ L s.heap ((M, listOf (List.toArray mv) nm) :: (I, oI) :: loopLed Dp Dl Db Df zp zl zs2 zs np nl n2 n L V N rows T nV nN o1 o2 o3 o4 o5 fa)) (C : LoopC H₀ T rows zp zl zs2 zs fa Dp Dl Db Df N o1 o2 o4 o5)
    {j : Nat} {t : Tok} {u : Tr} {path : List (Nat × Tr)} (nd : Nd H₀ T rows fa path u j) (d3 : o3.data = .cell (some (.int ((j : Nat) : Int) t))) (hone : m (Str.ofString "one") = some (.ref u.root)) (hmv : All2 (fun q y => y = Value.ref q.2.root) (u.leaves j) mv) (hmine : m (Str.ofString "mine") = some (.ref M))
    {dp un : Nat} (hd : dp + 60 < recursionLimit) (hun : un + 200 < cLine) {Q : Flow → Shared → Prop}
    (hQ : ∀ h' tk', Fr H₀ L h' m → News H₀ L h' ((I, oI) :: loopLed Dp Dl Db Df zp zl zs2 zs np nl n2 n L V N rows T nV nN o1 o2 o3 o4 o5 fa) → Q .next { s with heap := h', toks := tk' }),
    wpAny (model PG w) (Ar dp un [envOfC "law" scope L 359 cdv]) (execs (rnd body 11 1) (envOfC "law" scope L 359 cdv)) Q (fun _ _ => False) s := by
  refine' ⟨_, _, _, LawFn.ex ?k5 ?k6 ?k7, ?walk⟩
  case k5 => k_is
  case k6 => k_is
  case k7 => intro s v; exact BindsTo.of_eq rfl
  case walk =>
    intro s G L V N Dp Df Db Dl I rows zs zs2 zl zp T nV nN n n2 nl np o1 o2 o3 o4 o5 oI fa m M mv nm F W C j t u path nd d3 hone hmv hmine dp un hd hun Q hQ
    dsimp only [rnd, forBody, List.getD, List.getElem?_cons_zero, List.getElem?_cons_succ, Option.getD_some, List.drop, List.take]
    have Xg : (Mine.hd.heap_39 w.params).In H₀ := G.X
    have Tg := G.T
    dsimp only [loopLed, lawLed] at W
    have hit := nd.ln.item
    have d1 := C.d1
    have d2 := C.d2
    have d5 := C.d5
    obtain ⟨_, hpl3, _, hsz, husz, hj⟩ := nd.small
    have hml := hmv.length
    have hll : (u.leaves j).length ≤ u.size := Nat.le_trans (List.length_filter_le ..) (by rw [u.nodeL_length]; omega)
    walk_at "mine:to comp"
    rename Fr _ _ _ _ => F9
    rename News _ _ _ _ => W9
    refine compSrc_list (vs := mv) (TextV u j) rfl F9 W9 (by k_mem) (by omega) (fun i v I2 oI2 C2 oC D m₂ h tk ys E' hi hC hx hF hN => ?_) (fun g9 zs9 hz9 => ?_)
    · obtain ⟨hil, _⟩ := List.getElem?_eq_some_iff.mp hi
      obtain ⟨q, hq⟩ : ∃ q, (u.leaves j)[i]? = some q := ⟨_, List.getElem?_eq_getElem (by omega)⟩
      obtain ⟨b, q1, q2⟩ := hmv.get hq
      rw [hi] at q1
      cases q1
      subst q2
      obtain ⟨k, uu⟩ := q
      obtain ⟨hm, hleaf⟩ := List.mem_filter.mp (List.mem_of_getElem? hq)
      obtain ⟨y, pre, line, e⟩ := leaf_of hleaf
      have e : uu = .leaf y pre line := e
      subst e
      obtain ⟨pq, ndL⟩ := Nd.of C.tree (nd.sub hm)
      have ndL : Nd H₀ T rows fa pq (.leaf y pre line) k := ndL
      have hpre : pre.length ≤ 1 := ndL.small.2.2.1
      have hxy := xy_len k
      have hx : m₂ (Str.ofString "leaf") = some (.ref y) := hx
      clear W9 F9 hmv hll hml
      k_steps
      · exact ⟨(k, .leaf y pre line), _, hq, rfl⟩
      · exact ⟨_, _, rfl, st9⟩
    rw [hml] at hz9
    have hush := nd.small.2.2.1
    unfold LCg.FinE
    intro D8 h8 tk8 F8 N8 off8
    clear W9 F9 off8 hmv hml hll
    k_steps
    all_goals first | exact hQ _ _ (by k_asm) (news_sub (by k_asm) fun p hp => .tail _ (.tail _ hp)) | (rename (_ ≠ _) => hx9; exact absurd rfl hx9) | (rename ((_ != _) = true) => hx9; exact absurd hx9 (by simp))
end
section
variable {w : World} {H₀ : Heap} {mean : ExcName → Option Value} {mg mb : Str → Option Value}
theorem round_told : ∃ body scope cdv, LawFn w body scope cdv ∧ ∀ {s : Shared} (G : Gd w H₀ mean mg mb) {L : Addr} {V N Dp Df Db Dl I : Addr} {rows zs zs2 zl zp : List Value} {T : Tr} {nV nN n n2 nl np : Nat} {o1 o2 o3 o4 o5 oI : Obj} {fa : List (Addr × Obj)} {m : Str → Option Value}  (F : Fr H₀ L s.heap m)
    (W : News H₀ L s.heap ((I, oI) :: loopLed Dp Dl Db Df zp zl zs2 zs np nl n2 n L V N rows T nV nN o1 o2 o3 o4 o5 fa)) (C : LoopC H₀ T rows zp zl zs2 zs fa Dp Dl Db Df N o1 o2 o4 o5)
    {j : Nat} {t : Tok} {u : Tr} {path : List (Nat × Tr)} (nd : Nd H₀ T rows fa path u j) (d3 : o3.data = .cell (some (.int ((j : Nat) : Int) t))) (hone : m (Str.ofString "one") = some (.ref u.root))
    {dp un : Nat} (hd : dp + 60 < recursionLimit) (hun : un + 200 < cLine) {Q : Flow → Shared → Prop}
    (hQ : ∀ h' tk' v, Fr H₀ L h' (fun z => if z = Str.ofString "start" then some v else m z) → News H₀ L h' ((I, oI) :: loopLed Dp Dl Db Df zp zl zs2 zs np nl n2 n L V N rows T nV nN o1 o2 o3 o4 o5 fa) → numV (u.endOf false j) v → Q .next { s with heap := h', toks := tk' }),
    wpAny (model PG w) (Ar dp un [envOfC "law" scope L 359 cdv]) (execs (rnd body 12 2) (envOfC "law" scope L 359 cdv)) Q (fun _ _ => False) s := by
  refine' ⟨_, _, _, LawFn.ex ?k5 ?k6 ?k7, ?walk⟩
  case k5 => k_is
  case k6 => k_is
  case k7 => intro s v; exact BindsTo.of_eq rfl
  case walk =>
    intro s G L V N Dp Df Db Dl I rows zs zs2 zl zp T nV nN n n2 nl np o1 o2 o3 o4 o5 oI fa m F W C j t u path nd d3 hone dp un hd hun Q hQ
    dsimp only [rnd, forBody, List.getD, List.getElem?_cons_zero, List.getElem?_cons_succ, Option.getD_some, List.drop, List.take]
    have Xg : (Mine.hd.heap_39 w.params).In H₀ := G.X
    have Tg := G.T
    dsimp only [loopLed, lawLed] at W
    have hit := nd.ln.item
    have d1 := C.d1
    have d2 := C.d2
    have d5 := C.d5
    obtain ⟨_, hpl3, _, hsz, husz, hj⟩ := nd.small
    clear d1 d2 d3 d5 hit
    rcases hfalse : u.endOf false j with _ | kfalse
    · rcases htrue : u.endOf true j with _ | ktrue
      · k_steps
        all_goals first | exact hQ _ _ _ (by k_asm) (by k_asm) (.inl ⟨hfalse, rfl⟩) | (rename (_ ≠ _) => hx9; exact absurd rfl hx9) | (rename ((_ != _) = true) => hx9; exact absurd hx9 (by simp))
      · k_steps
        all_goals first | exact hQ _ _ _ (by k_asm) (by k_asm) (.inl ⟨hfalse, rfl⟩) | (rename (_ ≠ _) => hx9; exact absurd rfl hx9) | (rename ((_ != _) = true) => hx9; exact absurd hx9 (by simp))
    · rcases htrue : u.endOf true j with _ | ktrue
      · k_steps
        all_goals first | exact hQ _ _ _ (by k_asm) (by k_asm) (.inr ⟨_, _, hfalse, rfl⟩) | (rename (_ ≠ _) => hx9; exact absurd rfl hx9) | (rename ((_ != _) = true) => hx9; exact absurd hx9 (by simp))
      · k_steps
        all_goals first | exact hQ _ _ _ (by k_asm) (by k_asm) (.inr ⟨_, _, hfalse, rfl⟩) | (rename (_ ≠ _) => hx9; exact absurd rfl hx9) | (rename ((_ != _) = true) => hx9; exact absurd hx9 (by simp))
end
section
variable {w : World} {H₀ : Heap} {mean : ExcName → Option Value} {mg mb : Str → Option Value}
theorem round_line : ∃ body scope cdv, LawFn w body scope cdv ∧ ∀ {s : Shared} (G : Gd w H₀ mean mg mb) {L : Addr} {V N Dp Df Db Dl I : Addr} {rows zs zs2 zl zp : List Value} {T : Tr} {nV nN n n2 nl np : Nat} {o1 o2 o3 o4 o5 oI : Obj} {fa : List (Addr × Obj)} {m : Str → Option Value}  (F : Fr H₀ L s.heap m)
    (W : News H₀ L s.heap ((I, oI) :: loopLed Dp Dl Db Df zp zl zs2 zs np nl n2 n L V N rows T nV nN o1 o2 o3 o4 o5 fa)) (C : LoopC H₀ T rows zp zl zs2 zs fa Dp Dl Db Df N o1 o2 o4 o5)
    {j : Nat} {t : Tok} {u : Tr} {path : List (Nat × Tr)} (nd : Nd H₀ T rows fa path u j) (d3 : o3.data = .cell (some (.int ((j : Nat) : Int) t))) (hone : m (Str.ofString "one") = some (.ref u.root)) {sv : Value} (hsv : numV (u.endOf false j) sv) (hstart : m (Str.ofString "start") = some sv)
    {dp un : Nat} (hd : dp + 60 < recursionLimit) (hun : un + 200 < cLine) {Q : Flow → Shared → Prop}
    (hQ : ∀ h' tk', Fr H₀ L h' m → News H₀ L h' ((I, oI) :: loopLed Dp Dl Db Df zp zl zs2 zs np nl n2 n L V N rows T nV nN o1 o2 o3 o4 o5 fa) → Q .next { s with heap := h', toks := tk' }),
    wpAny (model PG w) (Ar dp un [envOfC "law" scope L 359 cdv]) (execs (rnd body 14 1) (envOfC "law" scope L 359 cdv)) Q (fun _ _ => False) s := by
  refine' ⟨_, _, _, LawFn.ex ?k5 ?k6 ?k7, ?walk⟩
  case k5 => k_is
  case k6 => k_is
  case k7 => intro s v; exact BindsTo.of_eq rfl
  case walk =>
    intro s G L V N Dp Df Db Dl I rows zs zs2 zl zp T nV nN n n2 nl np o1 o2 o3 o4 o5 oI fa m F W C j t u path nd d3 hone sv hsv hstart dp un hd hun Q hQ
    dsimp only [rnd, forBody, List.getD, List.getElem?_cons_zero, List.getElem?_cons_succ, Option.getD_some, List.drop, List.take]
    have Xg : (Mine.hd.heap_39 w.params).In H₀ := G.X
    have Tg := G.T
    dsimp only [loopLed, lawLed] at W
    have hit := nd.ln.item
    have d1 := C.d1
    have d2 := C.d2
    have d5 := C.d5
    obtain ⟨_, hpl3, _, hsz, husz, hj⟩ := nd.small
    clear d1 d2 d3 hit
    rcases u.end_first j with ⟨h1, h2, _⟩ | ⟨i, y, pre, line, h1, h2, h3, _⟩
    · have := numV_none hsv h1
      subst this
      k_steps
      all_goals first | exact hQ _ _ (by k_asm) (by k_asm) | (rename (_ ≠ _) => hx9; exact absurd rfl hx9) | (rename ((_ != _) = true) => hx9; exact absurd hx9 (by simp))
    · obtain ⟨ts, e⟩ := numV_some hsv h1
      subst e
      obtain ⟨pq, ndL⟩ := Nd.of C.tree (nd.sub h2)
      have ndL : Nd H₀ T rows fa pq (.leaf y pre line) i := ndL
      have hitem : T.preL[i]? = some (.ref y) := ndL.ln.item
      have hiT := ndL.small.2.2.2.2.2
      k_steps
      all_goals first | exact hQ _ _ (by k_asm) (by k_asm) | (rename (_ ≠ _) => hx9; exact absurd rfl hx9) | (rename ((_ != _) = true) => hx9; exact absurd hx9 (by simp))
end
section
variable {w : World} {H₀ : Heap} {mean : ExcName → Option Value} {mg mb : Str → Option Value}
theorem round_suffix : ∃ body scope cdv, LawFn w body scope cdv ∧ ∀ {s : Shared} (G : Gd w H₀ mean mg mb) {L : Addr} {V N Dp Df Db Dl I : Addr} {rows zs zs2 zl zp : List Value} {T : Tr} {nV nN n n2 nl np : Nat} {o1 o2 o3 o4 o5 oI : Obj} {fa : List (Addr × Obj)} {m : Str → Option Value}  (F : Fr H₀ L s.heap m)
    (W : News H₀ L s.heap ((I, oI) :: loopLed Dp Dl Db Df zp zl zs2 zs np nl n2 n L V N rows T nV nN o1 o2 o3 o4 o5 fa)) (C : LoopC H₀ T rows zp zl zs2 zs fa Dp Dl Db Df N o1 o2 o4 o5)
    {j : Nat} {t : Tok} {u : Tr} {path : List (Nat × Tr)} (nd : Nd H₀ T rows fa path u j) (d3 : o3.data = .cell (some (.int ((j : Nat) : Int) t))) (hone : m (Str.ofString "one") = some (.ref u.root)) {lv : Value} (hl : numV ((nextOf path j).map (·.1)) lv) (hlater : m (Str.ofString "later") = some lv)
    {dp un : Nat} (hd : dp + 60 < recursionLimit) (hun : un + 200 < cLine) {Q : Flow → Shared → Prop}
    (hQ : ∀ h' tk' v, Fr H₀ L h' (fun z => if z = Str.ofString "head" then some v else m z) → News H₀ L h' ((I, oI) :: loopLed Dp Dl Db Df zp zl zs2 zs np nl n2 n L V N rows T nV nN o1 o2 o3 o4 o5 fa) → Q .next { s with heap := h', toks := tk' }),
    wpAny (model PG w) (Ar dp un [envOfC "law" scope L 359 cdv]) (execs (rnd body 15 2) (envOfC "law" scope L 359 cdv)) Q (fun _ _ => False) s := by
  refine' ⟨_, _, _, LawFn.ex ?k5 ?k6 ?k7, ?walk⟩
  case k5 => k_is
  case k6 => k_is
  case k7 => intro s v; exact BindsTo.of_eq rfl
  case walk =>
    intro s G L V N Dp Df Db Dl I rows zs zs2 zl zp T nV nN n n2 nl np o1 o2 o3 o4 o5 oI fa m F W C j t u path nd d3 hone lv hl hlater dp un hd hun Q hQ
    dsimp only [rnd, forBody, List.getD, List.getElem?_cons_zero, List.getElem?_cons_succ, Option.getD_some, List.drop, List.take]
    have Xg : (Mine.hd.heap_39 w.params).In H₀ := G.X
    have Tg := G.T
    dsimp only [loopLed, lawLed] at W
    have hit := nd.ln.item
    have d1 := C.d1
    have d2 := C.d2
    have d5 := C.d5
    obtain ⟨_, hpl3, _, hsz, husz, hj⟩ := nd.small
    clear d1 d2 d3 hit
    cases hq : nextOf path j with
    | none =>
      have := numV_none hl (by rw [hq]; rfl)
      subst this
      have hsf : ((nextOf path j).map fun p => p.2.firstPre).getD (Str.ofString "") = Str.ofString "" := by rw [hq]; rfl
      k_steps
      all_goals first | exact hQ _ _ _ (by k_asm) (by k_asm) | (rename (_ ≠ _) => hx9; exact absurd rfl hx9) | (rename ((_ != _) = true) => hx9; exact absurd hx9 (by simp))
    | some p =>
      obtain ⟨k, tt⟩ := p
      obtain ⟨tl, e⟩ := numV_some hl (k := k) (by rw [hq]; rfl)
      subst e
      obtain ⟨hm, _, q1, nd1⟩ := nd.sib (.inl rfl) hq
      have hit1 := nd1.ln.item
      have hkT := nd1.small.2.2.2.2.2
      rcases tt.end_first k with ⟨h1, h2, h3⟩ | ⟨i, y, pre, line, h1, h2, h3, h4⟩
      · have hsf : ((nextOf path j).map fun p => p.2.firstPre).getD (Str.ofString "") = Str.ofString "" := by rw [hq]; exact h3
        k_steps
        all_goals first | exact hQ _ _ _ (by k_asm) (by k_asm) | (rename (_ ≠ _) => hx9; exact absurd rfl hx9) | (rename ((_ != _) = true) => hx9; exact absurd hx9 (by simp))
      · have hsf : ((nextOf path j).map fun p => p.2.firstPre).getD (Str.ofString "") = pre := by rw [hq]; exact h4
        obtain ⟨pq, ndL⟩ := Nd.of C.tree (nd1.sub h2)
        have ndL : Nd H₀ T rows fa pq (.leaf y pre line) i := ndL
        have hitem : T.preL[i]? = some (.ref y) := ndL.ln.item
        have hiT := ndL.small.2.2.2.2.2
        k_steps
        all_goals first | exact hQ _ _ _ (by k_asm) (by k_asm) | (rename (_ ≠ _) => hx9; exact absurd rfl hx9) | (rename ((_ != _) = true) => hx9; exact absurd hx9 (by simp))
end
theorem execs_rnd {prog : Program} {w : World} {A : Around} {s : Shared} {E : Value → Shared → Prop} {body : List Stmt} {a n b : Nat} (hb : a + n = b) {env : Env} {Q : Flow → Shared → Prop}
    (h : wpAny (model prog w) A (execs (rnd body a n) env) (fun f s' => match f with | .next => wpAny (model prog w) A (execs ((forBody (body.getD 11 (.Pass default))).drop b) env) Q E s' | f => Q f s') E s) :
    wpAny (model prog w) A (execs ((forBody (body.getD 11 (.Pass default))).drop a) env) Q E s := by
  subst hb
  rw [← List.take_append_drop n ((forBody (body.getD 11 (.Pass default))).drop a)]
  refine execs_app ?_
  rw [List.drop_drop]
  exact h
theorem law_shape {w : World} : ∃ body scope cdv, LawFn w body scope cdv ∧ (forBody (body.getD 11 (.Pass default))).drop 17 = [] ∧ (body = body.take 5 ++ [body.getD 5 (.Pass default), body.getD 6 (.Pass default), body.getD 7 (.Pass default), body.getD 8 (.Pass default), body.getD 9 (.Pass default), body.getD 10 (.Pass default), body.getD 11 (.Pass default), body.getD 12 (.Pass default)]) := by
  refine' ⟨_, _, _, LawFn.ex ?k5 ?k6 ?k7, ?walk⟩
  case k5 => k_is
  case k6 => k_is
  case k7 => intro s v; exact BindsTo.of_eq rfl
  case walk => exact ⟨rfl, rfl⟩
section
variable {w : World} {H₀ : Heap} {mean : ExcName → Option Value} {mg mb : Str → Option Value}
theorem law_turn : ∃ body scope cdv, LawFn w body scope cdv ∧ ∀ {s : Shared} (G : Gd w H₀ mean mg mb) {L : Addr} {V N Dp Df Db Dl I : Addr} {rows zs zs2 zl zp : List Value} {T : Tr} {nV nN n n2 nl np : Nat} {o1 o2 o3 o4 o5 oI : Obj} {fa : List (Addr × Obj)} {m : Str → Option Value} (F : Fr H₀ L s.heap m)
    (W : News H₀ L s.heap ((I, oI) :: loopLed Dp Dl Db Df zp zl zs2 zs np nl n2 n L V N rows T nV nN o1 o2 o3 o4 o5 fa)) (C : LoopC H₀ T rows zp zl zs2 zs fa Dp Dl Db Df N o1 o2 o4 o5)
    {j : Nat} {t : Tok} (hj : j < T.size) (d3 : o3.data = .cell (some (.int ((j : Nat) : Int) t))) (hfirst : m (Str.ofString "first") = some (.ref Df)) (habove : m (Str.ofString "above") = some (.ref V))
    {dp un : Nat} (hd : dp + 60 < recursionLimit) (hun : un + 200 < cLine) {Q : Flow → Shared → Prop}
    (hQ : ∀ h' tk' m', Fr H₀ L h' m' → News H₀ L h' ((I, oI) :: loopLed Dp Dl Db Df zp zl zs2 zs np nl n2 n L V N rows T nV nN o1 o2 o3 o4 o5 fa) → m' (Str.ofString "first") = some (.ref Df) → m' (Str.ofString "above") = some (.ref V) → Q .next { s with heap := h', toks := tk' }),
    wpAny (model PG w) (Ar dp un [envOfC "law" scope L 359 cdv]) (execs (forBody (body.getD 11 (.Pass default))) (envOfC "law" scope L 359 cdv)) Q (fun _ _ => False) s := by
  obtain ⟨b0, c0, e0, y0, hend, _⟩ := law_shape (w := w)
  obtain ⟨b1, c1, e1, y1, pA⟩ := round_over (w := w) (H₀ := H₀) (mean := mean) (mg := mg) (mb := mb)
  obtain ⟨rfl, rfl, rfl⟩ := LawFn.unique y0 y1
  obtain ⟨b1, c1, e1, y1, pB⟩ := round_par (w := w) (H₀ := H₀) (mean := mean) (mg := mg) (mb := mb)
  obtain ⟨rfl, rfl, rfl⟩ := LawFn.unique y0 y1
  obtain ⟨b1, c1, e1, y1, pC⟩ := round_depth (w := w) (H₀ := H₀) (mean := mean) (mg := mg) (mb := mb)
  obtain ⟨rfl, rfl, rfl⟩ := LawFn.unique y0 y1
  obtain ⟨b1, c1, e1, y1, pD⟩ := round_row (w := w) (H₀ := H₀) (mean := mean) (mg := mg) (mb := mb)
  obtain ⟨rfl, rfl, rfl⟩ := LawFn.unique y0 y1
  obtain ⟨b1, c1, e1, y1, pE1⟩ := round_place (w := w) (H₀ := H₀) (mean := mean) (mg := mg) (mb := mb)
  obtain ⟨rfl, rfl, rfl⟩ := LawFn.unique y0 y1
  obtain ⟨b1, c1, e1, y1, pE2⟩ := round_later (w := w) (H₀ := H₀) (mean := mean) (mg := mg) (mb := mb)
  obtain ⟨rfl, rfl, rfl⟩ := LawFn.unique y0 y1
  obtain ⟨b1, c1, e1, y1, pE3⟩ := round_sooner (w := w) (H₀ := H₀) (mean := mean) (mg := mg) (mb := mb)
  obtain ⟨rfl, rfl, rfl⟩ := LawFn.unique y0 y1
  obtain ⟨b1, c1, e1, y1, pF⟩ := round_sib (w := w) (H₀ := H₀) (mean := mean) (mg := mg) (mb := mb)
  obtain ⟨rfl, rfl, rfl⟩ := LawFn.unique y0 y1
  obtain ⟨b1, c1, e1, y1, pG⟩ := round_below (w := w) (H₀ := H₀) (mean := mean) (mg := mg) (mb := mb)
  obtain ⟨rfl, rfl, rfl⟩ := LawFn.unique y0 y1
  obtain ⟨b1, c1, e1, y1, pH⟩ := round_mine (w := w) (H₀ := H₀) (mean := mean) (mg := mg) (mb := mb)
  obtain ⟨rfl, rfl, rfl⟩ := LawFn.unique y0 y1
  obtain ⟨b1, c1, e1, y1, pI⟩ := round_str (w := w) (H₀ := H₀) (mean := mean) (mg := mg) (mb := mb)
  obtain ⟨rfl, rfl, rfl⟩ := LawFn.unique y0 y1
  obtain ⟨b1, c1, e1, y1, pJ⟩ := round_told (w := w) (H₀ := H₀) (mean := mean) (mg := mg) (mb := mb)
  obtain ⟨rfl, rfl, rfl⟩ := LawFn.unique y0 y1
  obtain ⟨b1, c1, e1, y1, pK⟩ := round_line (w := w) (H₀ := H₀) (mean := mean) (mg := mg) (mb := mb)
  obtain ⟨rfl, rfl, rfl⟩ := LawFn.unique y0 y1
  obtain ⟨b1, c1, e1, y1, pL⟩ := round_suffix (w := w) (H₀ := H₀) (mean := mean) (mg := mg) (mb := mb)
  obtain ⟨rfl, rfl, rfl⟩ := LawFn.unique y0 y1
  refine ⟨_, _, _, y1, ?_⟩
  intro s G L V N Dp Df Db Dl I rows zs zs2 zl zp T nV nN n n2 nl np o1 o2 o3 o4 o5 oI fa m F W C j t hj d3 hfirst habove dp un hd hun Q hQ
  obtain ⟨u, hu⟩ := T.node_of 0 (j := j) (Nat.zero_le _) (by omega)
  obtain ⟨path, nd⟩ := Nd.of C.tree hu
  have nd : Nd H₀ T rows fa path u j := nd
  rw [← List.drop_zero (l := forBody _)]
  refine execs_rnd (b := 2) (n := 2) rfl (pA G F W C nd d3 hd hun fun h1 k1 D zo no F1 W1 hzo => ?_)
  refine execs_rnd (b := 3) (n := 1) rfl (pB (s := { s with heap := h1, toks := k1 }) G F1 W1 C nd d3 (by walk_at "mine:look") (by walk_at "mine:look") (by walk_at "mine:look") hzo hd hun fun h2 k2 F2 W2 => ?_)
  refine execs_rnd (b := 4) (n := 1) rfl (pC (s := { s with heap := h2, toks := k2 }) G F2 W2 C nd d3 (by walk_at "mine:look") (by walk_at "mine:look") hzo hd hun fun h3 k3 F3 W3 => ?_)
  refine execs_rnd (b := 5) (n := 1) rfl (pD (s := { s with heap := h3, toks := k3 }) G F3 W3 C nd d3 (by walk_at "mine:look") (by walk_at "mine:look") (by walk_at "mine:look") hzo hd hun fun h4 k4 R rv nr F4 W4 hi => ?_)
  clear F W F1 W1 F2 W2 F3 W3
  refine execs_rnd (b := 6) (n := 1) rfl (pE1 (s := { s with heap := h4, toks := k4 }) G F4 W4 C nd d3 hi (by walk_at "mine:look") hd hun fun h5 k5 tp F5 W5 => ?_)
  refine execs_rnd (b := 7) (n := 1) rfl (pE2 (s := { s with heap := h5, toks := k5 }) G F5 W5 C nd d3 hi (by walk_at "mine:look") (tp := tp) (by walk_at "mine:look") hd hun fun h6 k6 lv F6 W6 hlv => ?_)
  refine execs_rnd (b := 8) (n := 1) rfl (pE3 (s := { s with heap := h6, toks := k6 }) G F6 W6 C nd d3 hi (by walk_at "mine:look") (tp := tp) (by walk_at "mine:look") hd hun fun h7 k7 sv F7 W7 hsv => ?_)
  clear F4 W4 F5 W5 F6 W6
  refine execs_rnd (b := 9) (n := 1) rfl (pF (s := { s with heap := h7, toks := k7 }) G F7 (news_sub W7 fun _ hp => .tail _ hp) C nd d3 (by walk_at "mine:look") hlv hsv (by walk_at "mine:look") (by walk_at "mine:look") hd hun fun h8 k8 F8 W8 => ?_)
  refine execs_rnd (b := 10) (n := 1) rfl (pG (s := { s with heap := h8, toks := k8 }) G F8 W8 C nd d3 (by walk_at "mine:look") hd hun fun h9 k9 B bv nb F9 W9 hbv => ?_)
  refine execs_rnd (b := 11) (n := 1) rfl (pH (s := { s with heap := h9, toks := k9 }) G F9 W9 C nd d3 hbv (by walk_at "mine:look") hd hun fun ha ka M mv nm Fa Wa hmv => ?_)
  clear F7 W7 F8 W8 F9 W9
  refine execs_rnd (b := 12) (n := 1) rfl (pI (s := { s with heap := ha, toks := ka }) G Fa Wa C nd d3 (by walk_at "mine:look") hmv (by walk_at "mine:look") hd hun fun hb kb Fb Wb => ?_)
  refine execs_rnd (b := 14) (n := 2) rfl (pJ (s := { s with heap := hb, toks := kb }) G Fb Wb C nd d3 (by walk_at "mine:look") hd hun fun hc kc stv Fc Wc hstv => ?_)
  refine execs_rnd (b := 15) (n := 1) rfl (pK (s := { s with heap := hc, toks := kc }) G Fc Wc C nd d3 (by walk_at "mine:look") hstv (by walk_at "mine:look") hd hun fun he ke Fe We => ?_)
  refine execs_rnd (b := 17) (n := 2) rfl (pL (s := { s with heap := he, toks := ke }) G Fe We C nd d3 (by walk_at "mine:look") hlv (by walk_at "mine:look") hd hun fun hf kf hdv Ff Wf => ?_)
  show wpAny _ _ (execs (List.drop 17 _) _) _ _ _
  rw [hend]
  exact wpAny_pure (hQ _ _ _ Ff Wf (by walk_at "mine:look") (by walk_at "mine:look"))
end
/-- a statement of the law's own, and then the rest -/
theorem stepL {prog : Program} {w : World} {A : Around} {s : Shared} {st : Stmt} {rest : List Stmt} {env : Env} {Q : Flow → Shared → Prop} (P : Shared → Prop) (h : wpL (model prog w) A (exec st env) (fun f s' => f = .next ∧ P s') (fun _ _ => False) s)
    (k : ∀ s', P s' → s'.heap.life = s.heap.life → wpL (model prog w) A (execs rest env) Q (fun _ _ => False) s') : wpL (model prog w) A (execs (st :: rest) env) Q (fun _ _ => False) s := by
  refine execsL_cons (wpL_mono (wpL_life h) ?_ fun _ _ e => e.1)
  rintro f s' ⟨⟨rfl, hp⟩, gr⟩
  exact k s' hp gr.1
theorem stepsL {prog : Program} {w : World} {A : Around} {s : Shared} {xs ys : List Stmt} {env : Env} {Q : Flow → Shared → Prop} (P : Shared → Prop) (h : wpL (model prog w) A (execs xs env) (fun f s' => f = .next ∧ P s') (fun _ _ => False) s)
    (k : ∀ s', P s' → s'.heap.life = s.heap.life → wpL (model prog w) A (execs ys env) Q (fun _ _ => False) s') : wpL (model prog w) A (execs (xs ++ ys) env) Q (fun _ _ => False) s := by
  refine execsL_app (wpL_mono (wpL_life h) ?_ fun _ _ e => e.1)
  rintro f s' ⟨⟨rfl, hp⟩, gr⟩
  exact k s' hp gr.1
theorem led_ne {L : Nat} {V N D : Addr} {rows : List Value} {T : Tr} {nV nN : Nat} {o1 o2 o3 o4 o5 p1 p2 p3 p4 p5 : Obj} {fa : List (Addr × Obj)} (h : ∀ p ∈ lawLed L V N rows T nV nN o1 o2 o3 o4 o5 fa, p.1 ≠ D) : ∀ p ∈ lawLed L V N rows T nV nN p1 p2 p3 p4 p5 fa, p.1 ≠ D := fun p hp => by
  have e : p.1 ∈ (lawLed L V N rows T nV nN o1 o2 o3 o4 o5 fa).map (·.1) := (List.mem_map_of_mem (f := (·.1)) hp : p.1 ∈ (lawLed L V N rows T nV nN p1 p2 p3 p4 p5 fa).map (·.1))
  obtain ⟨q, hq, e⟩ := List.mem_map.mp e
  rw [← e]
  exact h q hq
theorem calm_left {s₀ s : Shared} (c : Calm s₀ s) : leftWithCleanup s.gens = false := by
  unfold leftWithCleanup
  rw [Array.any_eq_false]
  intro i hi
  have := c.fin i s.gens[i] (Array.getElem?_eq_getElem hi)
  rw [this]
  exact fun h => by cases h
theorem Calm.next {s₀ s : Shared} (c : Calm s₀ s) {h' : Heap} {tk' : Nat} (hl : h'.life = s.heap.life) : Calm s₀ { s with heap := h', toks := tk' } := ⟨c.fin, by show h'.life.registered = []; rw [hl]; exact c.reg, c.os⟩
theorem law_scope {w : World} : ∃ body scope cdv, LawFn w body scope cdv ∧ (∀ v : Value, (([(Str.ofString "script", v)] : List (Str × Value)).all fun y => scope.names.lookup y.1 == some .local || scope.names.lookup y.1 == some .cell) = true) ∧ ((cellsFrom 0 scope.names []).map (·.1)).Nodup ∧ scope.isCoroutine = false ∧ scope.isGenerator = false ∧ scope.kind = .function := by
  refine' ⟨_, _, _, LawFn.ex ?k5 ?k6 ?k7, ?walk⟩
  case k5 => k_is
  case k6 => k_is
  case k7 => intro s v; exact BindsTo.of_eq rfl
  case walk => exact ⟨fun _ => rfl, by decide +kernel, rfl, rfl, rfl⟩
section
variable {w : World} {H₀ : Heap} {mean : ExcName → Option Value} {mg mb : Str → Option Value}
theorem part_ret : ∃ body scope cdv, LawFn w body scope cdv ∧ ∀ {s : Shared} {L : Addr} {dp un : Nat} {outer : List Env} {Q : Flow → Shared → Prop} (hQ : ∀ tk, Q (.ret (.bool true)) { s with toks := tk }),
    wpAny (model PG w) (Ar dp un outer) (exec (body.getD 12 (.Pass default)) (envOfC "law" scope L 359 cdv)) Q (fun _ _ => False) s := by
  refine' ⟨_, _, _, LawFn.ex ?k5 ?k6 ?k7, ?walk⟩
  case k5 => k_is
  case k6 => k_is
  case k7 => intro s v; exact BindsTo.of_eq rfl
  case walk =>
    intro s L dp un outer Q hQ
    dsimp only [List.getD, List.getElem?_cons_zero, List.getElem?_cons_succ, Option.getD_some]
    k_steps
    all_goals exact hQ _
end
section
variable {prog : Program} {w : World} {A : Around} {s : Shared}
/-- a call of a def of the top's that has cells, in the own logic; what is watched stays so -/
theorem call_defLL {R : Result → Shared → Prop} {a : Addr} {o : Obj} {name qual : Str} {params : Arguments} {body : List Stmt} {scope : Scope} {dV kV doc pm cdv ct : Value} {an : Option Addr} {args : Args} {binds : List (Str × Value)}
    (hroom : A.depth < recursionLimit) (ho : s.heap.get? a = some o) (hdata : o.data = .func (fnOf name qual params body scope dV kV doc pm an cdv ct)) (hlim : s.heap.NoLimit) (hcd : s.heap.CodeRec cdv qual)
    (hbind : BindsTo s (fnOf name qual params body scope dV kV doc pm an cdv ct) args binds) (hkind : (binds.all fun y => scope.names.lookup y.1 == some .local || scope.names.lookup y.1 == some .cell) = true)
    (hnd : ((cellsFrom 0 scope.names []).map (·.1)).Nodup)
    (h : ∀ h₁ tk cells, Fr s.heap s.heap.objs.size h₁ (bindL (envOfC qual scope s.heap.objs.size a cdv).kindOf binds fun _ => none) → News s.heap s.heap.objs.size h₁ cells →
      CellsAre (bindC (envOfC qual scope s.heap.objs.size a cdv).kindOf binds fun _ => none) (cellsFrom (s.heap.objs.size + 1) scope.names []) cells → h₁.life = s.heap.life →
      wpL (model prog w) (A.deeper (envOfC qual scope s.heap.objs.size a cdv)) (execs body (envOfC qual scope s.heap.objs.size a cdv)) (fun f s' => R (.ok (.ret (match f with | .ret v => v | _ => .none))) s') (fun _ _ => False) { s with heap := h₁, toks := tk })
    (hco : scope.isCoroutine = false) (hgen : scope.isGenerator = false) (hk : scope.kind = .function) : codeL (model prog w) A (.call (.ref a) args) R s := by
  refine codeL_of_tree ?_
  show wpL _ A.in1 (callAny (.ref a) args) _ _ s
  simp only [callAny]
  refine wpL_bind (wpL_of (wpAny_load ho ?_))
  have hcd' := hcd
  obtain ⟨c, oc, vs, tq, hc, hoc, hdc, hq⟩ := hcd
  simp only [hdata, callFunction, hco, hgen, hc]
  refine wpL_bind (m := field (.ref c) 1) (wpL_of (wpAny_field hoc hdc hq (wpL_bind (wpL_pure ?_))))
  have hb := hbind
  rw [hc] at hb
  refine wpL_bind (wpL_of (hb _ _ _ _ ?_))
  refine wpL_bind (wpL_mono (wpL_life (wpL_of (E := fun _ _ => False) (Q := fun env' s' => env' = envOfC qual scope s.heap.objs.size a (.ref c) ∧ ∃ h₁ tk cells, s' = { s with heap := h₁, toks := tk } ∧ Fr s.heap s.heap.objs.size h₁ (bindL (envOfC qual scope s.heap.objs.size a (.ref c)).kindOf binds fun _ => none) ∧ News s.heap s.heap.objs.size h₁ cells ∧ CellsAre (bindC (envOfC qual scope s.heap.objs.size a (.ref c)).kindOf binds fun _ => none) (cellsFrom (s.heap.objs.size + 1) scope.names []) cells) (wpAny_newFunctionEnv_cells hk (kindsX hkind _) fun env' he s' x => ?made))) ?next fun _ _ e => e.1.elim)
  case made =>
    subst he
    obtain ⟨h₁, tk, rfl, _⟩ := x.done
    have hk₁ := x.toInCall.keep
    obtain ⟨cells, NC, Y⟩ := Cl.news (h₀ := s.heap) (Nat.le_refl _) fun n c hm => ⟨x.cell n c (lookup_of_mem_nodup (cellsFrom_names scope.names 0 (s.heap.objs.size + 1) [] [] rfl ▸ hnd) hm), x.above n c hm⟩
    exact ⟨rfl, h₁, tk, cells, rfl, ⟨x.toInCall.ns, hk₁, Nat.le_refl _⟩, NC, Y⟩
  case next =>
    rintro env' s' ⟨⟨rfl, h₁, tk, cells, rfl, F, N, Y⟩, gr⟩
    refine wpL_bind (wpL_of (wpAny_enterFrame (hlim.keeps F.keep) hroom ?_))
    refine wpL_pure (And.intro rfl ?_)
    subst hc
    exact funcL (h h₁ tk cells F N Y gr.1)
end
theorem law_core (w : World) (s : Shared) (mean : ExcName → Option Value) (mg mb : Str → Option Value) (fa sl0 : Addr) (o : Obj) (vs : List Value) (ns : List Int) (G : Gd w s.heap mean mg mb) (ho : s.heap.get? fa = some o) (hmg : mg (Str.ofString "law") = some (.ref fa)) (hgens : s.gens = #[]) (hreg : s.heap.life.registered = []) (hsl : s.heap.IsList sl0 vs.toArray) (hi : IntsAre vs ns) (hn : ns.length ≤ 63) :
    wpL (model PG w) callerA (call (.ref fa) [.ref sl0]) (LawEnd s) (fun _ _ => False) s := by
  have hfa : fa = 359 := by
    have e : mg (Str.ofString "law") = some (.ref 359) := mg_of G.X G.T.g (by k_is)
    rw [hmg] at e
    exact Value.ref.inj (Option.some.inj e)
  subst hfa
  obtain ⟨b0, c0, e0, y0, hend, hbody⟩ := law_shape (w := w)
  obtain ⟨b1, c1, e1, y1, hk1, hk2, hk3, hk4, hk5⟩ := law_scope (w := w)
  obtain ⟨rfl, rfl, rfl⟩ := LawFn.unique y0 y1
  obtain ⟨b1, c1, e1, y1, p0⟩ := part_a (w := w) (mean := mean) (mg := mg) (mb := mb)
  obtain ⟨rfl, rfl, rfl⟩ := LawFn.unique y0 y1
  obtain ⟨b1, c1, e1, y1, p5⟩ := part_first (w := w) (H₀ := s.heap) (mean := mean) (mg := mg) (mb := mb)
  obtain ⟨rfl, rfl, rfl⟩ := LawFn.unique y0 y1
  obtain ⟨b1, c1, e1, y1, p6⟩ := part_behind (w := w) (H₀ := s.heap) (mean := mean) (mg := mg) (mb := mb)
  obtain ⟨rfl, rfl, rfl⟩ := LawFn.unique y0 y1
  obtain ⟨b1, c1, e1, y1, p7⟩ := part_if1 (w := w) (H₀ := s.heap) (mean := mean) (mg := mg) (mb := mb)
  obtain ⟨rfl, rfl, rfl⟩ := LawFn.unique y0 y1
  obtain ⟨b1, c1, e1, y1, p8⟩ := part_leaves (w := w) (H₀ := s.heap) (mean := mean) (mg := mg) (mb := mb)
  obtain ⟨rfl, rfl, rfl⟩ := LawFn.unique y0 y1
  obtain ⟨b1, c1, e1, y1, p9⟩ := part_if2 (w := w) (H₀ := s.heap) (mean := mean) (mg := mg) (mb := mb)
  obtain ⟨rfl, rfl, rfl⟩ := LawFn.unique y0 y1
  obtain ⟨b1, c1, e1, y1, p10⟩ := part_spot (w := w) (H₀ := s.heap) (mean := mean) (mg := mg) (mb := mb)
  obtain ⟨rfl, rfl, rfl⟩ := LawFn.unique y0 y1
  obtain ⟨b1, c1, e1, y1, p11⟩ := part_loop (w := w) (H₀ := s.heap)
  obtain ⟨rfl, rfl, rfl⟩ := LawFn.unique y0 y1
  obtain ⟨b1, c1, e1, y1, pT⟩ := law_turn (w := w) (H₀ := s.heap) (mean := mean) (mg := mg) (mb := mb)
  obtain ⟨rfl, rfl, rfl⟩ := LawFn.unique y0 y1
  obtain ⟨b1, c1, e1, y1, p12⟩ := part_ret (w := w)
  obtain ⟨rfl, rfl, rfl⟩ := LawFn.unique y0 y1
  obtain ⟨params, dV, kV, doc, pm, ct, oc, an, od, osl, hf, hcd, hbind⟩ := y1
  refine wpL_call (call_defLL (qual := "law") (by decide) (G.X _ _ hf) rfl G.T.nolimit (codeRec_of G.X hcd) (hbind s _) (hk1 _) hk2 (fun h₁ tk cells F N Y hl0 => ?_) hk3 hk4 hk5)
  generalize hen : envOfC "law" _ s.heap.objs.size 359 _ = env
  rw [congrArg (fun b => execs b env) hbody]
  subst hen
  have hd0 : callerA.depth + 1 + 60 < recursionLimit := by decide
  have hu0 : callerA.units + 3 + 200 < cLine := by decide
  refine stepsL (fun s' => ∃ V N rows T nV nN o1 o2 o3 o4 o5 fa m h' tk', s' = { s with heap := h', toks := tk' } ∧ LawSt s.heap s.heap.objs.size V N rows T nV nN o1 o2 o3 o4 o5 fa m h') (wpL_of (p0 G hsl hi hn (dp := callerA.depth + 1) (un := callerA.units + 3) (outer := [_]) (by omega) F N Y fun V N rows T nV nN o1 o2 o3 o4 o5 fa m h' tk' S => ⟨rfl, V, N, rows, T, nV, nN, o1, o2, o3, o4, o5, fa, m, h', tk', rfl, S⟩)) ?_
  rintro s1 ⟨V, N, rows, T, nV, nN, o1, o2, o3, o4, o5, fa, m, h1, tk1, rfl, S⟩ hl1
  have ca1 : Calm s { s with heap := h1, toks := tk1 } := ⟨fun i z hz => by have hz : s.gens[i]? = some z := hz; rw [hgens] at hz; simp at hz, by show h1.life.registered = []; rw [show h1.life = h₁.life from hl1, hl0]; exact hreg, rfl⟩
  have sep : Sep s.heap.objs.size V N fa := ⟨S.lV, S.lN, S.lf⟩
  have tree := S.tree
  have hsz : T.size ≤ 40 := by have := size_cap 3 tree.high; have q : capN 3 = 40 := rfl; omega
  have root := S.root
  have above := S.above
  have d5 := S.nodes
  have cc1 := S.c1
  have cc2 := S.c2
  have cc3 := S.c3
  have cc4 := S.c4
  refine stepL (fun s' => ∃ D zs n, Calm s s' ∧ Fr s.heap s.heap.objs.size s'.heap (fun z => if z = Str.ofString "first" then some (.ref D) else m z) ∧ News s.heap s.heap.objs.size s'.heap ((D, listOf zs.toArray n) :: lawLed s.heap.objs.size V N rows T nV nN o1 o2 o3 o4 o5 fa) ∧ (∀ p ∈ lawLed s.heap.objs.size V N rows T nV nN o1 o2 o3 o4 o5 fa, p.1 ≠ D) ∧ All2 (fun j y => ∃ t, y = Value.int (j : Nat) t) (List.range' 0 T.size) zs)
    (p5 G S ca1 (outer := [_]) hd0 fun s' D zs n a b c d e => ⟨rfl, D, zs, n, a, b, c, d, e⟩) ?_
  rintro s2 ⟨Df, zs, n, ca2, F2, W2, hneD, hz⟩ -
  refine stepL (fun s' => ∃ D zs2 n2 o4', Calm s s' ∧ Fr s.heap s.heap.objs.size s'.heap (fun z => if z = Str.ofString "first" then some (.ref Df) else m z) ∧ News s.heap s.heap.objs.size s'.heap ((D, listOf zs2.toArray n2) :: (Df, listOf zs.toArray n) :: lawLed s.heap.objs.size V N rows T nV nN o1 o2 o3 o4' o5 fa) ∧ o4'.data = .cell (some (.ref D)) ∧ (∀ p ∈ (Df, listOf zs.toArray n) :: lawLed s.heap.objs.size V N rows T nV nN o1 o2 o3 o4 o5 fa, p.1 ≠ D) ∧ All2 (fun j y => ∃ t, y = Value.int (j : Nat) t) (T.postN 0) zs2)
    (p6 G F2 W2 (by walk_at "mine:look") tree sep hneD cc4 ca2 (outer := [_]) hd0 fun s' D zs n o4' a b c d e f => ⟨rfl, D, zs, n, o4', a, b, c, d, e, f⟩) ?_
  rintro s3 ⟨Db, zs2, n2, o4', ca3, F3, W3, d4, hneD2, hz2⟩ -
  have hneb : ∀ p ∈ lawLed s.heap.objs.size V N rows T nV nN o1 o2 o3 o4 o5 fa, p.1 ≠ Db := fun p hp => hneD2 p (.tail _ hp)
  refine stepL (fun s' => ∃ h' tk', s' = { s3 with heap := h', toks := tk' } ∧ Fr s.heap s.heap.objs.size h' (fun z => if z = Str.ofString "first" then some (.ref Df) else m z) ∧ News s.heap s.heap.objs.size h' ((Db, listOf zs2.toArray n2) :: (Df, listOf zs.toArray n) :: lawLed s.heap.objs.size V N rows T nV nN o1 o2 o3 o4' o5 fa))
    (wpL_of (p7 (s₀ := s) G F3 W3 (by walk_at "mine:look") d4 d5 (ints_of hz) (ints_of hz2) hsz (outer := [_]) hd0 (by omega) fun h' tk' a b => ⟨rfl, h', tk', rfl, a, b⟩)) ?_
  rintro s4 ⟨h4, tk4, rfl, F4, W4⟩ hl4
  have ca4 := ca3.next (tk' := tk4) hl4
  clear F2 W2 F3 W3
  refine stepL (fun s' => ∃ h' tk' D zl nl o2', s' = { s3 with heap := h', toks := tk' } ∧ Fr s.heap s.heap.objs.size h' (fun z => if z = Str.ofString "first" then some (.ref Df) else m z) ∧ News s.heap s.heap.objs.size h' ((D, listOf (List.toArray zl) nl) :: (Db, listOf zs2.toArray n2) :: (Df, listOf zs.toArray n) :: lawLed s.heap.objs.size V N rows T nV nN o1 o2' o3 o4' o5 fa) ∧ o2'.data = .cell (some (.ref D)) ∧ IntsAre zl ((T.leafN 0).map Int.ofNat) ∧ (∀ p ∈ (Db, listOf zs2.toArray n2) :: (Df, listOf zs.toArray n) :: lawLed s.heap.objs.size V N rows T nV nN o1 o2 o3 o4' o5 fa, p.1 ≠ D))
    (wpL_of (p8 (s := { s3 with heap := h4, toks := tk4 }) G F4 W4 (by walk_at "mine:look") tree sep cc2 d5 hz hsz (led_ne hneD) (led_ne hneb) (outer := [_]) hd0 fun h' tk' D zl nl o2' a b c d e => ⟨rfl, h', tk', D, zl, nl, o2', rfl, a, b, c, d, e⟩)) ?_
  rintro s5 ⟨h5, tk5, Dl, zl, nl, o2', rfl, F5, W5, d2, hzl, hneD3⟩ hl5
  have ca5 := ca4.next (tk' := tk5) hl5
  have hnel : ∀ p ∈ lawLed s.heap.objs.size V N rows T nV nN o1 o2 o3 o4' o5 fa, p.1 ≠ Dl := fun p hp => hneD3 p (.tail _ (.tail _ hp))
  refine stepL (fun s' => Calm s s' ∧ Fr s.heap s.heap.objs.size s'.heap (fun z => if z = Str.ofString "first" then some (.ref Df) else m z) ∧ News s.heap s.heap.objs.size s'.heap ((Dl, listOf zl.toArray nl) :: (Db, listOf zs2.toArray n2) :: (Df, listOf zs.toArray n) :: lawLed s.heap.objs.size V N rows T nV nN o1 o2' o3 o4' o5 fa))
    (p9 (s := { s3 with heap := h5, toks := tk5 }) G F5 W5 (by walk_at "mine:look") tree d2 d4 hzl hz2 ca5 (outer := [_]) hd0 (by omega) fun s' a b c => ⟨rfl, a, b, c⟩) ?_
  rintro s6 ⟨ca6, F6, W6⟩ -
  clear F4 W4 F5 W5
  refine stepL (fun s' => ∃ h' tk' D zp np o1', s' = { s6 with heap := h', toks := tk' } ∧ Fr s.heap s.heap.objs.size h' (fun z => if z = Str.ofString "first" then some (.ref Df) else m z) ∧ News s.heap s.heap.objs.size h' (loopLed D Dl Db Df zp zl zs2 zs np nl n2 n s.heap.objs.size V N rows T nV nN o1' o2' o3 o4' o5 fa) ∧ o1'.data = .cell (some (.ref D)) ∧ All2 (fun j y => ∃ t, y = Value.int ((T.postN 0).idxOf j : Nat) t) (List.range' 0 T.size) zp ∧ (∀ p ∈ (Dl, listOf zl.toArray nl) :: (Db, listOf zs2.toArray n2) :: (Df, listOf zs.toArray n) :: lawLed s.heap.objs.size V N rows T nV nN o1 o2' o3 o4' o5 fa, p.1 ≠ D))
    (wpL_of (p10 (s := s6) G F6 W6 (by walk_at "mine:look") sep cc1 d4 hz (ints_of hz2) hsz (led_ne hneD) (led_ne hneb) (led_ne hnel) (outer := [_]) hd0 fun h' tk' D zp np o1' a b c d e => ⟨rfl, h', tk', D, zp, np, o1', rfl, a, b, c, d, e⟩)) ?_
  rintro s7 ⟨h7, tk7, Dp, zp, np, o1', rfl, F7, W7, d1, hzp, hneD4⟩ hl7
  have ca7 := ca6.next (tk' := tk7) hl7
  have C : LoopC s.heap T rows zp zl zs2 zs fa Dp Dl Db Df N o1' o2' o4' o5 := ⟨tree, d1, d2, d4, d5, hz, hzl, hzp, hsz⟩
  have hcell : ∀ o3' : Obj, ((s.heap.objs.size + 1 + 1 + 1, o3') : Addr × Obj) ∈ lawLed s.heap.objs.size V N rows T nV nN o1 o2 o3' o4 o5 fa := fun o3' => .tail _ (.tail _ (.tail _ (.tail _ (.head _))))
  have hne : ∀ D ∈ [Dp, Dl, Db, Df], @Ne Nat D (s.heap.objs.size + 1 + 1 + 1) := by
    intro D hD
    rcases List.mem_cons.mp hD with rfl | hD
    · exact Ne.symm (led_ne (fun p hp => hneD4 p (.tail _ (.tail _ (.tail _ hp)))) _ (hcell o3))
    rcases List.mem_cons.mp hD with rfl | hD
    · exact Ne.symm (led_ne hnel _ (hcell o3))
    rcases List.mem_cons.mp hD with rfl | hD
    · exact Ne.symm (led_ne hneb _ (hcell o3))
    · rw [List.mem_singleton.mp hD]
      exact Ne.symm (led_ne hneD _ (hcell o3))
  refine stepL (fun s' => ∃ h' tk' m' o3', s' = { s6 with heap := h', toks := tk' } ∧ Fr s.heap s.heap.objs.size h' m' ∧ News s.heap s.heap.objs.size h' (loopLed Dp Dl Db Df zp zl zs2 zs np nl n2 n s.heap.objs.size V N rows T nV nN o1' o2' o3' o4' o5 fa))
    (wpL_of (p11 (s := { s6 with heap := h7, toks := tk7 }) F7 W7 (by walk_at "mine:look") (by walk_at "mine:look") sep cc3 hz hne (dp := callerA.depth + 1) (un := callerA.units + 3) (outer := [_]) (fun j hj h tk m t o3' I oI F' W' hf ha d3 => pT (s := { s6 with heap := h, toks := tk }) G F' W' C hj d3 hf ha hd0 hu0 fun h' tk' m' a b c d => ⟨rfl, h', tk', m', rfl, a, b, c, d⟩) fun h' tk' m' o3' a b => ⟨rfl, h', tk', m', o3', rfl, a, b⟩)) ?_
  rintro s8 ⟨h8, tk8, m8, o8, rfl, F8, W8⟩ hl8
  have ca8 := ca7.next (tk' := tk8) hl8
  refine execsL_cons (wpL_of (p12 (outer := [_]) fun tk => ?_))
  show LawEnd s (.bool true) { s6 with heap := h8, toks := tk }
  have hleft := calm_left ca8
  exact ⟨rfl, F8.keep, ca8.os, hleft⟩
theorem law_holds : PySem.Challenge.rw_bu5039_01.Holds := law_head law_core
end
end
end
end Mine
theorem PySem.Challenge.cw_bu5039_01_holds : PySem.Challenge.rw_bu5039_01.Holds :=
  Mine.law_holds
