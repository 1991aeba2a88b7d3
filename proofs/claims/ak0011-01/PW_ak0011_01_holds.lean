import PyProof.Rows.All
import Wide.All
import OpenK.AllK
import Wide.FinOn
import PySem.Challenge.RW_ak0011_01
set_option Elab.async false
set_option linter.unusedVariables false

section
open PySem PySem.W
namespace Mine

section
variable (den : Code → Sem Fin) (prog : Program) (w : World)

/-- nothing is registered -/
def calmed (s : Shared) : Shared := { s with heap := { s.heap with life := {} } }
theorem calmed_forget (s : Shared) : calmed s.forget = (calmed s).forget := rfl
theorem closingShows_calmed {s : Shared} (h : s.heap.life.registered = []) (fs : List Frame) (c : Code) (g : Bool) : closingShows (calmed s) fs c g = closingShows s fs c g := by
  have e : delegateShows (calmed s) = delegateShows s := by
    funext v
    unfold delegateShows
    simp only [calmed, h]
    rfl
  unfold closingShows
  rw [e]

/-- a guarded yield whose closing would show nothing, were nothing registered -/
def hushed (s : Shared) (t : Thread) : Bool :=
  match t.cur, splitAtGen t.stack with
  | .yield _ guarded _ _, some (frames, _, _) => !closingShows (calmed s) frames t.code guarded
  | _, _ => false

def stepJ (s : Shared) (t : Thread) : Step :=
  if t.loud = true ∧ hushed s t = false then .halt (.stuck "mine:not-calm") s else stepK den prog w s t

def runJ : Nat → Shared → Thread → Run
  | 0, s, t => .running s t
  | n + 1, s, t =>
    match stepJ den prog w s t with
    | .go s' t' => runJ n s' t'
    | .halt o s' => .halted o s'

theorem delegateShows_forget (s : Shared) (v : Value) : delegateShows s.forget v = delegateShows s v := rfl
theorem closingShows_forget (s : Shared) (fs : List Frame) (c : Code) (g : Bool) : closingShows s.forget (forgetAll fs) c g = closingShows s fs c g := by
  unfold closingShows
  rw [any_guarded_forgetAll]; rfl
theorem hushed_forget (s : Shared) (t : Thread) : hushed s.forget t.forget = hushed s t := by
  obtain ⟨cur, code, pos, stack⟩ := t
  cases cur <;> try rfl
  simp only [hushed, Thread.forget, splitAtGen_forgetAll]
  cases splitAtGen stack with
  | none => rfl
  | some x => obtain ⟨fs, b, r⟩ := x; simp only [Option.map_some, calmed_forget, closingShows_forget]
theorem loud_forget (t : Thread) : t.forget.loud = t.loud := by
  obtain ⟨cur, code, pos, stack⟩ := t
  simp only [Thread.loud, Thread.atCollectorCode, Thread.atExit, Thread.yieldsInsideHandler, Thread.forget]
  cases cur with
  | yield v g l k => simp only [splitAtGen_forgetAll]; cases splitAtGen stack <;> simp
  | _ => rfl

theorem lifeStep_hushed (others : List Value) (s : Shared) (t : Thread) (h : hushed s t = true) (hz : s.asleep) :
    lifeStep den prog w others s t = step den prog w s t := by
  have hc := hz.2
  obtain ⟨cur, code, pos, stack⟩ := t
  cases cur with
  | yield v g l k =>
    simp only [hushed] at h
    cases hs : splitAtGen stack with
    | none => rw [hs] at h; cases h
    | some x =>
      obtain ⟨fs, b, r⟩ := x
      simp only [hs, Bool.not_eq_true', closingShows_calmed hz.1] at h
      unfold lifeStep
      split
      · simp [collectorTurn?, hs, h, Thread.atItsEnd, stepCounting, hc]
      · simp [stepCounting, hc]
  | _ => simp [hushed] at h

theorem run_hushed (s : Shared) (t : Thread) (h : hushed s t = true) (hz : s.asleep) :
    (Config.single s t).run den prog w 0 = (step den prog w s t).lift := by
  have hl := fun others => lifeStep_hushed den prog w others s t h hz
  obtain ⟨cur, code, pos, stack⟩ := t
  cases cur with
  | yield v g l k =>
    simp only [Config.run, Config.single]
    simp [hl, others_single, frozenBadly, ThreadState.insideWrite, Thread.finalizes]
    split <;> simp_all [Step.lift, Config.single]
  | _ => simp [hushed] at h

theorem pick_hushed (s : Shared) (t : Thread) (h : hushed s t = true) (hr : s.heap.life.registered = []) :
    (Config.single s t).pick w = .ok (.run 0, .single s t) := by
  have h1 : (Config.single s t).collect? w.params = none := by
    simp [Config.collect?, Config.single, (nothing_to_collect _ _ _ s t hr).1]
  have h2 : (Config.single s t).collectable = [] := by
    simp [Config.collectable, Config.single, (nothing_to_collect w.params _ _ s t hr).2]
  have hm : (Config.single s t).moves w.params.profile = [.run 0] := by
    obtain ⟨cur, code, pos, stack⟩ := t
    cases cur with
    | yield v g l k => simp_all [Config.moves, Config.single, movesFrom, Thread.moves, Thread.atomic, Thread.rests, Thread.tells]
    | _ => simp [hushed] at h
  simp only [Config.pick, h1, h2, Config.pickThread, hm]
  cases w.params.lifetimes <;> simp

theorem sstep_hushed (s : Shared) (t : Thread) (h : hushed s t = true) (hr : s.asleep) : sstep den prog w (.single s t) = (step den prog w s t).lift := by
  simp only [sstep, pick_hushed w s t h hr.1, Config.move, run_hushed den prog w s t h hr]

theorem step_go_of_same {sr s s₁ : Shared} {tr t t₁ : Thread} (hs : sr.forget = s.forget) (ht : tr.forget = t.forget) (h : stepK den prog w s t = .go s₁ t₁) :
    ∃ sr₁ tr₁, step den prog w sr tr = .go sr₁ tr₁ ∧ sr₁.forget = s₁.forget ∧ tr₁.forget = t₁.forget := by
  have e := (stepK_forget den prog w s t).trans (step_same den prog w hs.symm ht.symm)
  rw [h] at e
  cases hr : step den prog w sr tr with
  | halt o x => rw [hr] at e; cases e
  | go sr₁ tr₁ =>
    rw [hr] at e
    simp only [Step.forget] at e
    injection e with e1 e2
    exact ⟨sr₁, tr₁, rfl, e1.symm, e2.symm⟩

theorem sstep_of_stepJ {sr s s₁ : Shared} {tr t t₁ : Thread} (hs : sr.forget = s.forget) (ht : tr.forget = t.forget) (hz : sr.asleep) (h : stepJ den prog w s t = .go s₁ t₁) :
    ∃ sr₁ tr₁, sstep den prog w (.single sr tr) = .go (.single sr₁ tr₁) ∧ sr₁.forget = s₁.forget ∧ tr₁.forget = t₁.forget ∧ sr₁.asleep := by
  unfold stepJ at h
  split at h
  · cases h
  · rename_i hq
    obtain ⟨sr₁, tr₁, e, e1, e2⟩ := step_go_of_same den prog w hs ht h
    have hz₁ : sr₁.asleep := Shared.asleep_of_life (step_life den prog w sr sr₁ tr tr₁ e) hz
    refine ⟨sr₁, tr₁, ?_, e1, e2, hz₁⟩
    cases hl : t.loud with
    | true =>
      have hh : hushed s t = true := by cases hh : hushed s t <;> simp_all
      have hh' : hushed sr tr = true := by rw [← hushed_forget, hs, ht, hushed_forget]; exact hh
      rw [sstep_hushed den prog w sr tr hh' hz, e]; rfl
    | false =>
      have hrf : t.refused = false := by
        cases hr : t.refused with
        | false => rfl
        | true =>
          obtain ⟨what, e'⟩ := stepK_refused den prog w (s := s) hr
          rw [e'] at h; cases h
      have hc : tr.calm = true := by
        rw [← Thread.calm_forget, ht, Thread.calm_forget, Thread.calm_eq, hl, hrf]; rfl
      rcases sstep_single den prog w sr tr hc hz with q | q
      · rw [q, e]; rfl
      · rw [q] at e; cases e

theorem sched_runJ : ∀ (n : Nat) {sr s s' : Shared} {tr t t' : Thread}, sr.forget = s.forget → tr.forget = t.forget → sr.asleep → runJ den prog w n s t = .running s' t' →
    ∃ sr' tr', schedN den prog w n (.single sr tr) = .running (.single sr' tr') ∧ sr'.forget = s'.forget ∧ tr'.forget = t'.forget ∧ sr'.asleep ∧ sr'.heap.life = sr.heap.life
  | 0, sr, s, s', tr, t, t', hs, ht, hz, h => by
    simp only [runJ] at h
    cases h
    exact ⟨sr, tr, rfl, hs, ht, hz, rfl⟩
  | n + 1, sr, s, s', tr, t, t', hs, ht, hz, h => by
    simp only [runJ] at h
    cases hj : stepJ den prog w s t with
    | halt o x => rw [hj] at h; cases h
    | go s₁ t₁ =>
      rw [hj] at h
      obtain ⟨sr₁, tr₁, e, e1, e2, hz₁⟩ := sstep_of_stepJ den prog w hs ht hz hj
      obtain ⟨sr', tr', q, q1, q2, q3, q4⟩ := sched_runJ n e1 e2 hz₁ h
      refine ⟨sr', tr', by simp only [schedN, e]; exact q, q1, q2, q3, q4.trans ?_⟩
      have a : sr₁.heap = s₁.heap := (Shared.forget_eq e1).1
      unfold stepJ at hj
      split at hj
      · cases hj
      · obtain ⟨sr₂, tr₂, e', e1', _⟩ := step_go_of_same den prog w hs ht hj
        rw [a, ← (Shared.forget_eq e1').1]
        exact step_life den prog w sr sr₂ tr tr₂ e'

def okGen (s : Shared) : GenState → Prop
  | .suspended _ _ c _ fs true => closingShows (calmed s) fs c true = false
  | _ => True

theorem okGen_forget {s s' : Shared} {x x' : GenState} (hs : s.forget = s'.forget) (hx : x.forget = x'.forget) (h : okGen s' x') : okGen s x := by
  cases x with
  | suspended k l c p fs cl =>
    cases x' with
    | suspended k' l' c' p' fs' cl' =>
      simp only [GenState.forget, GenState.suspended.injEq] at hx
      obtain ⟨_, _, rfl, _, hf, rfl⟩ := hx
      cases cl with
      | false => trivial
      | true =>
        show closingShows (calmed s) fs c true = false
        have h' : closingShows (calmed s') fs' c true = false := h
        rw [← closingShows_forget, ← calmed_forget, hs, hf, calmed_forget, closingShows_forget]; exact h'
    | _ => simp [GenState.forget] at hx
  | _ => trivial

theorem clean_of_ok {s : Shared} (hz : s.asleep) (all : Bool) (h : ∀ x ∈ s.gens, okGen s x) : leftWithCleanup (forgetSuspended all s).gens = false := by
  unfold leftWithCleanup forgetSuspended
  rw [Array.any_eq_false']
  intro x hx
  obtain ⟨y, hy, rfl⟩ := Array.mem_map.mp hx
  have := h y hy
  cases y with
  | suspended k l c p fs cl =>
    cases cl with
    | true =>
      have h' : closingShows s fs c true = false := (closingShows_calmed hz.1 fs c true).symm.trans this
      simp [h']
    | false => simp
  | _ => simp

theorem lifeStep_end (others : List Value) (s : Shared) (r : Result) (c : Code) (p : Pos) (hz : s.asleep) :
    lifeStep den prog w others s ⟨leafOf r, c, p, []⟩ = step den prog w (forgetSuspended (w.params.lifetimes == .anyTime) s) ⟨leafOf r, c, p, []⟩ := by
  rw [lifeStep_calm0 den prog w others s _ (by cases r <;> rfl) hz]
  cases r <;> rfl

theorem sstep_end {s : Shared} (r : Result) (c : Code) (p : Pos) (hz : s.asleep) (h : ∀ x ∈ s.gens, okGen s x) :
    sstep den prog w (.single s ⟨leafOf r, c, p, []⟩) = .halt (outcomeOf r) (forgetSuspended (w.params.lifetimes == .anyTime) s) := by
  have hc : Thread.calm ⟨leafOf r, c, p, []⟩ = true := by cases r <;> rfl
  have hl := fun others => lifeStep_end den prog w others s r c p hz
  have hst : step den prog w (forgetSuspended (w.params.lifetimes == .anyTime) s) ⟨leafOf r, c, p, []⟩ = .halt (outcomeOf r) (forgetSuspended (w.params.lifetimes == .anyTime) s) := by
    have := clean_of_ok hz (w.params.lifetimes == .anyTime) h
    cases r <;> simp [leafOf, step, finish, outcomeOf, this]
  simp only [sstep, pick_single w s _ hc hz.1, Config.move]
  have hf : Thread.finalizes ⟨leafOf r, c, p, []⟩ = false := by cases r <;> rfl
  have hrun : (Config.single s ⟨leafOf r, c, p, []⟩).run den prog w 0 = .halt (outcomeOf r) (forgetSuspended (w.params.lifetimes == .anyTime) s) := by
    have hl' : ∀ others, lifeStep den prog w others s ⟨leafOf r, c, p, []⟩ = .halt (outcomeOf r) (forgetSuspended (w.params.lifetimes == .anyTime) s) := fun o => (hl o).trans hst
    clear hl hst
    generalize outcomeOf r = oc at hl' ⊢
    generalize forgetSuspended (w.params.lifetimes == .anyTime) s = se at hl' ⊢
    have hcur : (match leafOf r with | .thread _ | .fork _ _ | .await _ _ _ _ _ => false | _ => true) = true := by cases r <;> rfl
    generalize leafOf r = t at hf hl' hcur ⊢
    cases t <;> simp at hcur <;> simp [Config.run, Config.single, others_single, hl', hf]
  rw [hrun]

/-- the whole: a run of mine to a leaf with an empty stack is a run of the scheduler that halts -/
theorem halts_of_runJ {s s' : Shared} {t : Thread} {n : Nat} {r : Result} {c : Code} {p : Pos} (hz : s.asleep) (h : runJ den prog w n s t = .running s' ⟨leafOf r, c, p, []⟩) (hg : ∀ x ∈ s'.gens, okGen s' x) :
    ∃ sr, schedN den prog w (n + 1) (.single s t) = .halted (outcomeOf r) sr ∧ sr.heap = s'.heap ∧ sr.os = s'.os ∧ sr.heap.life = s.heap.life := by
  obtain ⟨sr, tr, q, q1, q2, q3, q4⟩ := sched_runJ den prog w n rfl rfl hz h
  obtain ⟨cur, code, pos, stack⟩ := tr
  simp only [Thread.forget, Thread.mk.injEq, forgetAll_nil] at q2
  obtain ⟨rfl, rfl, rfl, hst⟩ := q2
  cases stack with
  | cons F st => rw [forgetAll_cons] at hst; cases hst
  | nil =>
    obtain ⟨eh, _, _, eo, eg⟩ := Shared.forget_eq q1
    have hg' : ∀ x ∈ sr.gens, okGen sr x := by
      intro x hx
      obtain ⟨i, hi, rfl⟩ := Array.mem_iff_getElem.mp hx
      have e : (sr.gens.map GenState.forget)[i]? = (s'.gens.map GenState.forget)[i]? := by rw [eg]
      simp only [Array.getElem?_map, Array.getElem?_eq_getElem hi, Option.map_some] at e
      cases hj : s'.gens[i]? with
      | none => rw [hj] at e; cases e
      | some y =>
        rw [hj] at e
        simp only [Option.map_some, Option.some.injEq] at e
        exact okGen_forget q1 e (hg y (Array.mem_of_getElem? hj))
    have hend := sstep_end den prog w r code pos q3 hg'
    refine ⟨forgetSuspended (w.params.lifetimes == .anyTime) sr, ?_, eh, eo, q4⟩
    have add : ∀ (a : Nat) (c₀ c₁ : Config), schedN den prog w a c₀ = .running c₁ → schedN den prog w (a + 1) c₀ = schedN den prog w 1 c₁ := by
      intro a
      induction a with
      | zero => intro c₀ c₁ e; simp only [schedN] at e; cases e; rfl
      | succ a ih =>
        intro c₀ c₁ e
        rw [schedN] at e ⊢
        cases hs : sstep den prog w c₀ with
        | go c₂ => simp only [hs] at e ⊢; exact ih c₂ c₁ e
        | halt o x => simp only [hs] at e; cases e
    rw [add n _ _ q]
    simp only [schedN, hend]
end
end Mine
end

section
open PySem PySem.W
namespace Mine

section
variable {prog : Program} {w : World} {POST : Result → Shared → Prop}

/-- this configuration, with its whole stack, reaches a leaf with POST -/
def Good (prog : Program) (w : World) (POST : Result → Shared → Prop) (s : Shared) (t : Thread) : Prop :=
  ∃ n s' r c p, runJ (denote table) prog w n s t = .running s' ⟨leafOf r, c, p, []⟩ ∧ POST r s'

theorem Good.step {s s₁ : Shared} {t t₁ : Thread} (h : stepJ (denote table) prog w s t = .go s₁ t₁) (g : Good prog w POST s₁ t₁) : Good prog w POST s t := by
  obtain ⟨n, s', r, c, p, hr, hp⟩ := g
  exact ⟨n + 1, s', r, c, p, by simp only [runJ, h]; exact hr, hp⟩

theorem stepJ_of_step {s s₁ : Shared} {t t₁ : Thread} (h : (model prog w).step s t = .go s₁ t₁) : stepJ (denote table) prog w s t = .go s₁ t₁ := by
  unfold Model.step stepI at h
  split at h
  · cases h
  · rename_i hl
    unfold stepJ
    rw [if_neg (fun q => hl q.1)]
    exact h

theorem Good.mstep {s s₁ : Shared} {t t₁ : Thread} (h : (model prog w).step s t = .go s₁ t₁) (g : Good prog w POST s₁ t₁) : Good prog w POST s t :=
  g.step (stepJ_of_step h)

theorem good_end {s : Shared} {r : Result} {c : Code} {p : Pos} (h : POST r s) : Good prog w POST s ⟨leafOf r, c, p, []⟩ := ⟨0, s, r, c, p, rfl, h⟩

theorem good_reach {base : List Frame} {s s' : Shared} {t : Sem Fin} {c : Code} {p : Pos} {pre : List Frame} {e : End} (h : Reach (model prog w) base s t c p pre s' e)
    (k : ∀ t' c' p' pre', Exits e t' c' p' pre' → Good prog w POST s' ⟨t', c', p', pre' ++ base⟩) : Good prog w POST s ⟨t, c, p, pre ++ base⟩ := by
  induction h with
  | exit hx => exact k _ _ _ _ hx
  | step hs _ ih => exact (ih k).mstep hs

/-- the bridge: what the library shows of a prefix is what my runs do -/
theorem good_wrap {α : Type} {Γ : Ctx} {st : List Frame} (hΓ : Γ.Fits st) (K : α → Sem Fin) (H : Value → Sem Fin) (gd : Bool → Bool) (lv : List Value → List Value) (m : Sem α) :
    ∀ {Q : α → Pos → Shared → Prop} {E : Value → Pos → Shared → Prop} {p : Pos} {s : Shared}, Sem.wp (model prog w) Γ m Q E p s →
      (∀ a p' s', Q a p' s' → Good prog w POST s' ⟨K a, Γ.code, p', st⟩) →
      (∀ x p' s', E x p' s' → Good prog w POST s' ⟨H x, Γ.code, p', st⟩) →
      Good prog w POST s ⟨m.wrap K H gd lv, Γ.code, p, st⟩ := by
  induction m with
  | pure a => intro Q E p s h hQ _; exact hQ a p s h
  | raise x => intro Q E p s h _ hE; exact hE x p s h
  | unsupported what => intro Q E p s h; exact h.elim
  | finish x => intro Q E p s h; exact h.elim
  | register a k => intro Q E p s h; exact h.elim
  | yield v g l k => intro Q E p s h; exact h.elim
  | fork c k => intro Q E p s h; exact h.elim
  | await a f d l k => intro Q E p s h; exact h.elim
  | rule tag k ih => intro Q E p s h hQ hE; exact (ih () h hQ hE).mstep (step_rule ..)
  | «at» p' k ih => intro Q E p s h hQ hE; exact (ih () h hQ hE).mstep (step_at ..)
  | load a part k ih => intro Q E p s h hQ hE; obtain ⟨o, ho, h⟩ := h; exact (ih o h hQ hE).mstep (step_load _ _ _ _ _ _ _ ho)
  | update a part f k ih => intro Q E p s h hQ hE; obtain ⟨ha, h⟩ := h; exact (ih () h hQ hE).mstep (step_update _ _ _ _ _ _ _ _ ha)
  | alloc o k ih => intro Q E p s h hQ hE; exact (ih _ h hQ hE).mstep (step_alloc ..)
  | loadIfAlive a k ih => intro Q E p s h hQ hE; exact (ih _ h hQ hE).mstep (step_loadIfAlive ..)
  | point l k ih => intro Q E p s h hQ hE; exact (ih () h hQ hE).mstep (step_point ..)
  | fresh k ih => intro Q E p s h hQ hE; exact (ih _ h hQ hE).mstep (step_fresh ..)
  | ask k ih => intro Q E p s h hQ hE; exact (ih _ h hQ hE).mstep (step_ask ..)
  | choose src n k ih => intro Q E p s h hQ hE; obtain ⟨hn, h⟩ := h; exact (ih _ h hQ hE).mstep (step_choose _ _ _ _ _ _ _ hn)
  | os q l k ih => intro Q E p s h hQ hE; exact (ih _ h hQ hE).mstep (step_os ..)
  | handled own k ih =>
    intro Q E p s h hQ hE
    refine (ih _ h hQ hE).mstep ?_
    show (model prog w).step s ⟨.handled own _, Γ.code, p, st⟩ = _
    rw [step_handled]
    cases own
    · rw [hΓ.handled]; rfl
    · rw [hΓ.own]; rfl
  | newGen c k ih => intro Q E p s h hQ hE; exact (ih _ h hQ hE).mstep (step_newGen ..)
  | genState g k ih => intro Q E p s h hQ hE; obtain ⟨x, hg, h⟩ := h; exact (ih _ h hQ hE).mstep (step_genState _ _ _ _ _ _ hg)
  | stack k ih =>
    intro Q E p s h hQ hE
    refine (ih _ h hQ hE).mstep ?_
    rw [hΓ.below]; exact step_stack ..
  | thread k ih => intro Q E p s h hQ hE; exact (ih _ h hQ hE).mstep (step_thread ..)
  | call c h g l k ih =>
    intro Q E p s hw hQ hE
    obtain ⟨r, s₁, hret, hw⟩ := hw
    refine Good.mstep (step_call ..) ?_
    have hr := runs_reach hret (.ret (fun x => (k x).wrap K H gd lv) h (gd g) (lv l) Γ.code p [] :: st) (hΓ.enter c _ h (gd g) (lv l) p [])
    refine good_reach (pre := []) hr ?_
    rintro _ c' p' _ ⟨rfl, rfl⟩
    exact (ih r hw hQ hE).mstep (step_leaf_ret ..)
  | resume g r l k ih =>
    intro Q E p s hw hQ hE
    obtain ⟨res, s₁, hwk, hw⟩ := hw
    have next := ih res hw hQ hE
    show Good prog w POST s ⟨.resume g r (lv l) _, Γ.code, p, st⟩
    unfold Wakes at hwk
    cases hg : s.gens[g]? with
    | none => rw [hg] at hwk; exact hwk.elim
    | some gs =>
      rw [hg] at hwk
      cases gs with
      | fresh c =>
        cases r with
        | send v =>
          by_cases hv : v = .none
          · subst hv
            obtain ⟨e₁, s₂, hr, hq, rfl, rfl⟩ := hwk
            refine Good.mstep (step_resume_fresh _ _ _ _ _ _ _ hg) ?_
            refine good_reach (pre := []) (runs_reach hr (.gen g (fun x => (k x).wrap K H gd lv) (lv l) Γ.code p :: st) (hΓ.wake c g _ (lv l) p)) ?_
            intro t' c' p' pre' hx
            exact next.mstep (step_exit_gen s₂ g _ _ _ _ _ hx hq)
          · have hwk' : res = .justStarted ∧ s₁ = s := by
              cases v <;> first | exact absurd rfl hv | exact hwk
            obtain ⟨rfl, rfl⟩ := hwk'
            exact next.mstep (step_resume_justStarted _ _ _ _ _ _ _ hg hv)
        | throw x =>
          obtain ⟨rfl, rfl⟩ := hwk
          exact next.mstep (step_resume_throwFresh _ _ _ _ _ _ _ _ hg)
      | suspended k₀ l₀ c₀ p₀ fs₀ cl =>
        obtain ⟨e₁, s₂, hr, hq, rfl, rfl⟩ := hwk
        refine Good.mstep (step_resume_suspended _ _ _ _ _ _ _ _ hg) ?_
        refine good_reach (pre := fs₀) (runs_reach hr (.gen g (fun x => (k x).wrap K H gd lv) (lv l) Γ.code p :: st) (hΓ.wake c₀ g _ (lv l) p)) ?_
        intro t' c' p' pre' hx
        exact next.mstep (step_exit_gen s₂ g _ _ _ _ _ hx hq)
      | running => obtain ⟨rfl, rfl⟩ := hwk; exact next.mstep (step_resume_running _ _ _ _ _ _ _ _ hg)
      | finished => obtain ⟨rfl, rfl⟩ := hwk; exact next.mstep (step_resume_finished _ _ _ _ _ _ _ _ hg)

/-- at any position -/
def G (prog : Program) (w : World) (POST : Result → Shared → Prop) (c : Code) (t : Sem Fin) (st : List Frame) (s : Shared) : Prop :=
  ∀ p, Good prog w POST s ⟨t, c, p, st⟩

theorem g_wrap {α : Type} {A : Around} {c : Code} {st : List Frame} {m : Sem α} {K : α → Sem Fin} {H : Value → Sem Fin} {gd : Bool → Bool} {lv : List Value → List Value} {s : Shared} (hA : (Ctx.of c st).In A)
    (h : wpAny (model prog w) A m (fun a s' => G prog w POST c (K a) st s') (fun x s' => G prog w POST c (H x) st s') s) : G prog w POST c (m.wrap K H gd lv) st s := fun p =>
  good_wrap (Ctx.fits_of c st) K H gd lv m (h _ p hA) (fun _ p' _ h' => h' p') (fun _ p' _ h' => h' p')
theorem g_bind {α : Type} {A : Around} {c : Code} {st : List Frame} {m : Sem α} {K : α → Sem Fin} {s : Shared} (hA : (Ctx.of c st).In A)
    (h : wpAny (model prog w) A m (fun a s' => G prog w POST c (K a) st s') (fun x s' => G prog w POST c (.raise x) st s') s) : G prog w POST c (m >>= K) st s := by
  rw [Sem.bind_eq_wrap']; exact g_wrap hA h
theorem g_at {c : Code} {st : List Frame} {s : Shared} {p' : Pos} {k : Unit → Sem Fin} (h : G prog w POST c (k ()) st s) : G prog w POST c (.at p' k) st s := fun _ => (h p').mstep (step_at ..)
theorem g_point {c : Code} {st : List Frame} {s : Shared} {l : List Value} {k : Unit → Sem Fin} (h : G prog w POST c (k ()) st s) : G prog w POST c (.point l k) st s := fun p => (h p).mstep (step_point ..)
theorem g_rule {c : Code} {st : List Frame} {s : Shared} {tag : String} {k : Unit → Sem Fin} (h : G prog w POST c (k ()) st s) : G prog w POST c (.rule tag k) st s := fun p => (h p).mstep (step_rule ..)
theorem g_call {c c' : Code} {st : List Frame} {s : Shared} {h g l} {k : Result → Sem Fin} (hc : ∀ p, G prog w POST c' (denote table c') (.ret k h g l c p [] :: st) s) : G prog w POST c (.call c' h g l k) st s := fun p =>
  (hc p p).mstep (step_call ..)
theorem g_leaf {c c₁ : Code} {st : List Frame} {s : Shared} {k h g l p₁ kp} (r : Result) (hk : G prog w POST c₁ (k r) st s) : G prog w POST c (leafOf r) (.ret k h g l c₁ p₁ kp :: st) s := fun _ =>
  (hk p₁).mstep (step_leaf_ret ..)
theorem g_leafGen {c c₁ : Code} {st : List Frame} {s : Shared} {g k l p₁} (r : Result) (hk : G prog w POST c₁ (k (End.ret r).result) st (s.setGen g .finished)) : G prog w POST c (leafOf r) (.gen g k l c₁ p₁ :: st) s := fun _ =>
  (hk p₁).mstep (step_leaf_gen ..)
theorem g_again {c c' : Code} {st : List Frame} {s : Shared} (hq : c'.quiet = true) (hc : G prog w POST c' (denote table c') st s) : G prog w POST c (.pure (.again c')) st s := fun p =>
  (hc p).mstep (step_again _ _ _ _ _ _ hq)
theorem g_end {c : Code} {s : Shared} (r : Result) (h : POST r s) : G prog w POST c (leafOf r) [] s := fun _ => good_end h
theorem g_fresh {c c' : Code} {st : List Frame} {s : Shared} {g l} {k : GenResult → Sem Fin} (hg : s.gens[g]? = some (.fresh c')) (h : ∀ p, G prog w POST c' (denote table c') (.gen g k l c p :: st) (s.setGen g .running)) :
    G prog w POST c (.resume g (.send .none) l k) st s := fun p => (h p p).mstep (step_resume_fresh _ _ _ _ _ _ _ hg)
theorem g_resume {c c₀ : Code} {st : List Frame} {s : Shared} {g r l} {k : GenResult → Sem Fin} {k₀ l₀ p₀ fs cl} (hg : s.gens[g]? = some (.suspended k₀ l₀ c₀ p₀ fs cl)) (h : ∀ p, G prog w POST c₀ (k₀ r) (fs ++ .gen g k l c p :: st) (s.setGen g .running)) :
    G prog w POST c (.resume g r l k) st s := fun p => (h p p₀).mstep (step_resume_suspended _ _ _ _ _ _ _ _ hg)
/-- a yield, out of the frames fs that lie within the generator g; quiet, or its closing shows nothing -/
theorem g_yield {c c' : Code} {fs st : List Frame} {s : Shared} {g₀ l₀ g k l p' v} {k₀ : Resume → Sem Fin} (hfs : splitAtGen fs = none)
    (hq : (g₀ || fs.any Frame.guarded) = false ∨ closingShows (calmed s) fs c g₀ = false)
    (h : ∀ p, G prog w POST c' (k (.yielded v)) st (s.setGen g (.suspended k₀ l₀ c p fs (g₀ || fs.any Frame.guarded)))) : G prog w POST c (.yield v g₀ l₀ k₀) (fs ++ .gen g k l c' p' :: st) s := fun p => by
  have hsp : splitAtGen (fs ++ .gen g k l c' p' :: st) = some (fs, (g, k, c', p'), st) := by
    rw [splitAtGen_append_none _ hfs, splitAtGen_gen]; simp
  refine Good.step ?_ (h p p')
  unfold stepJ
  have hl : ¬ (Thread.loud ⟨.yield v g₀ l₀ k₀, c, p, fs ++ .gen g k l c' p' :: st⟩ = true ∧ hushed s ⟨.yield v g₀ l₀ k₀, c, p, fs ++ .gen g k l c' p' :: st⟩ = false) := by
    rintro ⟨a, b⟩
    rw [Thread.loud_yield v g₀ l₀ k₀ c p hsp] at a
    simp only [hushed, hsp, Bool.not_eq_false'] at b
    rcases hq with q | q
    · rw [q] at a; cases a
    · rw [q] at b; cases b
  rw [if_neg hl]
  simp only [stepK, step, hsp]
  rfl
end
end Mine
end

section
open PySem PySem.W PyProof.Rows PySem.Spec PySem.Calls
namespace Mine

/-- what the law's call has to come to -/
def Ended (c : ClaimW) (cl : Str → Option Addr) (mean : ExcName → Option Value) (args : List WData) (s₁ : Shared) (res : Result) (s' : Shared) : Prop :=
  GoodWG c cl mean args s₁ res { s' with gens := #[] } ∧ ∀ x ∈ s'.gens, okGen s' x

theorem callFrom_mine {c : ClaimW} {tree : List Value → Sem Fin} {w : World} {s : Shared} {free : Addr → Prop} {gens : Prop} {kept : Heap → Prop} (hz : s.asleep) (hgens : s.gens = #[])
    (hspec : ∀ args, c.pre args = true → WData.layableAll args = true →
      ∀ ord : List DictEntry → List DictEntry, (∀ l, (ord l).Perm l) →
      ∃ vs s₁, layAllW c.records (classAt s.heap) w.params ord args s = some (vs, s₁) ∧
        Good c.prog w (fun r s' => (c.Ends s args vs s₁ r s' ∧ s'.os = s.os ∧ kept s'.heap) ∧ ∀ x ∈ s'.gens, okGen s' x) s₁ ⟨tree vs, .builtin "claim.caller" {}, default, []⟩) :
    c.CallFrom (fun vs => ⟨tree vs, .builtin "claim.caller" {}, default, []⟩) w free gens kept s := by
  intro args hpre hlay ord hord
  obtain ⟨vs, s₁, hlaid, n, s', r, cc, cp, hrun, ⟨hcase, hos, hkp⟩, hok⟩ := hspec args hpre hlay ord hord
  have hal := layAllW_rest _ _ _ hlaid
  obtain ⟨sr, hsched, eh, eo, el⟩ := halts_of_runJ (denote table) c.prog w (Shared.asleep_of_life hal.2.2.2 hz) hrun hok
  have hcase : c.Ends s args vs s₁ r sr := hcase.congr eh
  refine ⟨vs, s₁, hlaid, n + 1, _, sr, hsched, ?_, (fun _ i x hx => by rw [hgens] at hx; simp at hx), by rw [eh]; exact hkp, by rw [el, hal.2.2.2], Shared.rest_eq (eo.trans hos)⟩
  rcases hcase with ⟨v, rfl, d1, d2, d3, d4, d5⟩ | ⟨e, ob, cls, rfl, d1, d2, d3, d4, d5⟩
  · exact .inl ⟨v, rfl, d1, d2, d3, fun b o y _ => d4 b o y, d5⟩
  · exact .inr ⟨e, ob, cls, rfl, d1, d2, d3, d4, fun b o y _ => d5 b o y⟩

theorem callerIn : (Ctx.of (.builtin "claim.caller" {}) []).In callerA := caller_in

abbrev WalkJ (q : Program) (loose : List Str) (XP : (Str → Option Value) → Heap → Prop) (YP : World → Heap → Prop) (r : RowW) (d : DefRec) (kwd : List (Str × Expr)) : Prop :=
  ∀ (w : World) (s₀ s₁ : Shared) (mg mb : Str → Option Value), Ground q loose r.records XP w s₀ mg mb s₁.heap → YP w s₁.heap → ∀ (a : Addr) (o : Obj) (pm cd doc dV kV : Value), s₁.heap.get? a = some o →
    o.data = .func { docDef d.name d.params d.body d.scope pm cd doc with defaults := dV, kwdefaults := kV } → s₁.heap.CodeRec cd d.name → Dflts mg s₁.heap d.params kwd dV kV → mg d.name = some (.ref a) → s₁.gens = #[] →
    ∀ (args : List WData) (vals : List Value) (as : List Addr), r.claim.pre args = true → WData.layableAll args = true → ReadsAllW r.records (classAt s₀.heap) s₁.heap vals args as → WellAll w.params s₁.heap vals args → (∀ a ∈ as, (a == sysModules) = false) →
      G r.prog w (Ended r.claim (classAt s₀.heap) (ExcName.means s₀.heap) args s₁) (.builtin "claim.caller" {}) (call (.ref a) vals >>= fun v => ret v) [] s₁

/-- a head of its own, over a run of the machine of M0 in place of a wpAny; its full name is Mine.PySem.W.holds_open, so that the head's tactic, run within this namespace, takes it -/
theorem PySem.W.holds_open {r : OpenRow} {q : Program} {loose : List Str} {Xt : Shared → Bool} {XP : (Str → Option Value) → Heap → Prop} {α : Type} {Yf : Shared → α} {Ya : World → α} {YP : World → Heap → Prop} {d : DefRec} {kwd : List (Str × Expr)} {N : Nat}
    (left : LeftO r.prog q loose Xt Yf Ya N) (hY : ∀ w s, Yf s = Ya w → YP w s.heap) (hYk : ∀ w h h', YP w h → (∀ b o, h.get? b = some o → h'.get? b = some o) → YP w h')
    (hX : ∀ s, Xt s = true → XP (s.heap.nsMap mainGlobals) s.heap) (hXk : ∀ mg h h', XP mg h → (∀ b o, h.get? b = some o → h'.get? b = some o) → XP mg h')
    (hdef : defOf q r.name = some (d, kwd)) (hp : r.prog.theDef r.name = some (d.params, d.body, d.scope)) (hk : kwWritten? d.params.kwonlyargs d.params.kw_defaults = some kwd) (hRf : ∀ s, Xt s = true → RecFacts r.records s.heap) (hwr : (!r.writes || r.records.isEmpty) = true)
    (k1 : r.wellSaid = true) (ok : (chainsOk q && opensWell r.prog && (frees r.toRowW && r.within.isEmpty)) = true) (hb : r.prog.bare) (hw : r.toRowW.promised)
    (call : WalkJ q loose XP YP r.toRowW d kwd) : r.Holds := by
  refine ⟨k1, hw, ?_⟩
  obtain ⟨ok, k5⟩ := Bool.and_eq_true_iff.mp ok
  obtain ⟨hch, o1⟩ := Bool.and_eq_true_iff.mp ok
  obtain ⟨k5, k6⟩ := Bool.and_eq_true_iff.mp k5
  obtain ⟨hsame, hu, ha, hap, hm⟩ := frees_parts k5
  refine ⟨⟨hb, o1, by show r.toRowW.makers.map _ = []; rw [hm]; rfl⟩, hw.witness, fun w => ⟨(left.behind hX hch w).1, fun s' hs' => ?_⟩⟩
  obtain ⟨s₀, hf, hg0, s, hT, hz, hgens, hg, G00, y⟩ := (left.behind (XP := fun mg h => XP mg h ∧ RecFacts r.records h) (fun s hs => ⟨hX s hs, hRf s hs⟩) hch w).2 s' hs'
  have G0 : Ground q loose [] XP w s (s.heap.nsMap mainGlobals) (s.heap.nsMap builtinsNs) s.heap := ⟨G00.T, G00.B, G00.D, G00.TE, G00.TD, G00.W, G00.X.1, G00.cls, G00.has, G00.apart, G00.once, G00.K⟩
  have RF := G00.X.2
  have hT' := hT
  refine ⟨s₀, hf, hg0, s, hT, ?_, RF.1, RF.2.1, ?_⟩
  · intro n hn
    obtain rfl : n = r.name := by split at hn <;> simp_all
    exact pinned_of_view hg G0 hdef hp hk
  have hgens : s.gens = #[] := Array.eq_empty_of_size_eq_zero (beq_iff_eq.mp hgens)
  have G : Ground q loose r.records XP w s _ _ s.heap := RF.ground G0
  refine callFrom_mine (c := r.toRowW.claim) hz hgens fun args hpre hlay ord hord => ?_
  obtain ⟨⟨vs, s₁⟩, hlaid⟩ := Option.isSome_iff_exists.mp (layAllW_isSome (P := w.params) (ord := ord) G.has args r.args s (pre_splitW hpre).1)
  have keeps := layAllW_keeps _ _ _ hlaid
  have hal := layAllW_rest _ _ _ hlaid
  obtain ⟨as, hrd, hin, hold⟩ := reads_layAllW hord _ _ _ hlaid hlay s₁.heap (fun _ _ e => e)
  have L : Laid r.records w s s₁ args vs as := ⟨⟨ord, hord, hlaid⟩, hrd, hin, hold, keeps, hal.1.trans hgens, hal.2.2.1⟩
  have G₁ := G.keeps hXk keeps
  have hi := ident_freeW hu ha hap
  have hwi : r.toRowW.claim.within = [] := List.isEmpty_iff.mp k6
  refine ⟨vs, s₁, hlaid, ?_⟩
  obtain ⟨a, o, pm, cd, doc, dV, kV, h1, h2, h3, h4, h5⟩ := G₁.fn hdef
  have main := call w s s₁ _ _ G₁ (hYk _ _ _ (hY w s y) keeps) a o pm cd doc dV kV h2 h3 h4 h5 (defOf_name hdef ▸ h1) L.gens args vs as hpre hlay L.reads L.well (L.low G.low)
  refine g_bind (POST := fun rr s' => (r.toRowW.claim.Ends s args vs s₁ rr s' ∧ s'.os = s.os ∧ _) ∧ ∀ x ∈ s'.gens, okGen s' x) callerIn (wpAny_nsGet G₁.T.g ?_) default
  rw [h1]
  intro p
  obtain ⟨n, s'', rr, c', p', hr, hgd, hok⟩ := main p
  have z := hgd.laid (c := r.toRowW.claim) hsame hwi hi L
  exact ⟨n, s'', rr, c', p', hr, ⟨⟨z.1.congr rfl, z.2.1, fun q => ⟨namesKept_of hT' hg _ keeps hgd.2.1.old, noTable hwr q⟩⟩, hok⟩⟩

end Mine
end

section
open PySem PySem.W PyProof.Rows PySem.Spec PySem.Calls
namespace Mine
set_option maxRecDepth 100000
set_option maxHeartbeats 8000000
open_top hd for PySem.Challenge.rw_ak0011_01
end Mine
end

/-- the parts behind the head were walked with the walk over a top switched off -/
theorem Mine.topOff : True := by
  w_top off
  exact trivial

section
open PySem PySem.W PyProof.Rows PySem.Spec PySem.Calls
namespace Mine

section
variable {prog : Program} {w : World} {POST : Result → Shared → Prop}

/-- what a stack may weigh -/
structure StOk (st : List Frame) (D U : Nat) : Prop where
  handled : topHandled st = none
  depth : frameCount (st.map Frame.where_) ≤ D
  units : unitsOf (st.map Frame.where_) ≤ U

abbrev plainA (D U : Nat) : Around := { handled := none, depth := D, frames := none, guards := none, units := U }

theorem StOk.in {st : List Frame} {D U D' U' : Nat} (h : StOk st D U) (c : Code) (hd : D + c.weight ≤ D' := by first | decide | omega) (hu : U + c.cUnits ≤ U' := by first | decide | omega) : (Ctx.of c st).In (plainA D' U') := by
  refine ⟨h.handled, ?_, (fun l hl => by cases hl), (fun g hg => by cases hg), ?_⟩
  · show frameCount (st.map Frame.where_) + c.weight ≤ D'
    have := h.depth; omega
  · show c.cUnits + unitsOf (st.map Frame.where_) ≤ U'
    have := h.units; omega
theorem StOk.ret {st : List Frame} {D U D' U' : Nat} (h : StOk st D U) {k g l c p kp} (hd : D + c.weight ≤ D' := by first | decide | omega) (hu : U + c.cUnits ≤ U' := by first | decide | omega) : StOk (.ret k none g l c p kp :: st) D' U' := by
  refine ⟨?_, ?_, ?_⟩
  · rw [topHandled_ret]; exact h.handled
  · rw [List.map_cons]
    show frameCount ((c, p) :: _) ≤ D'
    rw [frameCount_cons]; have := h.depth; omega
  · rw [List.map_cons]
    show unitsOf ((c, p) :: _) ≤ U'
    rw [unitsOf_cons]; have := h.units; omega
theorem StOk.gen {st : List Frame} {D U D' U' : Nat} (h : StOk st D U) {g k l c p} (hd : D + c.weight ≤ D' := by first | decide | omega) (hu : U + c.cUnits ≤ U' := by first | decide | omega) : StOk (.gen g k l c p :: st) D' U' := by
  refine ⟨?_, ?_, ?_⟩
  · rw [topHandled_gen]; exact h.handled
  · rw [List.map_cons]
    show frameCount ((c, p) :: _) ≤ D'
    rw [frameCount_cons]; have := h.depth; omega
  · rw [List.map_cons]
    show unitsOf ((c, p) :: _) ≤ U'
    rw [unitsOf_cons]; have := h.units; omega
theorem StOk.mono {st : List Frame} {D U D' U' : Nat} (h : StOk st D U) (hd : D ≤ D') (hu : U ≤ U') : StOk st D' U' := ⟨h.handled, Nat.le_trans h.depth hd, Nat.le_trans h.units hu⟩

/-- a tree within any continuation, on my machine -/
def Run (prog : Program) (w : World) (POST : Result → Shared → Prop) (c : Code) (st : List Frame) {α : Type} (m : Sem α) (Q : α → Shared → Prop) (E : Value → Shared → Prop) (s : Shared) : Prop :=
  ∀ (K : α → Sem Fin) (H : Value → Sem Fin) (gd : Bool → Bool) (lv : List Value → List Value), (∀ a s', Q a s' → G prog w POST c (K a) st s') → (∀ x s', E x s' → G prog w POST c (H x) st s') → G prog w POST c (m.wrap K H gd lv) st s

variable {α β : Type} {c : Code} {st : List Frame} {E : Value → Shared → Prop} {s : Shared}

theorem run_of {A : Around} {m : Sem α} {Q : α → Shared → Prop} (hA : (Ctx.of c st).In A) (h : wpAny (model prog w) A m Q E s) : Run prog w POST c st m Q E s := fun _ _ _ _ hQ hE =>
  g_wrap hA (wpAny_mono h (fun a s' q => hQ a s' q) fun x s' q => hE x s' q)
theorem run_mono {m : Sem α} {Q Q' : α → Shared → Prop} {E' : Value → Shared → Prop} (h : Run prog w POST c st m Q E s) (hQ : ∀ a s', Q a s' → Q' a s') (hE : ∀ x s', E x s' → E' x s') : Run prog w POST c st m Q' E' s := fun K H gd lv kQ kE =>
  h K H gd lv (fun a s' q => kQ a s' (hQ a s' q)) fun x s' q => kE x s' (hE x s' q)
theorem run_pure {a : α} {Q : α → Shared → Prop} (h : Q a s) : Run prog w POST c st (pure a) Q E s := fun _ _ _ _ kQ _ => kQ a s h
theorem run_throw {e : Value} {Q : α → Shared → Prop} (h : E e s) : Run prog w POST c st (throw e : Sem α) Q E s := fun _ _ _ _ _ kE => kE e s h
theorem run_bind {m : Sem α} {f : α → Sem β} {Q : β → Shared → Prop} (h : Run prog w POST c st m (fun a s' => Run prog w POST c st (f a) Q E s') E s) : Run prog w POST c st (m >>= f) Q E s := fun K H gd lv kQ kE => by
  rw [Sem.bind_eq_wrap', Sem.wrap_wrap]
  exact h _ _ _ _ (fun a s' q => q K H gd lv kQ kE) kE
theorem run_wrap {m : Sem α} {K₀ : α → Sem β} {H₀ : Value → Sem β} {gd₀ lv₀} {Q : β → Shared → Prop} (h : Run prog w POST c st m (fun a s' => Run prog w POST c st (K₀ a) Q E s') (fun x s' => Run prog w POST c st (H₀ x) Q E s') s) : Run prog w POST c st (m.wrap K₀ H₀ gd₀ lv₀) Q E s := fun K H gd lv kQ kE => by
  rw [Sem.wrap_wrap]
  exact h _ _ _ _ (fun a s' q => q K H gd lv kQ kE) fun x s' q => q K H gd lv kQ kE
theorem run_keep {vs : List Value} {m : Sem α} {Q : α → Shared → Prop} (h : Run prog w POST c st m Q E s) : Run prog w POST c st (m.keep vs) Q E s := by
  rw [Sem.keep_eq_wrap]
  exact run_wrap (run_mono h (fun a s' q => run_pure q) fun x s' q => run_throw q)
theorem run_holding {vs : List Value} {m : Sem α} {Q : α → Shared → Prop} (h : Run prog w POST c st m Q E s) : Run prog w POST c st (holding vs m) Q E s := by
  rw [holding_eq_keep]; exact run_keep h
theorem run_tryCatch {m : Sem α} {k : Value → Sem α} {Q : α → Shared → Prop} (h : Run prog w POST c st m Q (fun e s' => Run prog w POST c st (k e) Q E s') s) : Run prog w POST c st (m.tryCatch k) Q E s := by
  rw [Sem.tryCatch_eq_wrap]
  exact run_wrap (run_mono h (fun a s' q => run_pure q) fun x s' q => q)
theorem run_onRaise {m : Sem α} {k : Value → Sem Unit} {Q : α → Shared → Prop} (h : Run prog w POST c st m Q (fun e s' => Run prog w POST c st (k e) (fun _ s'' => E e s'') E s') s) : Run prog w POST c st (m.onRaise k) Q E s := by
  rw [Sem.onRaise_eq_wrap]
  refine run_wrap (run_mono h (fun a s' q => run_pure q) fun x s' q => ?_)
  exact run_bind (m := k x) (f := fun _ => Sem.raise x) (run_mono q (fun _ s'' e => run_throw (α := α) e) fun _ _ e => e)
theorem run_attempt {m : Sem α} {Q : Except Value α → Shared → Prop} (h : Run prog w POST c st m (fun a => Q (.ok a)) (fun e => Q (.error e)) s) : Run prog w POST c st m.attempt Q E s := by
  unfold Sem.attempt
  refine run_tryCatch ?_
  exact run_bind (m := m) (f := fun a => Sem.pure (Except.ok a)) (run_mono h (fun a s' q => run_pure (a := Except.ok a) q) fun x s' q => run_pure (a := Except.error x) q)
theorem run_at {pos : Pos} {Q : Unit → Shared → Prop} (h : Q () s) : Run prog w POST c st (standAt pos) Q E s := fun _ _ _ _ kQ _ => g_at (kQ () s h)
theorem run_rule {tag : String} {Q : Unit → Shared → Prop} (h : Q () s) : Run prog w POST c st (rule tag) Q E s := fun _ _ _ _ kQ _ => g_rule (kQ () s h)
theorem run_point {Q : Unit → Shared → Prop} (h : Q () s) : Run prog w POST c st point Q E s := fun _ _ _ _ kQ _ => g_point (kQ () s h)

theorem wrap_id {γ : Type} (t : Sem γ) : t.wrap .pure .raise id id = t := by
  induction t <;> simp only [Sem.wrap, id, *]

/-- a tree of a code: from Run to G -/
theorem g_of_run {t : Sem Fin} (h : Run prog w POST c st t (fun fin s' => G prog w POST c (.pure fin) st s') (fun e s' => G prog w POST c (.raise e) st s') s) : G prog w POST c t st s := by
  rw [← wrap_id t]
  exact h _ _ _ _ (fun _ _ q => q) fun _ _ q => q

/-- a code called under a frame: what comes back -/
def RunCode (prog : Program) (w : World) (POST : Result → Shared → Prop) (c : Code) (st : List Frame) (c' : Code) (hd : Option Value) (R : Result → Shared → Prop) (s : Shared) : Prop :=
  ∀ (k : Result → Sem Fin) g l p, (∀ r s', R r s' → G prog w POST c (k r) st s') → G prog w POST c' (denote table c') (.ret k hd g l c p [] :: st) s

theorem run_callP {c' : Code} {hd : Option Value} {g : Bool} {l : List Value} {k : Result → Sem α} {Q : α → Shared → Prop} (h : RunCode prog w POST c st c' hd (fun r s' => Run prog w POST c st (k r) Q E s') s) : Run prog w POST c st (.call c' hd g l k) Q E s := fun K H gd lv kQ kE =>
  g_call fun p => h _ _ _ p fun r s' q => q K H gd lv kQ kE
theorem run_run {c' : Code} {hd : Option Value} {Q : Flow → Shared → Prop} (h : RunCode prog w POST c st c' hd (fun r s' => match r with | .ok f => Q f s' | .error e => E e s') s) : Run prog w POST c st (run c' hd) Q E s :=
  run_callP fun k g l p kk => h k g l p fun r s' q => kk r s' (by
    revert q
    cases r with
    | ok f => exact fun q => run_pure q
    | error e => exact fun q => run_throw q)
theorem run_runValue {c' : Code} {Q : Value → Shared → Prop} (h : RunCode prog w POST c st c' none (fun r s' => match r with | .ok (.ret v) => Q v s' | .ok _ => False | .error e => E e s') s) : Run prog w POST c st (runValue c') Q E s := by
  unfold runValue
  refine run_bind (run_run fun k g l p kk => h k g l p fun r s' q => kk r s' ?_)
  cases r with
  | ok f => cases f <;> first | exact q.elim | exact run_pure q
  | error e => exact q
theorem run_call {f : Value} {pos : List Value} {kw : List (Str × Value)} {Q : Value → Shared → Prop} (h : RunCode prog w POST c st (.call f ⟨pos, kw⟩) none (fun r s' => match r with | .ok (.ret v) => Q v s' | .ok _ => False | .error e => E e s') s) :
    Run prog w POST c st (call f pos kw) Q E s := run_runValue h

/-- the code's tree, over its frame -/
theorem runCode_tree {c' : Code} {hd : Option Value} {R : Result → Shared → Prop}
    (h : ∀ F, (∃ k g l p, F = Frame.ret k hd g l c p []) → Run prog w POST c' (F :: st) (denote table c') (fun fin s' => match fin with
      | .done f => R (.ok f) s'
      | .again c₂ => c₂.quiet = true ∧ ∀ k g l p, F = Frame.ret k hd g l c p [] → (∀ r s', R r s' → G prog w POST c (k r) st s') → G prog w POST c₂ (denote table c₂) (F :: st) s') (fun e s' => R (.error e) s') s) :
    RunCode prog w POST c st c' hd R s := fun k g l p kk => by
  refine g_of_run (run_mono (h _ ⟨k, g, l, p, rfl⟩) (fun fin s' q => ?_) fun e s' q => ?_)
  · cases fin with
    | done f => exact g_leaf (.ok f) (kk _ _ q)
    | again c₂ => exact g_again q.1 (q.2 k g l p rfl kk)
  · exact g_leaf (.error e) (kk _ _ q)
theorem again_code {c₂ : Code} {hd : Option Value} {R : Result → Shared → Prop} (h : RunCode prog w POST c st c₂ hd R s) {F : Frame} : ∀ k g l p, F = Frame.ret k hd g l c p [] → (∀ r s', R r s' → G prog w POST c (k r) st s') → G prog w POST c₂ (denote table c₂) (F :: st) s := by
  rintro k g l p rfl kk
  exact h k g l p kk
theorem runCode_of {A : Around} {c' : Code} {R : Result → Shared → Prop} (hA : (Ctx.of c st).In A) (h : codeAny (model prog w) A c' R s) : RunCode prog w POST c st c' none R s := fun k g l p kk => by
  intro p'
  obtain ⟨r, s', hr, hR⟩ := h ((Ctx.of c st).enter c' none p) p' rfl (hA.enter c' none p (by intro x; cases x))
  refine good_reach (pre := []) (runs_reach hr (.ret k none g l c p [] :: st) ((Ctx.fits_of c st).enter c' k none g l p [])) ?_
  rintro _ c'' p'' _ ⟨rfl, rfl⟩
  exact (kk r s' hR p).mstep (step_leaf_ret ..)
end
end Mine
end

section
open PySem PySem.W PyProof.Rows PySem.Spec PySem.Calls
namespace Mine

/-- how often a delegator sleeps over it -/
def slotVal (o : Obj) : Int := match (o.slots[0]? : Option (Option Value)) with
  | some (some (Value.int n _)) => n
  | _ => 0

def GenObj (h : Heap) (a : Addr) (g : Nat) (z : Int) : Prop :=
  ∃ o nm qn, h.get? a = some o ∧ o.cls = .type "generator" ∧ o.data = .fields #[.int g 0, nm, qn] ∧ slotVal o = z
theorem GenObj.at {h h' : Heap} {a g z} (x : GenObj h a g z) (e : ∀ o, h.get? a = some o → h'.get? a = some o) : GenObj h' a g z := let ⟨o, nm, qn, ho, r⟩ := x; ⟨o, nm, qn, e _ ho, r⟩
theorem GenObj.typeIs {s : Shared} {a g z} (x : GenObj s.heap a g z) : s.TypeIs (.ref a) "generator" := let ⟨o, _, _, ho, hc, _⟩ := x; ⟨o, ho, hc⟩

section
variable {prog : Program} {w : World} {POST : Result → Shared → Prop} {c : Code} {st : List Frame} {E : Value → Shared → Prop} {s : Shared}

theorem wpAny_genNumber0 {M : Model} {A : Around} {E : Value → Shared → Prop} {s : Shared} {a : Addr} {g : Nat} {z : Int} {Q : Nat → Shared → Prop} (hg : GenObj s.heap a g z) (hz : z ≤ 0) (h : Q g s) :
    wpAny M A (Builtin.Generator.genNumber (.ref a)) Q E s := by
  obtain ⟨o, nm, qn, ho, _, hd, hsl⟩ := hg
  unfold Builtin.Generator.genNumber
  refine wpAny_bind (wpAny_load ho ?_)
  have tail : wpAny M A (match o.data with
      | .fields vs => match (vs[0]? : Option Value) with
        | some (Value.int i _) => pure i.toNat
        | _ => unsupported "internal:generator-number"
      | _ => unsupported "internal:no-fields" : Sem Nat) Q E s := by
    rw [hd]
    show wpAny M A (pure ((g : Int).toNat)) Q E s
    rw [Int.toNat_natCast]; exact wpAny_pure h
  unfold slotVal at hsl
  dsimp only
  split
  · rename_i n tk e
    rw [e] at hsl
    have hn : ¬ n > 0 := by
      have : n = z := hsl
      omega
    rw [if_neg hn]
    exact tail
  · exact tail

theorem wpAny_sleptOver {M : Model} {A : Around} {E : Value → Shared → Prop} {s : Shared} {a : Addr} {g : Nat} {z : Int} {more : Bool} {Q : Unit → Shared → Prop} (hg : GenObj s.heap a g z)
    (h : ∀ h', Heap.SameBut a s.heap h' → GenObj h' a g (if more then z + 1 else z - 1) → Q () { s with heap := h' }) : wpAny M A (Builtin.Generator.sleptOver (.ref a) more) Q E s := by
  obtain ⟨o, nm, qn, ho, hc, hd, hsl⟩ := hg
  unfold Builtin.Generator.sleptOver
  refine wpAny_bind (wpAny_load ho ?_)
  rw [hc]
  rw [if_neg (by simp)]
  unfold setSlotAt
  rw [if_neg (by decide)]
  refine wpAny_updatePart ho (h _ (Heap.SameBut.update ..) ?_)
  refine ⟨_, nm, qn, Heap.get?_update_self _ ho (by unfold Obj.isFreed; simp only [hd]), hc, hd, ?_⟩
  have hlen : 0 < (o.slots ++ Array.replicate (0 + 1 - o.slots.size) (none : Option Value)).size := by simp; omega
  unfold slotVal at hsl ⊢
  simp only [Array.getElem?_setIfInBounds, hlen, if_true]
  subst hsl
  cases more
  · rw [if_neg Bool.false_ne_true]; rfl
  · rw [if_pos rfl]; rfl

/-- a plain builtin, called by its name -/
theorem run_call_builtin {id : String} {b : Builtin} {pos : List Value} {kw : List (Str × Value)} {Q : Value → Shared → Prop} {D U : Nat} (hst : StOk st D U) (hcw : c.weight = 0 := by rfl)
    (hb : entryFor table id = some b) (hp : plainId id = true)
    (hc : wpAny (model prog w) (plainA D (U + c.cUnits + 1)) (checkBuiltinCall id ⟨pos, kw⟩) (fun _ s' => s' = s) (fun _ _ => False) s)
    (h : ∀ F, (∃ k g l p, F = Frame.ret k none g l c p []) → Run prog w POST (.builtin id ⟨pos, kw⟩) (F :: st) (b ⟨pos, kw⟩) (fun fin s' => ∃ v, fin = .done (.ret v) ∧ Q v s') E s) :
    Run prog w POST c st (call (.builtin id) pos kw) Q E s := by
  refine run_call (runCode_tree fun F hF => ?_)
  have hF' := hF
  obtain ⟨k, g, l, p, rfl⟩ := hF'
  have hs1 : StOk (Frame.ret k none g l c p [] :: st) D (U + c.cUnits) := hst.ret (by rw [hcw]; exact Nat.le_refl _) (Nat.le_refl _)
  show Run prog w POST _ _ (callAny (.builtin id) ⟨pos, kw⟩) _ _ s
  simp only [callAny]
  refine run_bind (run_mono (run_of (hs1.in _ (Nat.le_refl _) (Nat.le_refl _)) (A := plainA D (U + c.cUnits + 1)) hc) (fun _ s' e => ?_) fun _ _ f => f.elim)
  subst e
  refine run_pure ⟨plainId_quiet hp _, again_code (runCode_tree fun F hF => ?_)⟩
  show Run prog w POST _ _ (match entryFor table id with | some b => b ⟨pos, kw⟩ | none => unsupported ((withoutEnding? id "#data").getD id)) _ _ _
  rw [hb]
  refine run_mono (h F hF) (fun fin s' q => ?_) fun _ _ e => e
  obtain ⟨v, rfl, q⟩ := q
  exact q

abbrev cN (ga : Addr) : Code := .builtin "generator.__next__" ⟨[.ref ga], []⟩

/-- what a generator does when it is woken (told by how any continuation fares) -/
def WakeOk (prog : Program) (w : World) (POST : Result → Shared → Prop) (ga : Addr) (g : Nat) (D U : Nat) (QY : Value → Shared → Prop) (QR : Shared → Prop) (s : Shared) : Prop :=
  ∀ (st : List Frame) (l : List Value) (k : GenResult → Sem Fin), StOk st D U → (∀ v s', QY v s' → G prog w POST (cN ga) (k (.yielded v)) st s') → (∀ s', QR s' → G prog w POST (cN ga) (k (.returned .none)) st s') →
    G prog w POST (cN ga) (.resume g (.send .none) l k) st s

def StopAt (h : Heap) (e : Addr) : Prop := ∃ o vs, h.get? e = some o ∧ o.cls = .type "StopIteration" ∧ o.data = .fields vs ∧ vs[5]? = some .none

theorem checkNext {M : Model} {A : Around} {s : Shared} {ga : Addr} (hT : s.TypeIs (.ref ga) "generator") : wpAny M A (checkBuiltinCall "generator.__next__" ⟨[.ref ga], []⟩) (fun _ s' => s' = s) (fun _ _ => False) s :=
  slot_gen_next.check M A _ s (.ref ga) [] [] _ hT (args_gen_next _) rfl

theorem weight_cN (ga : Addr) : (cN ga).weight = 0 := plainId_weight (by decide +kernel) _
theorem units_cN (ga : Addr) : (cN ga).cUnits = 1 := plainId_units (by decide +kernel) _

theorem run_nextCall {ga : Addr} {g : Nat} {gs : GenState} {QY : Value → Shared → Prop} {QR : Shared → Prop} {Q : Option Value → Shared → Prop} {D U : Nat} (hst : StOk st D U) (hcw : c.weight = 0)
    (hl : s.heap.NoLimit) (hroom : D < recursionLimit) (hg : GenObj s.heap ga g 0) (hgs : s.gens[g]? = some gs) (hstat : gs.status = .fresh ∨ gs.status = .suspended) (hw : WakeOk prog w POST ga g D (U + c.cUnits) QY QR s)
    (hY : ∀ v s', QY v s' → Q (some v) s')
    (hR : ∀ s', QR s' → ∀ h' e, (∀ b o, s'.heap.get? b = some o → h'.get? b = some o) → s'.heap.objs.size ≤ h'.objs.size → StopAt h' e → E (.ref e) { s' with heap := h' }) :
    Run prog w POST c st (callSpecial? (.ref ga) "__next__") Q E s := by
  simp only [callSpecial?]
  refine run_bind (run_of (hst.in c (Nat.le_refl _) (Nat.le_refl _)) (wpAny_specialOf (name := Str.ofString "__next__") hg.typeIs slot_gen_next.lookup ?_))
  simp only [slot_gen_next.bind]
  refine run_holding (run_bind (run_pure ?_))
  refine run_bind ?_
  refine run_mono (Q := fun v s' => Q (some v) s') ?_ (fun v s' q => run_pure q) fun _ _ e => e
  refine run_call_builtin hst hcw entry_gen_next (by decide +kernel) (checkNext hg.typeIs) fun F hF => ?_
  obtain ⟨k, gd, l, p, rfl⟩ := hF
  have hs1 : StOk (Frame.ret k none gd l c p [] :: st) D (U + c.cUnits) := hst.ret (by rw [hcw]; exact Nat.le_refl _) (Nat.le_refl _)
  show Run prog w POST (cN ga) _ (Builtin.Generator.genWake (.ref ga) (.send .none)) _ _ s
  unfold Builtin.Generator.genWake
  have hin : (Ctx.of (cN ga) (Frame.ret k none gd l c p [] :: st)).In (plainA D (U + c.cUnits + 1)) := hs1.in (cN ga) (by rw [weight_cN]; exact Nat.le_refl _) (by rw [units_cN]; exact Nat.le_refl _)
  refine run_bind (run_holding (run_of hin (wpAny_genNumber0 hg (Int.le_refl _) ?_)))
  refine run_bind (run_of hin (wpAny_genState hgs ?_))
  have hroom1 : wpAny (model prog w) (plainA D (U + c.cUnits + 1)) roomToWake (fun _ s' => s' = s) (fun _ _ => False) s := wpAny_roomToWake hl hroom rfl
  have wake : Run prog w POST (cN ga) (Frame.ret k none gd l c p [] :: st) (resume g (.send .none)) (fun x s' => match x with
      | .yielded v => QY v s'
      | .returned v => v = .none ∧ QR s'
      | _ => False) (fun _ _ => False) s := fun K H gd lv kQ kE =>
    hw _ _ _ hs1 (fun v s' q => kQ (.yielded v) s' q) fun s' q => kQ (.returned .none) s' ⟨rfl, q⟩
  have fin : ∀ (f : PUnit → Sem Fin) s', QR s' → Run prog w POST (cN ga) (Frame.ret k none gd l c p [] :: st) (newExc (.type "StopIteration") [] >>= fun e => (raiseNew e : Sem PUnit) >>= f) (fun fin s' => ∃ v, fin = .done (.ret v) ∧ Q (some v) s') E s' := by
    intro f s' q
    refine run_of hin ?_
    refine wpAny_bind ?_
    simp only [newExc, newTuple]
    refine wpAny_bind (wpAny_newObj_type ?_ (by size_fits))
    refine wpAny_bind (m := firstArgMember _ _) (wpAny_of_eq (a := Value.none) (by first | rfl | (simp only [firstArgMember]; rfl)) ?_)
    refine wpAny_newObj_type ?_ (by size_fits)
    refine wpAny_bind ?_
    simp only [raiseNew]
    refine wpAny_bind (wpAny_handled ?_)
    refine wpAny_throw ?_
    refine hR s' q _ _ (fun b o hb => Heap.get?_push_of_some _ (Heap.get?_push_of_some _ hb)) (by simp only [Heap.size_push]; omega) ⟨_, _, Heap.get?_push_size _ rfl, rfl, rfl, rfl⟩
  rcases hstat with e | e <;> rw [e] <;> dsimp only
  · refine run_bind (run_mono (run_of hin hroom1) (fun _ s' e' => ?_) fun _ _ f => f.elim)
    subst e'
    refine run_bind (run_mono wake (fun x s' q => ?_) fun _ _ f => f.elim)
    cases x with
    | yielded v => exact run_pure ⟨v, rfl, hY v s' q⟩
    | returned v =>
      obtain ⟨rfl, q⟩ := q
      exact fin _ s' q
    | _ => exact q.elim
  · refine run_bind (run_mono (run_of hin hroom1) (fun _ s' e' => ?_) fun _ _ f => f.elim)
    subst e'
    refine run_bind (run_mono wake (fun x s' q => ?_) fun _ _ f => f.elim)
    cases x with
    | yielded v => exact run_pure ⟨v, rfl, hY v s' q⟩
    | returned v =>
      obtain ⟨rfl, q⟩ := q
      exact fin _ s' q
    | _ => exact q.elim

theorem run_pyNext_gen {ga : Addr} {g : Nat} {gs : GenState} {QY : Value → Shared → Prop} {QR : Shared → Prop} {Q : Option Value → Shared → Prop} {D U : Nat} (hst : StOk st D U) (hcw : c.weight = 0)
    (hl : s.heap.NoLimit) (hroom : D < recursionLimit) (hg : GenObj s.heap ga g 0) (hgs : s.gens[g]? = some gs) (hstat : gs.status = .fresh ∨ gs.status = .suspended) (hw : WakeOk prog w POST ga g D (U + c.cUnits) QY QR s)
    (hY : ∀ v s', QY v s' → Q (some v) s')
    (hR : ∀ s', QR s' → ∀ h', (∀ b o, s'.heap.get? b = some o → h'.get? b = some o) → s'.heap.objs.size ≤ h'.objs.size → Q none { s' with heap := h' }) :
    Run prog w POST c st (pyNext (.ref ga)) Q E s := by
  unfold pyNext
  refine run_bind (run_attempt (run_nextCall hst hcw hl hroom hg hgs hstat hw (fun v s' q => run_pure (hY v s' q)) fun s' q h' e hk hz he => ?_))
  obtain ⟨o, vs, ho, hc, _⟩ := he
  refine run_bind (run_of (hst.in c (Nat.le_refl _) (Nat.le_refl _)) (wpAny_isInstance (T := "StopIteration") (b := true) ⟨o, ho, hc⟩ isSubtype_stop ?_))
  exact run_pure (hR s' q h' hk hz)
end
end Mine
end

section
open PySem PySem.W PyProof.Rows PySem.Spec PySem.Calls
namespace Mine

/-- what is written down -/
inductive Ev where
  | asked (place : Nat) (value : Int)
  | told (value : Int)

def EvIs (h : Heap) (v : Value) : Ev → Prop
  | .asked p x => ∃ a n t t', v = .ref a ∧ h.get? a = some { cls := .type "tuple", data := .seq #[.int p t, .int x t'] n }
  | .told x => ∃ a n t t', v = .ref a ∧ h.get? a = some { cls := .type "tuple", data := .seq #[.str (Str.ofString "told") t, .int x t'] n }

def EvsAre (h : Heap) : List Value → List Ev → Prop
  | [], [] => True
  | v :: vs, e :: es => EvIs h v e ∧ EvsAre h vs es
  | _, _ => False

theorem EvsAre.length {h : Heap} : ∀ {vs : List Value} {es : List Ev}, EvsAre h vs es → vs.length = es.length
  | [], [], _ => rfl
  | _ :: _, _ :: _, x => congrArg (· + 1) x.2.length
theorem EvsAre.append {h : Heap} : ∀ {vs vs' : List Value} {es es' : List Ev}, EvsAre h vs es → EvsAre h vs' es' → EvsAre h (vs ++ vs') (es ++ es')
  | [], _, [], _, _, y => y
  | _ :: _, _, _ :: _, _, x, y => ⟨x.1, x.2.append y⟩

/-- a plain tuple -/
def TupO (o : Obj) : Prop := ∃ its n, o = { cls := .type "tuple", data := .seq its n }
/-- tuples stay -/
def TupStay (h h' : Heap) : Prop := ∀ b o, h.get? b = some o → TupO o → h'.get? b = some o
theorem EvIs.stay {h h' : Heap} (k : TupStay h h') {v : Value} {e : Ev} (x : EvIs h v e) : EvIs h' v e := by
  cases e with
  | asked p y => obtain ⟨a, n, t, t', e, g⟩ := x; exact ⟨a, n, t, t', e, k _ _ g ⟨_, _, rfl⟩⟩
  | told y => obtain ⟨a, n, t, t', e, g⟩ := x; exact ⟨a, n, t, t', e, k _ _ g ⟨_, _, rfl⟩⟩
theorem EvsAre.stay {h h' : Heap} (k : TupStay h h') : ∀ {vs : List Value} {es : List Ev}, EvsAre h vs es → EvsAre h' vs es
  | [], [], _ => trivial
  | _ :: _, _ :: _, x => ⟨x.1.stay k, x.2.stay k⟩

/-- the list of what was written down; room for k more -/
def EvRoom (h : Heap) (ev : Addr) (k : Nat) : Prop := ∃ items n, h.get? ev = some (W.listOf items n) ∧ items.size + k ≤ 1000000

/-- what a generator made at n, its object ga, may do: the older objects stay but the events' list, which grows by es -/
structure Ran (ev : Addr) (n : Nat) (ga : Addr) (g : Nat) (s s' : Shared) (es : List Ev) : Prop where
  keep : ∀ b o, s.heap.get? b = some o → (b < n ∨ b = ga) → b ≠ ev → s'.heap.get? b = some o
  tup : TupStay s.heap s'.heap
  size : s.heap.objs.size ≤ s'.heap.objs.size
  list : ∀ items m, s.heap.get? ev = some (W.listOf items m) → ∃ more m', s'.heap.get? ev = some (W.listOf (items ++ more.toArray) m') ∧ EvsAre s'.heap more es
  gens : ∀ i, i < g → s'.gens[i]? = s.gens[i]?
  gsize : s.gens.size ≤ s'.gens.size
  os : s'.os = s.os

theorem Ran.trans {ev : Addr} {n : Nat} {ga : Addr} {g : Nat} {s s₁ s₂ : Shared} {es es' : List Ev} (x : Ran ev n ga g s s₁ es) (y : Ran ev n ga g s₁ s₂ es') : Ran ev n ga g s s₂ (es ++ es') where
  keep := fun b o e h1 h2 => y.keep b o (x.keep b o e h1 h2) h1 h2
  tup := fun b o e h => y.tup b o (x.tup b o e h) h
  size := Nat.le_trans x.size y.size
  list := fun items m e => by
    obtain ⟨more, m', e1, a1⟩ := x.list items m e
    obtain ⟨more', m'', e2, a2⟩ := y.list _ _ e1
    exact ⟨more ++ more', m'', by rw [e2]; simp [Array.append_assoc], (a1.stay y.tup).append a2⟩
  gens := fun i hi => (y.gens i hi).trans (x.gens i hi)
  gsize := Nat.le_trans x.gsize y.gsize
  os := y.os.trans x.os

/-- what others may do while it rests -/
structure Env' (hb : Heap) (n : Nat) (ga : Addr) (g : Nat) (s s' : Shared) : Prop where
  own : ∀ b o, s.heap.get? b = some o → n ≤ b → b ≠ ga → s'.heap.get? b = some o
  base : hb.StaysIn s'.heap
  gens : ∀ i, g ≤ i → s'.gens[i]? = s.gens[i]?
  size : s.heap.objs.size ≤ s'.heap.objs.size

theorem Env'.trans {hb : Heap} {n : Nat} {ga : Addr} {g : Nat} {s s₁ s₂ : Shared} (x : Env' hb n ga g s s₁) (y : Env' hb n ga g s₁ s₂) : Env' hb n ga g s s₂ where
  own := fun b o e h1 h2 => y.own b o (x.own b o e h1 h2) h1 h2
  base := y.base
  gens := fun i hi => (y.gens i hi).trans (x.gens i hi)
  size := Nat.le_trans x.size y.size

/-- a generator at rest whose closing would show nothing -/
def okRest (h : Heap) : GenState → Prop
  | .suspended _ _ c _ fs true => fs.any Frame.guarded = false ∧ ∃ a rest kw g z, c = .builtin "proto.yield_from" ⟨.ref a :: rest, kw⟩ ∧ GenObj h a g z
  | _ => True

theorem genNumber_of {h : Heap} {a : Addr} {g : Nat} {z : Int} (x : GenObj h a g z) : ∃ o, h.get? a = some o ∧ o.genNumber? = some g := by
  obtain ⟨o, nm, qn, ho, hc, hd, _⟩ := x
  refine ⟨o, ho, ?_⟩
  unfold Obj.genNumber?
  rw [hc, hd]
  show some ((g : Int).toNat) = some g
  rw [Int.toNat_natCast]

theorem closing_of {s : Shared} {a : Addr} {g : Nat} {z : Int} {fs : List Frame} {rest kw} {b : Bool} (x : GenObj s.heap a g z) (hf : fs.any Frame.guarded = false) :
    closingShows (calmed s) fs (.builtin "proto.yield_from" ⟨.ref a :: rest, kw⟩) b = false := by
  obtain ⟨o, ho, hn⟩ := genNumber_of x
  have ho' : (calmed s).heap.get? a = some o := ho
  unfold closingShows
  rw [hf]
  simp only [delegateShows, ho', hn]
  cases b <;> rfl

theorem okGen_of {s : Shared} {x : GenState} (h : okRest s.heap x) : okGen s x := by
  cases x with
  | suspended k l c p fs cl =>
    cases cl with
    | false => trivial
    | true =>
      obtain ⟨hf, a, rest, kw, g, z, rfl, hg⟩ := h
      exact closing_of hg hf
  | _ => trivial
end Mine
end

section
open PySem PySem.W PyProof.Rows PySem.Spec PySem.Calls
namespace Mine

section
variable (prog : Program) (w : World) (POST : Result → Shared → Prop) (ga : Addr) (g D U : Nat)

/-- a generator's own run, from here to its next rest or its end, over any continuation -/
def SegJ (c : Code) (t : Sem Fin) (fs : List Frame) (s : Shared) (PY : Value → GenState → Shared → Prop) (PR : Shared → Prop) : Prop :=
  ∀ (k : GenResult → Sem Fin) (l : List Value) (p' : Pos) (st : List Frame), StOk st D U →
    (∀ v gs s', PY v gs s' → G prog w POST (cN ga) (k (.yielded v)) st (s'.setGen g gs)) → (∀ s', PR s' → G prog w POST (cN ga) (k (.returned .none)) st (s'.setGen g .finished)) →
    G prog w POST c t (fs ++ .gen g k l (cN ga) p' :: st) s
end

section
variable {prog : Program} {w : World} {POST : Result → Shared → Prop} {ga : Addr} {g D U : Nat} {c : Code} {t : Sem Fin} {fs : List Frame} {s : Shared} {PY : Value → GenState → Shared → Prop} {PR : Shared → Prop}

/-- what the frames within weigh -/
def FsOk (ga : Addr) (g D U : Nat) (fs : List Frame) (D' U' : Nat) : Prop := ∀ k l p' st, StOk st D U → StOk (fs ++ .gen g k l (cN ga) p' :: st) D' U'
theorem FsOk.nil : FsOk ga g D U [] D (U + 1) := fun k l p' st h => h.gen (by rw [weight_cN]; exact Nat.le_refl _) (by rw [units_cN]; exact Nat.le_refl _)
theorem FsOk.ret {D' U' D'' U'' : Nat} {k g₀ l c p kp} (h : FsOk ga g D U fs D' U') (hd : D' + c.weight ≤ D'' := by first | decide | omega) (hu : U' + c.cUnits ≤ U'' := by first | decide | omega) : FsOk ga g D U (.ret k none g₀ l c p kp :: fs) D'' U'' :=
  fun k' l' p' st hs => (h k' l' p' st hs).ret hd hu

theorem segj_mono {PY' PR'} (h : SegJ prog w POST ga g D U c t fs s PY PR) (hY : ∀ v gs s', PY v gs s' → PY' v gs s') (hR : ∀ s', PR s' → PR' s') : SegJ prog w POST ga g D U c t fs s PY' PR' := fun k l p' st hst kY kR =>
  h k l p' st hst (fun v gs s' q => kY v gs s' (hY v gs s' q)) fun s' q => kR s' (hR s' q)
theorem segj_run {α : Type} {m : Sem α} {K : α → Sem Fin} {H : Value → Sem Fin} {gd lv} {Q : α → Shared → Prop} {E : Value → Shared → Prop}
    (h : ∀ k l p' st, StOk st D U → Run prog w POST c (fs ++ .gen g k l (cN ga) p' :: st) m Q E s) (hQ : ∀ a s', Q a s' → SegJ prog w POST ga g D U c (K a) fs s' PY PR) (hE : ∀ x s', E x s' → SegJ prog w POST ga g D U c (H x) fs s' PY PR) :
    SegJ prog w POST ga g D U c (m.wrap K H gd lv) fs s PY PR := fun k l p' st hst kY kR =>
  h k l p' st hst K H gd lv (fun a s' q => hQ a s' q k l p' st hst kY kR) fun x s' q => hE x s' q k l p' st hst kY kR
theorem segj_wrap {α : Type} {m : Sem α} {K : α → Sem Fin} {H : Value → Sem Fin} {gd lv} {D' U' D'' U'' : Nat} (hf : FsOk ga g D U fs D' U') (hd : D' + c.weight ≤ D'') (hu : U' + c.cUnits ≤ U'')
    (h : wpAny (model prog w) (plainA D'' U'') m (fun a s' => SegJ prog w POST ga g D U c (K a) fs s' PY PR) (fun x s' => SegJ prog w POST ga g D U c (H x) fs s' PY PR) s) : SegJ prog w POST ga g D U c (m.wrap K H gd lv) fs s PY PR :=
  segj_run (fun k l p' st hst => run_of ((hf k l p' st hst).in c hd hu) h) (fun _ _ q => q) fun _ _ q => q
theorem segj_call {c' : Code} {h g₀ l₀} {k₀ : Result → Sem Fin} (hc : ∀ p, SegJ prog w POST ga g D U c' (denote table c') (.ret k₀ h g₀ l₀ c p [] :: fs) s PY PR) : SegJ prog w POST ga g D U c (.call c' h g₀ l₀ k₀) fs s PY PR := fun k l p' st hst kY kR =>
  g_call fun p => hc p k l p' st hst kY kR
theorem segj_leaf {k₀ h g₀ l₀ c₁ p₁ kp} (r : Result) (hk : SegJ prog w POST ga g D U c₁ (k₀ r) fs s PY PR) : SegJ prog w POST ga g D U c (leafOf r) (.ret k₀ h g₀ l₀ c₁ p₁ kp :: fs) s PY PR := fun k l p' st hst kY kR =>
  g_leaf r (hk k l p' st hst kY kR)
theorem segj_again {c' : Code} (hq : c'.quiet = true) (hc : SegJ prog w POST ga g D U c' (denote table c') fs s PY PR) : SegJ prog w POST ga g D U c (.pure (.again c')) fs s PY PR := fun k l p' st hst kY kR =>
  g_again hq (hc k l p' st hst kY kR)
theorem segj_at {p₀ : Pos} {k₀ : Unit → Sem Fin} (h : SegJ prog w POST ga g D U c (k₀ ()) fs s PY PR) : SegJ prog w POST ga g D U c (.at p₀ k₀) fs s PY PR := fun k l p' st hst kY kR => g_at (h k l p' st hst kY kR)
theorem segj_point {l₀ : List Value} {k₀ : Unit → Sem Fin} (h : SegJ prog w POST ga g D U c (k₀ ()) fs s PY PR) : SegJ prog w POST ga g D U c (.point l₀ k₀) fs s PY PR := fun k l p' st hst kY kR => g_point (h k l p' st hst kY kR)
theorem segj_rule {tag : String} {k₀ : Unit → Sem Fin} (h : SegJ prog w POST ga g D U c (k₀ ()) fs s PY PR) : SegJ prog w POST ga g D U c (.rule tag k₀) fs s PY PR := fun k l p' st hst kY kR => g_rule (h k l p' st hst kY kR)
theorem segj_end (h : PR s) : SegJ prog w POST ga g D U c (leafOf (.ok (.ret .none))) [] s PY PR := fun k l p' st hst kY kR => by
  exact g_leafGen (.ok (.ret .none)) (kR s h)
theorem segj_yield {v g₀ l₀} {k₀ : Resume → Sem Fin} (hfs : splitAtGen fs = none) (hq : (g₀ || fs.any Frame.guarded) = false ∨ closingShows (calmed s) fs c g₀ = false)
    (h : ∀ p, PY v (.suspended k₀ l₀ c p fs (g₀ || fs.any Frame.guarded)) s) : SegJ prog w POST ga g D U c (.yield v g₀ l₀ k₀) fs s PY PR := fun k l p' st hst kY kR =>
  g_yield hfs hq fun p => kY v _ s (h p)
end

/-- all that rest from g on would close in silence -/
def AllOk (g : Nat) (s : Shared) : Prop := ∀ i x, g ≤ i → s.gens[i]? = some x → okRest s.heap x
/-- all from g on are through -/
def AllFin (g : Nat) (s : Shared) : Prop := ∀ i x, g ≤ i → s.gens[i]? = some x → x = .finished

section
variable (prog : Program) (w : World) (POST : Result → Shared → Prop) (hb : Heap) (ev : Addr) (n : Nat) (ga : Addr) (g D U : Nat)

/-- it does this: the asked ones are written down on the way, at each told one it rests -/
def Goes : List Ev → Shared → List Ev → Code → Sem Fin → List Frame → Shared → Prop
  | [], s₀, acc, c, t, fs, s => SegJ prog w POST ga g D U c t fs s (fun _ _ _ => False) (fun s' => Ran ev n ga g s₀ s' acc ∧ AllFin g (s'.setGen g .finished))
  | .asked p x :: es, s₀, acc, c, t, fs, s => Goes es s₀ (acc ++ [.asked p x]) c t fs s
  | .told x :: es, s₀, acc, c, t, fs, s => SegJ prog w POST ga g D U c t fs s (fun v gs s' => (∃ tk, v = .int x tk) ∧ Ran ev n ga g s₀ s' acc ∧ AllOk g (s'.setGen g gs) ∧
      ∃ k₀ l₀ c₀ p₀ fs₀ cl, gs = .suspended k₀ l₀ c₀ p₀ fs₀ cl ∧ ∀ s'', Env' hb n ga g (s'.setGen g gs) s'' → EvRoom s''.heap ev (es.length + 1) →
        Goes es (s''.setGen g .running) [] c₀ (k₀ (.send .none)) fs₀ (s''.setGen g .running)) (fun _ => False)

/-- at rest, before it does this -/
def Rests (es : List Ev) (gs : GenState) (sR : Shared) : Prop :=
  (∃ c, gs = .fresh c ∧ ∀ s'', Env' hb n ga g sR s'' → EvRoom s''.heap ev (es.length + 1) → Goes prog w POST hb ev n ga g D U es (s''.setGen g .running) [] c (denote table c) [] (s''.setGen g .running)) ∨
  (∃ k₀ l₀ c₀ p₀ fs₀ cl, gs = .suspended k₀ l₀ c₀ p₀ fs₀ cl ∧ ∀ s'', Env' hb n ga g sR s'' → EvRoom s''.heap ev (es.length + 1) →
    Goes prog w POST hb ev n ga g D U es (s''.setGen g .running) [] c₀ (k₀ (.send .none)) fs₀ (s''.setGen g .running))
end

/-- the asked ones ahead of the next told one -/
def upto : List Ev → List Ev × Option (Int × List Ev)
  | [] => ([], none)
  | .asked p x :: es => (.asked p x :: (upto es).1, (upto es).2)
  | .told x :: es => ([], some (x, es))

section
variable {prog : Program} {w : World} {POST : Result → Shared → Prop} {hb : Heap} {ev : Addr} {n : Nat} {ga : Addr} {g D U : Nat}

def ToldTo (prog : Program) (w : World) (POST : Result → Shared → Prop) (hb : Heap) (ev : Addr) (n : Nat) (ga : Addr) (g D U : Nat) (es : List Ev) (s₀ : Shared) (acc : List Ev) : Value → GenState → Shared → Prop := fun v gs s' =>
  match (upto es).2 with
  | none => False
  | some (x, rest) => (∃ tk, v = .int x tk) ∧ Ran ev n ga g s₀ s' (acc ++ (upto es).1) ∧ AllOk g (s'.setGen g gs) ∧
      ∃ k₀ l₀ c₀ p₀ fs₀ cl, gs = .suspended k₀ l₀ c₀ p₀ fs₀ cl ∧ ∀ s'', Env' hb n ga g (s'.setGen g gs) s'' → EvRoom s''.heap ev (rest.length + 1) →
        Goes prog w POST hb ev n ga g D U rest (s''.setGen g .running) [] c₀ (k₀ (.send .none)) fs₀ (s''.setGen g .running)
def DoneTo (ev : Addr) (n : Nat) (ga : Addr) (g : Nat) (es : List Ev) (s₀ : Shared) (acc : List Ev) : Shared → Prop := fun s' =>
  match (upto es).2 with
  | none => Ran ev n ga g s₀ s' (acc ++ (upto es).1) ∧ AllFin g (s'.setGen g .finished)
  | some _ => False

theorem goes_iff : ∀ (es : List Ev) (s₀ : Shared) (acc : List Ev) {c t fs s}, Goes prog w POST hb ev n ga g D U es s₀ acc c t fs s ↔ SegJ prog w POST ga g D U c t fs s (ToldTo prog w POST hb ev n ga g D U es s₀ acc) (DoneTo ev n ga g es s₀ acc)
  | [], s₀, acc, c, t, fs, s => by
    have e1 : ToldTo prog w POST hb ev n ga g D U [] s₀ acc = fun _ _ _ => False := rfl
    have e2 : DoneTo ev n ga g [] s₀ acc = fun s' => Ran ev n ga g s₀ s' acc ∧ AllFin g (s'.setGen g .finished) := by
      funext s'
      simp only [DoneTo, upto, List.append_nil]
    rw [e1, e2]
    rfl
  | .asked p x :: es, s₀, acc, c, t, fs, s => by
    have ih := goes_iff es s₀ (acc ++ [.asked p x]) (c := c) (t := t) (fs := fs) (s := s)
    have e1 : ToldTo prog w POST hb ev n ga g D U (.asked p x :: es) s₀ acc = ToldTo prog w POST hb ev n ga g D U es s₀ (acc ++ [.asked p x]) := by
      funext v gs s'
      simp only [ToldTo, upto, List.append_assoc, List.singleton_append]
    have e2 : DoneTo ev n ga g (.asked p x :: es) s₀ acc = DoneTo ev n ga g es s₀ (acc ++ [.asked p x]) := by
      funext s'
      simp only [DoneTo, upto, List.append_assoc, List.singleton_append]
    rw [e1, e2]
    exact ih
  | .told x :: es, s₀, acc, c, t, fs, s => by
    have e1 : ToldTo prog w POST hb ev n ga g D U (.told x :: es) s₀ acc = fun v gs s' => (∃ tk, v = .int x tk) ∧ Ran ev n ga g s₀ s' acc ∧ AllOk g (s'.setGen g gs) ∧
      ∃ k₀ l₀ c₀ p₀ fs₀ cl, gs = .suspended k₀ l₀ c₀ p₀ fs₀ cl ∧ ∀ s'', Env' hb n ga g (s'.setGen g gs) s'' → EvRoom s''.heap ev (es.length + 1) →
        Goes prog w POST hb ev n ga g D U es (s''.setGen g .running) [] c₀ (k₀ (.send .none)) fs₀ (s''.setGen g .running) := by
      funext v gs s'
      simp only [ToldTo, upto, List.append_nil]
    have e2 : DoneTo ev n ga g (.told x :: es) s₀ acc = fun _ => False := rfl
    rw [e1, e2]
    rfl

/-- what has run already -/
theorem goes_since {es : List Ev} {s₀ s₁ : Shared} {es₀ acc : List Ev} {c t fs s} (hr : Ran ev n ga g s₀ s₁ es₀) (h : Goes prog w POST hb ev n ga g D U es s₁ acc c t fs s) : Goes prog w POST hb ev n ga g D U es s₀ (es₀ ++ acc) c t fs s := by
  rw [goes_iff] at h ⊢
  refine segj_mono h (fun v gs s' q => ?_) fun s' q => ?_
  · unfold ToldTo at q ⊢
    split
    · rename_i e; rw [e] at q; exact q
    · rename_i x rest e
      rw [e] at q
      exact ⟨q.1, by rw [List.append_assoc]; exact hr.trans q.2.1, q.2.2⟩
  · unfold DoneTo at q ⊢
    split
    · rename_i e; rw [e] at q; exact ⟨by rw [List.append_assoc]; exact hr.trans q.1, q.2⟩
    · rename_i e; rw [e] at q; exact q
theorem goes_run {es : List Ev} {s₀ : Shared} {acc : List Ev} {c : Code} {fs : List Frame} {s : Shared} {α : Type} {m : Sem α} {K : α → Sem Fin} {H : Value → Sem Fin} {gd lv} {Q : α → Shared → Prop} {E : Value → Shared → Prop}
    (h : ∀ k l p' st, StOk st D U → Run prog w POST c (fs ++ .gen g k l (cN ga) p' :: st) m Q E s) (hQ : ∀ a s', Q a s' → Goes prog w POST hb ev n ga g D U es s₀ acc c (K a) fs s') (hE : ∀ x s', E x s' → Goes prog w POST hb ev n ga g D U es s₀ acc c (H x) fs s') :
    Goes prog w POST hb ev n ga g D U es s₀ acc c (m.wrap K H gd lv) fs s :=
  (goes_iff es s₀ acc).mpr (segj_run h (fun a s' q => (goes_iff es s₀ acc).mp (hQ a s' q)) fun x s' q => (goes_iff es s₀ acc).mp (hE x s' q))
theorem goes_wrap {es : List Ev} {s₀ : Shared} {acc : List Ev} {c : Code} {fs : List Frame} {s : Shared} {α : Type} {m : Sem α} {K : α → Sem Fin} {H : Value → Sem Fin} {gd lv} {D' U' D'' U'' : Nat} (hf : FsOk ga g D U fs D' U') (hd : D' + c.weight ≤ D'') (hu : U' + c.cUnits ≤ U'')
    (h : wpAny (model prog w) (plainA D'' U'') m (fun a s' => Goes prog w POST hb ev n ga g D U es s₀ acc c (K a) fs s') (fun x s' => Goes prog w POST hb ev n ga g D U es s₀ acc c (H x) fs s') s) :
    Goes prog w POST hb ev n ga g D U es s₀ acc c (m.wrap K H gd lv) fs s :=
  goes_run (fun k l p' st hst => run_of ((hf k l p' st hst).in c hd hu) h) (fun _ _ q => q) fun _ _ q => q
theorem goes_call {es : List Ev} {s₀ : Shared} {acc : List Ev} {c c' : Code} {fs : List Frame} {s : Shared} {h g₀ l₀} {k₀ : Result → Sem Fin} (hc : ∀ p, Goes prog w POST hb ev n ga g D U es s₀ acc c' (denote table c') (.ret k₀ h g₀ l₀ c p [] :: fs) s) :
    Goes prog w POST hb ev n ga g D U es s₀ acc c (.call c' h g₀ l₀ k₀) fs s := (goes_iff es s₀ acc).mpr (segj_call fun p => (goes_iff es s₀ acc).mp (hc p))
theorem goes_leaf {es : List Ev} {s₀ : Shared} {acc : List Ev} {c c₁ : Code} {fs : List Frame} {s : Shared} {k₀ h g₀ l₀ p₁ kp} (r : Result) (hk : Goes prog w POST hb ev n ga g D U es s₀ acc c₁ (k₀ r) fs s) :
    Goes prog w POST hb ev n ga g D U es s₀ acc c (leafOf r) (.ret k₀ h g₀ l₀ c₁ p₁ kp :: fs) s := (goes_iff es s₀ acc).mpr (segj_leaf r ((goes_iff es s₀ acc).mp hk))
theorem goes_again {es : List Ev} {s₀ : Shared} {acc : List Ev} {c c' : Code} {fs : List Frame} {s : Shared} (hq : c'.quiet = true) (hc : Goes prog w POST hb ev n ga g D U es s₀ acc c' (denote table c') fs s) :
    Goes prog w POST hb ev n ga g D U es s₀ acc c (.pure (.again c')) fs s := (goes_iff es s₀ acc).mpr (segj_again hq ((goes_iff es s₀ acc).mp hc))
theorem goes_at {es : List Ev} {s₀ : Shared} {acc : List Ev} {c : Code} {fs : List Frame} {s : Shared} {p₀ : Pos} {k₀ : Unit → Sem Fin} (h : Goes prog w POST hb ev n ga g D U es s₀ acc c (k₀ ()) fs s) :
    Goes prog w POST hb ev n ga g D U es s₀ acc c (.at p₀ k₀) fs s := (goes_iff es s₀ acc).mpr (segj_at ((goes_iff es s₀ acc).mp h))
theorem goes_point {es : List Ev} {s₀ : Shared} {acc : List Ev} {c : Code} {fs : List Frame} {s : Shared} {l₀ : List Value} {k₀ : Unit → Sem Fin} (h : Goes prog w POST hb ev n ga g D U es s₀ acc c (k₀ ()) fs s) :
    Goes prog w POST hb ev n ga g D U es s₀ acc c (.point l₀ k₀) fs s := (goes_iff es s₀ acc).mpr (segj_point ((goes_iff es s₀ acc).mp h))
theorem goes_rule {es : List Ev} {s₀ : Shared} {acc : List Ev} {c : Code} {fs : List Frame} {s : Shared} {tag : String} {k₀ : Unit → Sem Fin} (h : Goes prog w POST hb ev n ga g D U es s₀ acc c (k₀ ()) fs s) :
    Goes prog w POST hb ev n ga g D U es s₀ acc c (.rule tag k₀) fs s := (goes_iff es s₀ acc).mpr (segj_rule ((goes_iff es s₀ acc).mp h))

/-- woken -/
theorem wake_of_rests {es : List Ev} {gs : GenState} {sR s : Shared} (h : Rests prog w POST hb ev n ga g D U es gs sR) (hg : s.gens[g]? = some gs) (he : Env' hb n ga g sR s) (hv : EvRoom s.heap ev (es.length + 1)) :
    WakeOk prog w POST ga g D U (fun v s' => ∃ gs' s₁, s' = s₁.setGen g gs' ∧ ToldTo prog w POST hb ev n ga g D U es (s.setGen g .running) [] v gs' s₁) (fun s' => ∃ s₁, s' = s₁.setGen g .finished ∧ DoneTo ev n ga g es (s.setGen g .running) [] s₁) s := by
  intro st l k hst kY kR
  rcases h with ⟨c, rfl, h⟩ | ⟨k₀, l₀, c₀, p₀, fs₀, cl, rfl, h⟩
  · refine g_fresh hg fun p => ?_
    exact (goes_iff es _ []).mp (h s he hv) k l p st hst (fun v gs' s' q => kY v _ ⟨gs', s', rfl, q⟩) fun s' q => kR _ ⟨s', rfl, q⟩
  · refine g_resume hg fun p => ?_
    exact (goes_iff es _ []).mp (h s he hv) k l p st hst (fun v gs' s' q => kY v _ ⟨gs', s', rfl, q⟩) fun s' q => kR _ ⟨s', rfl, q⟩
theorem rests_status {es : List Ev} {gs : GenState} {sR : Shared} (h : Rests prog w POST hb ev n ga g D U es gs sR) : gs.status = .fresh ∨ gs.status = .suspended := by
  rcases h with ⟨c, rfl, _⟩ | ⟨k₀, l₀, c₀, p₀, fs₀, cl, rfl, _⟩
  · exact .inl rfl
  · exact .inr rfl
end
end Mine
end

section
open PySem PySem.W PyProof.Rows PySem.Spec PySem.Calls
namespace Mine

theorem den_builtin {id : String} {args : Args} {b : Builtin} (hb : entryFor table id = some b) : denote table (.builtin id args) = b args := by
  show (match entryFor table id with | some b => b args | none => unsupported ((withoutEnding? id "#data").getD id)) = _
  rw [hb]
abbrev cY (a : Addr) : Code := .builtin "proto.yield_from" ⟨[.ref a, .bool false, .none], []⟩
theorem entry_yf : entryFor table "proto.yield_from" = some Builtin.«proto.yield_from» := entryFor_of_fast (by kernel_rfl)
theorem weight_cY (a : Addr) : (cY a).weight = 0 := plainId_weight (by decide +kernel) _
theorem units_cY (a : Addr) : (cY a).cUnits = 1 := plainId_units (by decide +kernel) _
theorem quiet_cY (a : Addr) : (cY a).quiet = true := plainId_quiet (by decide +kernel) _
theorem gen_close : ∃ v, typeLookup (.type "generator") "close" = pure (some v) := by
  rw [typeLookup_type, builtinLookup_eq_fast]
  exact ⟨.builtin "generator.close", by kernel_rfl⟩

section
variable {prog : Program} {w : World} {POST : Result → Shared → Prop} {hb : Heap} {ev : Addr} {n : Nat} {ga : Addr} {g D U : Nat}
theorem goes_bindR {es : List Ev} {s₀ : Shared} {acc : List Ev} {c : Code} {fs : List Frame} {s : Shared} {α : Type} {m : Sem α} {K : α → Sem Fin} {Q : α → Shared → Prop}
    (h : ∀ k l p' st, StOk st D U → Run prog w POST c (fs ++ .gen g k l (cN ga) p' :: st) m Q (fun _ _ => False) s) (hQ : ∀ a s', Q a s' → Goes prog w POST hb ev n ga g D U es s₀ acc c (K a) fs s') :
    Goes prog w POST hb ev n ga g D U es s₀ acc c (m >>= K) fs s := by
  rw [Sem.bind_eq_wrap']
  exact goes_run h hQ fun _ _ f => f.elim
theorem goes_bind {es : List Ev} {s₀ : Shared} {acc : List Ev} {c : Code} {fs : List Frame} {s : Shared} {α : Type} {m : Sem α} {K : α → Sem Fin} {D' U' D'' U'' : Nat} (hf : FsOk ga g D U fs D' U') (hd : D' + c.weight ≤ D'') (hu : U' + c.cUnits ≤ U'')
    (h : wpAny (model prog w) (plainA D'' U'') m (fun a s' => Goes prog w POST hb ev n ga g D U es s₀ acc c (K a) fs s') (fun _ _ => False) s) :
    Goes prog w POST hb ev n ga g D U es s₀ acc c (m >>= K) fs s :=
  goes_bindR (fun k l p' st hst => run_of ((hf k l p' st hst).in c hd hu) h) fun _ _ q => q

theorem endsAsValue {M : Model} {A : Around} {E : Value → Shared → Prop} {s : Shared} {e : Addr} {Q : Bool → Shared → Prop} (he : StopAt s.heap e) (h : Q true s) : wpAny M A (Builtin.Generator.endsTheTurnAsAValue false (.ref e)) Q E s := by
  obtain ⟨o, vs, ho, hc, _⟩ := he
  unfold Builtin.Generator.endsTheTurnAsAValue
  refine wpAny_bind ?_
  unfold Builtin.Generator.isStopAndMetaclass
  refine wpAny_bind (wpAny_typeOf (T := "StopIteration") ⟨o, ho, hc⟩ ?_)
  refine wpAny_bind (wpAny_of_eq isSubtype_stop (wpAny_bind (wpAny_pure (wpAny_pure ?_))))
  exact wpAny_pure h
theorem field5 {M : Model} {A : Around} {E : Value → Shared → Prop} {s : Shared} {e : Addr} {Q : Value → Shared → Prop} (he : StopAt s.heap e) (h : Q .none s) : wpAny M A (field (.ref e) 5) Q E s := by
  obtain ⟨o, vs, ho, hc, hd, h5⟩ := he
  exact wpAny_field ho hd h5 h

theorem okRest_mono {h h' : Heap} (k : ∀ a g z, GenObj h a g z → ∃ z', GenObj h' a g z') {x : GenState} (y : okRest h x) : okRest h' x := by
  cases x with
  | suspended k₀ l c p fs cl =>
    cases cl with
    | false => trivial
    | true =>
      obtain ⟨hf, a, rest, kw, g, z, e, hg⟩ := y
      obtain ⟨z', hg'⟩ := k a g z hg
      exact ⟨hf, a, rest, kw, g, z', e, hg'⟩
  | _ => trivial

theorem EvRoom.mono {h : Heap} {ev : Addr} {k k' : Nat} (x : EvRoom h ev k) (hk : k' ≤ k) : EvRoom h ev k' := let ⟨i, m, e, r⟩ := x; ⟨i, m, e, by omega⟩
theorem EvRoom.at {h h' : Heap} {ev : Addr} {k : Nat} (x : EvRoom h ev k) (e : ∀ o, h.get? ev = some o → h'.get? ev = some o) : EvRoom h' ev k := let ⟨i, m, e', r⟩ := x; ⟨i, m, e _ e', r⟩

theorem EvRoom.ran {s s' : Shared} {es : List Ev} {k k' : Nat} (x : EvRoom s.heap ev k) (r : Ran ev n ga g s s' es) (hk : es.length + k' ≤ k) : EvRoom s'.heap ev k' := by
  obtain ⟨items, m, e, hl⟩ := x
  obtain ⟨more, m', e', ha⟩ := r.list items m e
  have := ha.length
  exact ⟨_, m', e', by simp only [Array.size_append, List.size_toArray]; omega⟩
theorem Env'.refl {hb : Heap} {n : Nat} {ga : Addr} {g : Nat} {s : Shared} (h : hb.StaysIn s.heap) : Env' hb n ga g s s := ⟨fun _ _ e _ _ => e, h, fun _ _ => rfl, Nat.le_refl _⟩
theorem rests_env {n' : Nat} {ga' : Addr} {g' D' U' : Nat} {es : List Ev} {gs : GenState} {sR s : Shared} (h : Rests prog w POST hb ev n' ga' g' D' U' es gs sR) (he : Env' hb n' ga' g' sR s) : Rests prog w POST hb ev n' ga' g' D' U' es gs s := by
  rcases h with ⟨c, rfl, h⟩ | ⟨k₀, l₀, c₀, p₀, fs₀, cl, rfl, h⟩
  · exact .inl ⟨c, rfl, fun s'' e r => h s'' (he.trans e) r⟩
  · exact .inr ⟨k₀, l₀, c₀, p₀, fs₀, cl, rfl, fun s'' e r => h s'' (he.trans e) r⟩

theorem upto_none : ∀ {es : List Ev}, (upto es).2 = none → (upto es).1 = es ∧ ∀ es', upto (es ++ es') = (es ++ (upto es').1, (upto es').2)
  | [], _ => ⟨rfl, fun es' => rfl⟩
  | .asked p x :: es, h => by
    obtain ⟨a, b⟩ := upto_none (es := es) h
    exact ⟨by simp only [upto, a], fun es' => by simp only [List.cons_append, upto, b es']⟩
theorem upto_some : ∀ {es : List Ev} {x : Int} {rest : List Ev}, (upto es).2 = some (x, rest) → rest.length < es.length ∧ ∀ es', upto (es ++ es') = ((upto es).1, some (x, rest ++ es'))
  | .asked p y :: es, x, rest, h => by
    obtain ⟨a, b⟩ := upto_some (es := es) h
    exact ⟨Nat.lt_succ_of_lt a, fun es' => by simp only [List.cons_append, upto, b es']⟩
  | .told y :: es, x, rest, h => by
    simp only [upto, Option.some.injEq, Prod.mk.injEq] at h
    obtain ⟨rfl, rfl⟩ := h
    exact ⟨Nat.lt_succ_self _, fun es' => rfl⟩
theorem goes_asks : ∀ {es : List Ev} (_ : (upto es).2 = none) {es' : List Ev} {s₀ : Shared} {acc : List Ev} {c t fs s}, Goes prog w POST hb ev n ga g D U es' s₀ (acc ++ es) c t fs s → Goes prog w POST hb ev n ga g D U (es ++ es') s₀ acc c t fs s
  | [], _, es', s₀, acc, c, t, fs, s, h => by rw [List.append_nil] at h; exact h
  | .asked p x :: es, hn, es', s₀, acc, c, t, fs, s, h => by
    show Goes prog w POST hb ev n ga g D U (es ++ es') s₀ (acc ++ [.asked p x]) c t fs s
    exact goes_asks (es := es) hn (by rw [List.append_assoc]; exact h)

theorem setGen_heap (s : Shared) (g : Nat) (x : GenState) : (s.setGen g x).heap = s.heap := rfl
theorem setGen_ne {s : Shared} {g i : Nat} {x : GenState} (h : i ≠ g) : (s.setGen g x).gens[i]? = s.gens[i]? := by
  unfold Shared.setGen
  simp only [Array.getElem?_setIfInBounds, Ne.symm h, if_false]
theorem setGen_at {s : Shared} {g : Nat} {x : GenState} (h : g < s.gens.size) : (s.setGen g x).gens[g]? = some x := by
  unfold Shared.setGen
  simp only [Array.getElem?_setIfInBounds, if_true, h]
theorem gens_lt {s : Shared} {g : Nat} {x : GenState} (h : s.gens[g]? = some x) : g < s.gens.size := by
  rw [Array.getElem?_eq_some_iff] at h; exact h.1
theorem setGen_size (s : Shared) (g : Nat) (x : GenState) : (s.setGen g x).gens.size = s.gens.size := by
  unfold Shared.setGen; simp

/-- the inner one's run is the outer one's too -/
theorem Ran.outer {n' : Nat} {ga' : Addr} {g' : Nat} {s s' : Shared} {es : List Ev} {x : GenState} (hgg : g < g') (hnn : n ≤ n') (hga : ga < n') (r : Ran ev n' ga' g' (s.setGen g' x) s' es) : Ran ev n ga g s s' es where
  keep := fun b o e h1 h2 => r.keep b o e (.inl (h1.elim (fun q => Nat.lt_of_lt_of_le q hnn) fun q => q ▸ hga)) h2
  tup := r.tup
  size := r.size
  list := r.list
  gens := fun i hi => (r.gens i (Nat.lt_trans hi hgg)).trans (setGen_ne (by omega))
  gsize := by have := r.gsize; rw [setGen_size] at this; exact this
  os := r.os
theorem Ran.setGen {s s' : Shared} {es : List Ev} {g' : Nat} {x : GenState} (hgg : g ≤ g') (r : Ran ev n ga g s s' es) : Ran ev n ga g s (s'.setGen g' x) es where
  keep := r.keep
  tup := r.tup
  size := r.size
  list := r.list
  gens := fun i hi => (setGen_ne (by omega)).trans (r.gens i hi)
  gsize := by rw [setGen_size]; exact r.gsize
  os := r.os
/-- a heap that keeps all but one object, which is none of those that must stay -/
theorem Ran.step {s : Shared} {h' : Heap} {tk : Nat} (hk : ∀ b o, s.heap.get? b = some o → (b < n ∨ b = ga ∨ b = ev ∨ TupO o) → h'.get? b = some o) (hz : s.heap.objs.size ≤ h'.objs.size) : Ran ev n ga g s { s with heap := h', toks := tk } [] where
  keep := fun b o e h1 h2 => hk b o e (by rcases h1 with h1 | h1 <;> simp [h1])
  tup := fun b o e h => hk b o e (by simp [h])
  size := hz
  list := fun items m e => ⟨[], m, by simpa using hk ev _ e (by simp), trivial⟩
  gens := fun _ _ => rfl
  gsize := Nat.le_refl _
  os := rfl
theorem GenObj.not_tuple {h : Heap} {a g z o} (x : GenObj h a g z) (e : h.get? a = some o) : ¬ TupO o := by
  obtain ⟨o', nm, qn, ho, hc, hd, _⟩ := x
  rw [e] at ho; cases ho
  rintro ⟨its, k, rfl⟩
  cases hd
/-- a toggle of a younger generator's object -/
theorem Ran.toggle {s : Shared} {h' : Heap} {tk : Nat} {a : Addr} {g₁ z} (x : GenObj s.heap a g₁ z) (hs : Heap.SameBut a s.heap h') (hn : n ≤ a) (hg : a ≠ ga) (hev : ev < n) : Ran ev n ga g s { s with heap := h', toks := tk } [] := by
  refine Ran.step (fun b o e h1 => hs.extBut b o (fun q => ?_) e) (Nat.le_of_eq hs.1.symm)
  subst q
  rcases h1 with h1 | h1 | h1 | h1
  · exact absurd h1 (Nat.not_lt.mpr hn)
  · exact hg h1
  · rw [h1] at hn; exact absurd hev (Nat.not_lt.mpr hn)
  · exact x.not_tuple e h1

/-- one turn of a delegation: the inner one is woken -/
theorem delegate {n' : Nat} {ga' : Addr} {g' : Nat} {fs : List Frame} {D₁ U₁ : Nat} {evsR : List Ev} (hfs : splitAtGen fs = none) (hgd : fs.any Frame.guarded = false) (hf : FsOk ga g D U fs D₁ U₁) (hroom : D₁ < recursionLimit)
    (hgg : g < g') (hnn : n ≤ n') (hga : ga < n') (hga' : n' ≤ ga') (hbn : ∀ b o, hb.get? b = some o → b < n) (hlim : hb.NoLimit) (hevn : ev < n) (hevb : hb.get? ev = none) :
    ∀ (k : Nat) (evsI : List Ev), evsI.length ≤ k → ∀ (gs : GenState) (s : Shared), Rests prog w POST hb ev n' ga' g' D₁ (U₁ + 1) evsI gs s → s.gens[g']? = some gs → GenObj s.heap ga' g' 0 → s.gens[g]? = some .running →
      (∀ i x, g < i → i < g' → s.gens[i]? = some x → x = .finished) → hb.StaysIn s.heap → EvRoom s.heap ev (evsI.length + evsR.length + 1) →
      (∀ s', hb.StaysIn s'.heap → (∀ b o, s.heap.get? b = some o → n ≤ b → b < n' → b ≠ ga → s'.heap.get? b = some o) → s.heap.objs.size ≤ s'.heap.objs.size → (∀ i x, g < i → s'.gens[i]? = some x → x = .finished) →
        s'.gens[g]? = some .running → EvRoom s'.heap ev (evsR.length + 1) → Goes prog w POST hb ev n ga g D U evsR s' [] (cY ga') (leafOf (.ok (.ret .none))) fs s') →
      Goes prog w POST hb ev n ga g D U (evsI ++ evsR) s [] (cY ga') (denote table (cY ga')) fs s := by
  intro k
  induction k using Nat.strongRecOn with
  | ind k ih =>
  intro evsI hk gs s hR hgs hgo hrun hfin hst hroomE after
  have hgl := gens_lt hrun
  have hgl' := gens_lt hgs
  have hw := wake_of_rests hR hgs (Env'.refl hst) (hroomE.mono (by omega))
  have hstat := rests_status hR
  rw [den_builtin entry_yf]
  unfold Builtin.«proto.yield_from»
  dsimp only
  refine goes_bindR (Q := fun x s' => x = Value.none ∧ s = s') (fun k l p st hst => run_pure ⟨rfl, rfl⟩) ?_
  rintro _ _ ⟨rfl, rfl⟩
  refine goes_bindR (Q := fun r s' => match r with
      | .ok v => ∃ gs' s₁, s' = s₁.setGen g' gs' ∧ ToldTo prog w POST hb ev n' ga' g' D₁ (U₁ + 1) evsI (s.setGen g' .running) [] v gs' s₁
      | .error e => ∃ s₁ h' a, s' = { s₁.setGen g' .finished with heap := h' } ∧ DoneTo ev n' ga' g' evsI (s.setGen g' .running) [] s₁ ∧ (∀ b o, s₁.heap.get? b = some o → h'.get? b = some o) ∧ s₁.heap.objs.size ≤ h'.objs.size ∧ e = .ref a ∧ StopAt h' a)
    (fun k l p st hst' => run_attempt (run_holding ?_)) ?_
  · simp only [Bool.false_eq_true, if_false, beq_self_eq_true, if_true]
    refine run_bind (run_rule ?_)
    refine run_bind (run_nextCall (hf k l p st hst') (weight_cY ga') (hlim.keeps fun b o e => hst b o e) hroom hgo hgs hstat (by rw [units_cY]; exact hw) (fun v s' q => run_pure q) ?_)
    rintro s' ⟨s₁, rfl, hd⟩ h' e hk' hz he
    exact ⟨s₁, h', e, rfl, hd, hk', hz, rfl, he⟩
  intro r s' hq
  cases r with
  | error e =>
    obtain ⟨s₁, h', a, rfl, hd, hk', hz, rfl, he⟩ := hq
    dsimp only
    refine goes_bind hf (by rw [weight_cY]; exact Nat.le_refl _) (by rw [units_cY]; exact Nat.le_refl _) (endsAsValue he ?_)
    simp only [if_true, Bool.false_eq_true, if_false]
    refine goes_bind hf (by rw [weight_cY]; exact Nat.le_refl _) (by rw [units_cY]; exact Nat.le_refl _) (wpAny_rule ?_)
    refine goes_bind hf (by rw [weight_cY]; exact Nat.le_refl _) (by rw [units_cY]; exact Nat.le_refl _) (field5 he ?_)
    unfold DoneTo at hd
    cases hu : (upto evsI).2 with
    | some y => rw [hu] at hd; exact hd.elim
    | none =>
      rw [hu] at hd
      obtain ⟨hr₁, hfin'⟩ := hd
      rw [List.nil_append, (upto_none hu).1] at hr₁
      have hsz : g < s₁.gens.size ∧ g' < s₁.gens.size := by have := hr₁.gsize; rw [setGen_size] at this; exact ⟨Nat.lt_of_lt_of_le hgl this, Nat.lt_of_lt_of_le hgl' this⟩
      have hro : Ran ev n ga g s { s₁.setGen g' .finished with heap := h' } evsI := by
        have r1 : Ran ev n ga g s (s₁.setGen g' .finished) evsI := (Ran.outer hgg hnn hga hr₁).setGen (Nat.le_of_lt hgg)
        have r2 : Ran ev n ga g (s₁.setGen g' .finished) { s₁.setGen g' .finished with heap := h' } [] := Ran.step (s := s₁.setGen g' .finished) (tk := s₁.toks) (fun b o e _ => hk' b o e) hz
        have := r1.trans r2
        rwa [List.append_nil] at this
      refine goes_asks hu ?_
      rw [List.nil_append]
      have := goes_since hro (es := evsR) (acc := []) (prog := prog) (w := w) (POST := POST) (hb := hb) (D := D) (U := U) (after _ (fun b o e => hro.keep b o (hst b o e) (.inl (hbn b o e)) (fun q => by rw [q, hevb] at e; cases e)) (fun b o e h1 h2 h3 => hk' b o (hr₁.keep b o e (.inl h2) (fun q => by rw [q] at h1; exact absurd hevn (Nat.not_lt.mpr h1)))) hro.size (fun i x hi e => ?_) ?_ ?_)
      · rw [List.append_nil] at this; exact this
      · by_cases hlt : i < g'
        · refine hfin i x hi hlt ?_
          rw [← e]
          show s.gens[i]? = (s₁.setGen g' .finished).gens[i]?
          rw [setGen_ne (Nat.ne_of_lt hlt), hr₁.gens i hlt, setGen_ne (Nat.ne_of_lt hlt)]
        · exact hfin' i x (Nat.not_lt.mp hlt) e
      · show (s₁.setGen g' .finished).gens[g]? = _
        rw [setGen_ne (Nat.ne_of_lt hgg), hr₁.gens g hgg, setGen_ne (Nat.ne_of_lt hgg)]; exact hrun
      · exact hroomE.ran hro (by omega)
  | ok y =>
    obtain ⟨gs', s₁, rfl, hT⟩ := hq
    dsimp only
    unfold ToldTo at hT
    cases hu : (upto evsI).2 with
    | none => rw [hu] at hT; exact hT.elim
    | some z =>
    obtain ⟨x, rest⟩ := z
    rw [hu] at hT
    dsimp only at hT
    rw [List.nil_append] at hT
    obtain ⟨⟨tk, rfl⟩, hr₁, hok, k₀, l₀, c₀, p₀, fs₀, cl, rfl, hrest⟩ := hT
    obtain ⟨hlen, happ⟩ := upto_some hu
    have hsz : g < s₁.gens.size ∧ g' < s₁.gens.size := by have := hr₁.gsize; rw [setGen_size] at this; exact ⟨Nat.lt_of_lt_of_le hgl this, Nat.lt_of_lt_of_le hgl' this⟩
    have hgo₁ : GenObj s₁.heap ga' g' 0 := hgo.at fun o e => hr₁.keep ga' o e (.inr rfl) (fun q => by rw [q] at hga'; exact absurd hevn (Nat.not_lt.mpr (Nat.le_trans hnn hga')))
    have hro : Ran ev n ga g s (s₁.setGen g' (.suspended k₀ l₀ c₀ p₀ fs₀ cl)) (upto evsI).1 := (Ran.outer hgg hnn hga hr₁).setGen (Nat.le_of_lt hgg)
    have hga2 : ga' ≠ ga := fun q => by rw [q] at hga'; exact absurd hga (Nat.not_lt.mpr hga')
    refine goes_bind hf (by rw [weight_cY]; exact Nat.le_refl _) (by rw [units_cY]; exact Nat.le_refl _) (wpAny_typeOf (T := "generator") hgo₁.typeIs ?_)
    dsimp only
    obtain ⟨vc, hvc⟩ := gen_close
    refine goes_bind hf (by rw [weight_cY]; exact Nat.le_refl _) (by rw [units_cY]; exact Nat.le_refl _) (wpAny_of_eq hvc ?_)
    refine goes_bind hf (by rw [weight_cY]; exact Nat.le_refl _) (by rw [units_cY]; exact Nat.le_refl _) (wpAny_pure ?_)
    refine goes_bind hf (by rw [weight_cY]; exact Nat.le_refl _) (by rw [units_cY]; exact Nat.le_refl _) (wpAny_sleptOver hgo₁ fun h₂ hs₂ hgo₂ => ?_)
    simp only [if_true] at hgo₂
    have hro₂ : Ran ev n ga g s { s₁.setGen g' (.suspended k₀ l₀ c₀ p₀ fs₀ cl) with heap := h₂ } (upto evsI).1 := by
      have := hro.trans (Ran.toggle (s := s₁.setGen g' (.suspended k₀ l₀ c₀ p₀ fs₀ cl)) (tk := s₁.toks) (n := n) (ga := ga) (g := g) hgo₁ hs₂ (Nat.le_trans hnn hga') hga2 hevn)
      rwa [List.append_nil] at this
    rw [goes_iff]
    refine segj_yield hfs (.inr (closing_of hgo₂ hgd)) fun p => ?_
    unfold ToldTo
    rw [happ]
    dsimp only
    refine ⟨⟨tk, rfl⟩, by rw [List.nil_append]; exact hro₂, ?_, _, _, _, _, _, _, rfl, fun s'' he'' hroom'' => ?_⟩
    · intro i x hi e
      by_cases hig : i = g
      · subst hig
        have hlt : i < ({ s₁.setGen g' (.suspended k₀ l₀ c₀ p₀ fs₀ cl) with heap := h₂ } : Shared).gens.size := by
          show i < (s₁.setGen g' (.suspended k₀ l₀ c₀ p₀ fs₀ cl)).gens.size
          rw [setGen_size]; exact hsz.1
        rw [setGen_at hlt] at e
        cases e
        exact ⟨hgd, ga', _, _, g', _, rfl, hgo₂⟩
      · rw [setGen_ne hig] at e
        have e' : (s₁.setGen g' (.suspended k₀ l₀ c₀ p₀ fs₀ cl)).gens[i]? = some x := e
        by_cases hlt : i < g'
        · rw [setGen_ne (Nat.ne_of_lt hlt), hr₁.gens i hlt, setGen_ne (Nat.ne_of_lt hlt)] at e'
          rw [hfin i x (Nat.lt_of_le_of_ne hi (Ne.symm hig)) hlt e']; trivial
        · refine okRest_mono (fun a g₁ z hg₁ => ?_) (hok i x (Nat.not_lt.mp hlt) e')
          by_cases hag : a = ga'
          · rw [hag]; exact ⟨_, (by
              rw [hag] at hg₁
              obtain ⟨o, nm, qn, ho, _, hd, _⟩ := hg₁
              obtain ⟨o', nm', qn', ho', _, hd', _⟩ := hgo₁
              have : some o = some o' := ho.symm.trans ho'
              cases this
              rw [hd'] at hd
              have hgg1 : g' = g₁ := by
                simp only [Data.fields.injEq, Array.mk.injEq, List.cons.injEq, Value.int.injEq] at hd
                omega
              exact hgg1 ▸ hgo₂)⟩
          · exact ⟨z, hg₁.at fun o eo => hs₂.extBut a o hag eo⟩
    · -- woken again
      have hG' : s''.gens[g']? = some (.suspended k₀ l₀ c₀ p₀ fs₀ cl) := by
        rw [he''.gens g' (Nat.le_of_lt hgg), setGen_ne (Nat.ne_of_gt hgg)]
        show (s₁.setGen g' (.suspended k₀ l₀ c₀ p₀ fs₀ cl)).gens[g']? = _
        exact setGen_at hsz.2
      obtain ⟨xg, hxg⟩ : ∃ x, s''.gens[g]? = some x := ⟨_, (he''.gens g (Nat.le_refl _)).trans (setGen_at (by show g < (s₁.setGen g' (.suspended k₀ l₀ c₀ p₀ fs₀ cl)).gens.size; rw [setGen_size]; exact hsz.1))⟩
      have hGg : g < s''.gens.size := gens_lt hxg
      have hgo'' : GenObj s''.heap ga' g' (0 + 1) := hgo₂.at fun o e => he''.own ga' o e (Nat.le_trans hnn hga') hga2
      show Goes prog w POST hb ev n ga g D U (rest ++ evsR) (s''.setGen g .running) [] (cY ga') (Builtin.Generator.sleptOver (.ref ga') false >>= _) fs (s''.setGen g .running)
      refine goes_bind hf (by rw [weight_cY]; exact Nat.le_refl _) (by rw [units_cY]; exact Nat.le_refl _) (wpAny_sleptOver (s := s''.setGen g .running) hgo'' fun h₃ hs₃ hgo₃ => ?_)
      simp only [Bool.false_eq_true, if_false] at hgo₃
      show Goes prog w POST hb ev n ga g D U (rest ++ evsR) (s''.setGen g .running) [] (cY ga') (.pure (.again (cY ga'))) fs { s''.setGen g .running with heap := h₃ }
      refine goes_again (quiet_cY ga') ?_
      have hro₃ : Ran ev n ga g (s''.setGen g .running) { s''.setGen g .running with heap := h₃ } [] := Ran.toggle (s := s''.setGen g .running) (tk := s''.toks) hgo'' hs₃ (Nat.le_trans hnn hga') hga2 hevn
      have hkeep₃ : ∀ b o, s₁.heap.get? b = some o → n ≤ b → b ≠ ga → b ≠ ga' → h₃.get? b = some o := fun b o e h1 h2 h3 =>
        hs₃.extBut b o h3 (he''.own b o (hs₂.extBut b o h3 e) h1 h2)
      have hmain := ih rest.length (by omega) rest (Nat.le_refl _) (.suspended k₀ l₀ c₀ p₀ fs₀ cl) { s''.setGen g .running with heap := h₃ }
        (rests_env (sR := s₁.setGen g' (.suspended k₀ l₀ c₀ p₀ fs₀ cl)) (.inr ⟨k₀, l₀, c₀, p₀, fs₀, cl, rfl, hrest⟩) ⟨fun b o e h1 h2 => ?_, ?_, fun i hi => ?_, ?_⟩)
        (by show (s''.setGen g .running).gens[g']? = _; rw [setGen_ne (Nat.ne_of_gt hgg)]; exact hG') (by exact hgo₃) (by exact setGen_at hGg) (fun i x h1 h2 e => ?_) ?_ ?_ (fun s' a1 a2 a3 a4 a5 a6 => ?_)
      · have := goes_since hro₃ hmain
        exact this
      · exact hkeep₃ b o e (Nat.le_trans hnn h1) (fun q => by rw [q] at h1; exact absurd hga (Nat.not_lt.mpr h1)) h2
      · intro b o e
        exact hs₃.extBut b o (fun q => by rw [q] at e; exact absurd (hbn _ _ e) (Nat.not_lt.mpr (Nat.le_trans hnn hga'))) (he''.base b o e)
      · show (s''.setGen g .running).gens[i]? = _
        have hne : i ≠ g := by omega
        rw [setGen_ne hne, he''.gens i (by omega), setGen_ne hne]
      · show s₁.heap.objs.size ≤ h₃.objs.size
        rw [hs₃.1]
        refine Nat.le_trans ?_ he''.size
        show s₁.heap.objs.size ≤ h₂.objs.size
        rw [hs₂.1]; exact Nat.le_refl _
      · have e' : (s''.setGen g .running).gens[i]? = some x := e
        have hne : i ≠ g := by omega
        have hne' : i ≠ g' := by omega
        rw [setGen_ne hne, he''.gens i (by omega), setGen_ne hne] at e'
        have e'' : (s₁.setGen g' (.suspended k₀ l₀ c₀ p₀ fs₀ cl)).gens[i]? = some x := e'
        rw [setGen_ne hne', hr₁.gens i h2, setGen_ne hne'] at e''
        exact hfin i x h1 h2 e''
      · intro b o e
        exact hs₃.extBut b o (fun q => by rw [q] at e; exact absurd (hbn _ _ e) (Nat.not_lt.mpr (Nat.le_trans hnn hga'))) (he''.base b o e)
      · refine EvRoom.at (EvRoom.mono hroom'' (by simp only [List.length_append]; omega)) fun o e => hs₃.extBut ev o (fun q => by rw [← q] at hga'; exact absurd hevn (Nat.not_lt.mpr (Nat.le_trans hnn hga'))) e
      · refine after s' a1 (fun b o e h1 h2 h3 => a2 b o ?_ h1 h2 h3) (Nat.le_trans ?_ a3) a4 a5 a6
        · have hb' : b ≠ ga' := fun q => by rw [q] at h2; exact absurd h2 (Nat.not_lt.mpr hga')
          refine hkeep₃ b o (hr₁.keep b o e (.inl h2) fun q => ?_) h1 h3 hb'
          rw [q] at h1; exact absurd hevn (Nat.not_lt.mpr h1)
        · show s.heap.objs.size ≤ h₃.objs.size
          rw [hs₃.1]
          refine Nat.le_trans hr₁.size (Nat.le_trans ?_ he''.size)
          show s₁.heap.objs.size ≤ h₂.objs.size
          rw [hs₂.1]; exact Nat.le_refl _
end
end Mine
end

section
open PySem PySem.W PyProof.Rows PySem.Spec PySem.Calls
namespace Mine

section
variable {prog : Program} {w : World} {POST : Result → Shared → Prop} {hb : Heap} {ev : Addr} {n : Nat} {ga : Addr} {g D U : Nat}
  {es : List Ev} {s₀ : Shared} {acc : List Ev} {c : Code} {fs : List Frame} {s : Shared} {env : Env} {K : Flow → Sem Fin} {H : Value → Sem Fin} {gd : Bool → Bool} {lv : List Value → List Value} {D' U' D'' U'' : Nat}

theorem goes_func {body : List Stmt} (h : ∀ H, Goes prog w POST hb ev n ga g D U es s₀ acc (.func body env) ((execs body env).wrap (fun f => .pure (.done (.ret (match f with | .ret v => v | _ => .none)))) H id id) fs s) :
    Goes prog w POST hb ev n ga g D U es s₀ acc (.func body env) (denote table (.func body env)) fs s := by
  show Goes _ _ _ _ _ _ _ _ _ _ _ _ _ _ (.point [] fun _ => ((execs body env).onRaise (leaving env)) >>= _) fs s
  refine goes_point ?_
  rw [Sem.onRaise_eq_wrap, Sem.bind_eq_wrap', Sem.wrap_wrap]
  rw [Sem.wrap_congr (execs body env) _ _ (K' := fun f => .pure (.done (.ret (match f with | .ret v => v | _ => .none))))
    (H' := fun e => (leaving env e).wrap (fun _ => .raise e) .raise id id) (fun f => by cases f <;> rfl)
    (fun e => by rw [Sem.bind_eq_wrap, Sem.wrap_wrap]; rfl)]
  exact h _

theorem goes_execs_cons {st : Stmt} {rest : List Stmt}
    (h : Goes prog w POST hb ev n ga g D U es s₀ acc c ((exec st env).wrap (fun f => match f with | .next => (execs rest env).wrap K H gd lv | f => K f) H gd lv) fs s) :
    Goes prog w POST hb ev n ga g D U es s₀ acc c ((execs (st :: rest) env).wrap K H gd lv) fs s := by rw [execs_cons_wrap]; exact h

theorem goes_execs_nil (h : Goes prog w POST hb ev n ga g D U es s₀ acc c (K .next) fs s) : Goes prog w POST hb ev n ga g D U es s₀ acc c ((execs [] env).wrap K H gd lv) fs s := h

theorem goes_If {test : Expr} {body orelse : List Stmt} {pos : Pos} (hf : FsOk ga g D U fs D' U') (hd : D' + c.weight ≤ D'') (hu : U' + c.cUnits ≤ U'')
    (h : wpAny (model prog w) (plainA D'' U'') (isTrue test env (eval test env)) (fun b s' => Goes prog w POST hb ev n ga g D U es s₀ acc c ((execs (if b = true then body else orelse) env).wrap K H gd lv) fs s') (fun _ _ => False) s) :
    Goes prog w POST hb ev n ga g D U es s₀ acc c ((exec (.If test body orelse pos) env).wrap K H gd lv) fs s := by
  rw [exec_If]
  show Goes _ _ _ _ _ _ _ _ _ _ _ _ _ _ (.at pos fun _ => ((isTrue test env (eval test env)) >>= fun b => if b = true then execs body env else execs orelse env).wrap K H gd lv) fs s
  refine goes_at ?_
  rw [Sem.bind_eq_wrap', Sem.wrap_wrap]
  refine goes_wrap hf hd hu (wpAny_mono h (fun b s' q => ?_) fun _ _ f => f.elim)
  cases b
  · exact q
  · exact q

theorem goes_Return_none {pos : Pos} (h : Goes prog w POST hb ev n ga g D U es s₀ acc c (K (.ret .none)) fs s) :
    Goes prog w POST hb ev n ga g D U es s₀ acc c ((exec (.Return none pos) env).wrap K H gd lv) fs s := goes_at h

/-- a statement that yields -/
theorem goes_Yield {e : Expr} {ypos pos : Pos} {x : Int} {es' : List Ev} (hfs : splitAtGen fs = none) (hgd : gd false = false) (hfg : fs.any Frame.guarded = false) (hf : FsOk ga g D U fs D' U') (hd : D' + c.weight ≤ D'') (hu : U' + c.cUnits ≤ U'')
    (h : wpAny (model prog w) (plainA D'' U'') (eval e env) (fun v s' => (∃ tk, v = .int x tk) ∧ Ran ev n ga g s₀ s' acc ∧ (∀ gs, okRest s'.heap gs → AllOk g (s'.setGen g gs)) ∧
        ∀ s'' k₀ l₀ p₀, Env' hb n ga g (s'.setGen g (.suspended k₀ l₀ c p₀ fs false)) s'' → EvRoom s''.heap ev (es'.length + 1) → Goes prog w POST hb ev n ga g D U es' (s''.setGen g .running) [] c (K .next) fs (s''.setGen g .running)) (fun _ _ => False) s)
    (hco : env.scope.isCoroutine = false := by rfl) (hi : interactive env = false := by rfl) :
    Goes prog w POST hb ev n ga g D U (.told x :: es') s₀ acc c ((exec (.Expr (.Yield (some e) ypos) pos) env).wrap K H gd lv) fs s := by
  rw [exec_Expr env _ pos hi rfl]
  show Goes _ _ _ _ _ _ _ _ _ _ _ _ _ c (.at pos fun _ => ((eval e env >>= fun v => (standAt ypos >>= fun _ => yieldOut env v)) >>= fun x =>
    dropValue (.Yield (some e) ypos) pos x).wrap K H gd lv) fs s
  have hy : ∀ v, yieldOut env v = yieldValue v := fun v => by simp only [yieldOut, hco, Bool.false_eq_true, if_false]
  simp only [hy]
  refine goes_at ?_
  rw [Sem.bind_eq_wrap', Sem.bind_eq_wrap', Sem.wrap_wrap, Sem.wrap_wrap]
  refine goes_wrap hf hd hu (wpAny_mono h (fun v s' q => ?_) fun _ _ f => f.elim)
  obtain ⟨htk, hr, hok, hgo⟩ := q
  refine goes_at ?_
  refine segj_yield hfs (.inl (by show (gd false || fs.any Frame.guarded) = false; rw [hgd, hfg]; rfl)) fun p => ?_
  have hcl : (gd false || fs.any Frame.guarded) = false := by rw [hgd, hfg]; rfl
  have k1 : ∀ b k l c' p fs', b = false → okRest s'.heap (.suspended k l c' p fs' b) := by rintro _ _ _ _ _ _ rfl; trivial
  have k2 : ∀ b k l c' p fs' s'', b = false → Env' hb n ga g (s'.setGen g (.suspended k l c' p fs' b)) s'' → Env' hb n ga g (s'.setGen g (.suspended k l c' p fs' false)) s'' := by rintro _ _ _ _ _ _ _ rfl h; exact h
  exact ⟨htk, hr, hok _ (k1 _ _ _ _ _ _ hcl), _, _, _, _, _, _, rfl, fun s'' he hv => hgo s'' _ _ _ (k2 _ _ _ _ _ _ _ hcl he) hv⟩

/-- a `for` at its head -/
theorem goes_For {target iter : Expr} {body orelse : List Stmt} {pos : Pos} (hf : FsOk ga g D U fs D' U') (hd : D' + c.weight ≤ D'') (hu : U' + c.cUnits ≤ U'')
    (h : wpAny (model prog w) (plainA D'' U'') (eval iter env) (fun x s₁ => wpAny (model prog w) (plainA D'' U'') (pyIter x) (fun it s₂ =>
      ∀ k₀ p, (∀ f, k₀ (.ok f) = K f) → Goes prog w POST hb ev n ga g D U es s₀ acc (.forLoop target it body orelse env) (denote table (.forLoop target it body orelse env)) (.ret k₀ none (gd false) (lv []) c p [] :: fs) s₂) (fun _ _ => False) s₁) (fun _ _ => False) s)
    (hs : ∀ x, foldedSetIterable iter env x = pure x := by intro _; rfl) :
    Goes prog w POST hb ev n ga g D U es s₀ acc c ((exec (.For target iter body orelse pos) env).wrap K H gd lv) fs s := by
  rw [exec_For]
  show Goes _ _ _ _ _ _ _ _ _ _ _ _ _ _ (.at pos fun _ => (eval iter env >>= fun x => foldedSetIterable iter env x >>= fun x => standAt iter.pos >>= fun _ => holding [x] (pyIter x) >>= fun it => runOwn (.forLoop target it body orelse env) env).wrap K H gd lv) fs s
  refine goes_at ?_
  rw [Sem.bind_eq_wrap', Sem.wrap_wrap]
  refine goes_wrap hf hd hu (wpAny_mono h (fun x s₁ q => ?_) fun _ _ f => f.elim)
  show Goes _ _ _ _ _ _ _ _ _ _ _ _ _ _ ((foldedSetIterable iter env x >>= _).wrap K H gd lv) fs s₁
  rw [hs x]
  show Goes _ _ _ _ _ _ _ _ _ _ _ _ _ _ (.at iter.pos fun _ => (holding [x] (pyIter x) >>= fun it => runOwn (.forLoop target it body orelse env) env).wrap K H gd lv) fs s₁
  refine goes_at ?_
  rw [Sem.bind_eq_wrap', Sem.wrap_wrap]
  refine goes_wrap hf hd hu (wpAny_holding (wpAny_mono q (fun it s₂ q => ?_) fun _ _ f => f.elim))
  exact goes_call fun p => q _ _ fun f => rfl

/-- a turn of a `for` -/
theorem goes_forLoop {target : Expr} {it : Value} {body orelse : List Stmt} (hf : FsOk ga g D U fs D' U')
    (h : wpAny (model prog w) (plainA D' U') (pyNext it) (fun r s₁ => match r with
      | none => Goes prog w POST hb ev n ga g D U es s₀ acc (.forLoop target it body orelse env) (.pure (.again (.block orelse env))) fs s₁
      | some v => wpAny (model prog w) (plainA D' U') (assign target env v) (fun _ s₂ => ∀ H, Goes prog w POST hb ev n ga g D U es s₀ acc (.forLoop target it body orelse env) ((execs body env).wrap (fun f => match f with
          | .next | .cont => .pure (.again (.forLoop target it body orelse env))
          | .brk => .pure (.done .next)
          | .ret v => .pure (.done (.ret v))) H id id) fs s₂) (fun _ _ => False) s₁) (fun _ _ => False) s) (ht : ∀ v, letOwnedTupleGo target it v = pure () := by intro _; rfl) :
    Goes prog w POST hb ev n ga g D U es s₀ acc (.forLoop target it body orelse env) (denote table (.forLoop target it body orelse env)) fs s := by
  show Goes _ _ _ _ _ _ _ _ _ _ _ _ _ _ ((forTurn target it body orelse env).onRaise (fun x => do noteFrame x env; theTreesLotGoes x)) fs s
  rw [Sem.onRaise_eq_wrap]
  unfold forTurn
  show Goes _ _ _ _ _ _ _ _ _ _ _ _ _ _ (.at target.pos fun _ => ((pyNext it).onRaise (fun _ => standAt { target.pos with line := 0 }) >>= _).wrap _ _ id id) fs s
  refine goes_at ?_
  rw [Sem.bind_eq_wrap', Sem.wrap_wrap]
  refine goes_wrap hf (by exact Nat.le_refl _) (by exact Nat.le_refl _) (wpAny_onRaise (wpAny_mono h (fun r s₁ q => ?_) fun _ _ f => f.elim))
  cases r with
  | none => exact q
  | some v =>
    show Goes _ _ _ _ _ _ _ _ _ _ _ _ _ _ ((letOwnedTupleGo target it v >>= _).wrap _ _ id id) fs s₁
    rw [ht v]
    show Goes _ _ _ _ _ _ _ _ _ _ _ _ _ _ ((assign target env v >>= _).wrap _ _ id id) fs s₁
    rw [Sem.bind_eq_wrap', Sem.wrap_wrap]
    refine goes_wrap hf (by exact Nat.le_refl _) (by exact Nat.le_refl _) (wpAny_mono q (fun _ s₂ q => ?_) fun _ _ f => f.elim)
    show Goes _ _ _ _ _ _ _ _ _ _ _ _ _ _ ((execs body env >>= _).wrap _ _ _ _) fs s₂
    rw [Sem.bind_eq_wrap', Sem.wrap_wrap]
    rw [Sem.wrap_congr (execs body env) _ _ (K' := fun f => match f with
          | .next | .cont => .pure (.again (.forLoop target it body orelse env))
          | .brk => .pure (.done .next)
          | .ret v => .pure (.done (.ret v))) (H' := _) (fun f => by cases f <;> rfl) (fun e => rfl)]
    exact q _

theorem goes_block_nil {k₀ hd₀ g₀ l₀ c₁ p₁ kp} (h : Goes prog w POST hb ev n ga g D U es s₀ acc c₁ (k₀ (.ok .next)) fs s) :
    Goes prog w POST hb ev n ga g D U es s₀ acc (.block [] env) (denote table (.block [] env)) (.ret k₀ hd₀ g₀ l₀ c₁ p₁ kp :: fs) s :=
  goes_leaf (.ok .next) h

/-- a statement that yields from a generator -/
theorem goes_YieldFrom {e : Expr} {ypos pos : Pos} (hf : FsOk ga g D U fs D' U') (hd : D' + c.weight ≤ D'') (hu : U' + c.cUnits ≤ U'')
    (h : wpAny (model prog w) (plainA D'' U'') (eval e env) (fun v s₁ => ∃ ga' g', v = .ref ga' ∧ s₁.heap.IsGen ga' g' ∧
      ∀ k₀ p, k₀ (.ok (.ret .none)) = K .next → Goes prog w POST hb ev n ga g D U es s₀ acc (cY ga') (denote table (cY ga')) (.ret k₀ none (gd false) (lv []) c p [] :: fs) s₁) (fun _ _ => False) s)
    (hi : interactive env = false := by rfl) :
    Goes prog w POST hb ev n ga g D U es s₀ acc c ((exec (.Expr (.YieldFrom e ypos) pos) env).wrap K H gd lv) fs s := by
  rw [exec_Expr env _ pos hi rfl]
  show Goes _ _ _ _ _ _ _ _ _ _ _ _ _ c (.at pos fun _ => ((eval e env >>= fun v => (standAt ypos >>= fun _ => yieldFrom env v)) >>= fun x =>
    dropValue (.YieldFrom e ypos) pos x).wrap K H gd lv) fs s
  refine goes_at ?_
  rw [Sem.bind_eq_wrap', Sem.bind_eq_wrap', Sem.wrap_wrap, Sem.wrap_wrap]
  refine goes_wrap hf hd hu (wpAny_mono h (fun v s₁ q => ?_) fun _ _ f => f.elim)
  obtain ⟨ga', g', rfl, hg, q⟩ := q
  refine goes_at ?_
  have hcond : ((Value.type "generator") == Value.type "coroutine") = false := by decide
  show Goes _ _ _ _ _ _ _ _ _ _ _ _ _ _ (Sem.wrap (fun a => Sem.wrap K H gd lv (dropValue (e.YieldFrom ypos) pos a)) (fun x => Sem.wrap K H gd lv (Sem.raise x)) (fun g => gd (id g)) (fun l => lv (id l)) (yieldFrom env (.ref ga'))) fs s₁
  unfold yieldFrom
  rw [Sem.bind_eq_wrap', Sem.wrap_wrap]
  refine goes_wrap hf hd hu (wpAny_typeOf (T := "generator") hg.typeIs ?_)
  simp only [hcond, Bool.false_eq_true, if_false]
  rw [Sem.bind_eq_wrap', Sem.wrap_wrap]
  refine goes_wrap hf hd hu (wpAny_holding (wpAny_pyIter_gen hg ?_))
  exact goes_call fun p => q _ _ rfl
end
end Mine
end

section
open PySem PySem.W PyProof.Rows PySem.Spec PySem.Calls
set_option maxRecDepth 100000
set_option maxHeartbeats 4000000
namespace Mine
theorem regK : PySem.Challenge.rw_ak0011_01 = PySem.Challenge.rw_ak0011_01 ∧ hd.heap_39 = hd.heap_39 := by k_fill; exact ⟨rfl, rfl⟩

def chainBody : List Stmt := match PySem.Challenge.pw_ak0011_01.main.body with
  | _ :: .FunctionDef _ a b _ _ _ s _ _ _ :: _ => b
  | _ => []
def chainScope : Scope := match PySem.Challenge.pw_ak0011_01.main.body with
  | _ :: .FunctionDef _ a b _ _ _ s _ _ _ :: _ => s
  | _ => {kind := .function, names := [], isGenerator := true, isCoroutine := false}
def chainArgs : Arguments := match PySem.Challenge.pw_ak0011_01.main.body with
  | _ :: .FunctionDef _ a b _ _ _ s _ _ _ :: _ => a
  | _ => ⟨[], [], none, [], [], none, []⟩
def chainTest : Expr := match chainBody with
  | .If t _ _ _ :: _ => t
  | _ => .Name "" ⟨0,0,0,0⟩
def chainIter : Expr := match chainBody with
  | _ :: .For _ t _ _ _ :: _ => t
  | _ => .Name "" ⟨0,0,0,0⟩
def chainInner : Expr := match chainBody with
  | _ :: .For _ _ [.Expr (.YieldFrom t _) _] _ _ :: _ => t
  | _ => .Name "" ⟨0,0,0,0⟩
abbrev bigA : Around := { handled := none, depth := 900, frames := none, guards := none, units := 9000 }
abbrev chainEnv (L : Addr) : Env := envOf (Str.ofString "generator_chain") chainScope L 21 (.ref 20)
abbrev tupV (vs : List Value) : Obj := { cls := .type "tuple", data := .seq vs.toArray 0 }
abbrev baseM (x : Int) (tk : Tok) (aT : Addr) : Str → Option Value := fun y => [(Str.ofString "initial_data", Value.int x tk), (Str.ofString "factories", Value.ref aT)].reverse.lookup y

section
variable {prog : Program} {w : World} {p : Program} {loose : List Str} {mg mb : Str → Option Value} {hb : Heap} {s : Shared} {L aT f0 : Addr} {x y : Int} {tk tk' : Tok} {vs : List Value} {extra : List (Addr × Obj)}
theorem chain_test {Q : Bool → Shared → Prop} (X : (hd.heap_39 w.params).In hb) (T : TopRead p loose mg mb hb) (F : Fr hb L s.heap (baseM x tk aT)) (N : News hb L s.heap ((aT, tupV vs) :: extra)) (hsz : vs.length ≤ 10)
    (hQ : ∀ tks, Q vs.isEmpty { s with toks := tks }) :
    wpAny (model prog w) bigA (isTrue chainTest (chainEnv L) (eval chainTest (chainEnv L))) Q (fun _ _ => False) s := by
  simp only [chainEnv, chainTest, chainBody, chainScope, PySem.Challenge.pw_ak0011_01]
  k_steps
  refine len_tuple (items := vs.toArray) ⟨_, (N _ (List.mem_cons_self ..)).1, rfl, _, rfl⟩ (by rw [List.size_toArray]; omega) ?_
  k_steps
  have e : (((vs.toArray.size : Nat) : Int) == 0) = vs.isEmpty := by cases vs <;> rfl
  rw [e]
  exact hQ _
theorem chain_iter {Q : Value → Shared → Prop} (X : (hd.heap_39 w.params).In hb) (T : TopRead p loose mg mb hb) (F : Fr hb L s.heap (baseM x tk aT)) (N : News hb L s.heap ((aT, tupV (.ref f0 :: vs)) :: extra)) (hf : FnAt f0 hb) (hsz : vs.length ≤ 10)
    (hQ : ∀ tks, wpAny (model prog w) bigA (call (.ref f0) [.int x tk]) Q (fun _ _ => False) { s with toks := tks }) :
    wpAny (model prog w) bigA (eval chainIter (chainEnv L)) Q (fun _ _ => False) s := by
  simp only [chainEnv, chainIter, chainBody, chainScope, PySem.Challenge.pw_ak0011_01]
  k_steps
  refine item_tupleL (l := .ref f0 :: vs) (j := 0) ⟨_, (N _ (List.mem_cons_self ..)).1, rfl, _, rfl⟩ (by decide) (by decide) (by simp [seqIndex?]) rfl ?_
  have hf' : FnAt f0 s.heap := by obtain ⟨oc, od, fd, sl, e⟩ := hf; exact ⟨oc, od, fd, sl, F.keep _ _ e⟩
  refine callWith_F hf' ?_
  k_steps
  · exact hf'
  · exact hQ _
theorem chain_inner {Q : Value → Shared → Prop} (X : (hd.heap_39 w.params).In hb) (T : TopRead p loose mg mb hb) (F : Fr hb L s.heap (fun z => if z = Str.ofString "next_data" then some (.int y tk') else baseM x tk aT z)) (N : News hb L s.heap ((aT, tupV (.ref f0 :: vs)) :: extra)) (hsz : vs.length ≤ 10)
    (hQ : ∀ h' tks, Fr hb L h' (fun z => if z = Str.ofString "next_data" then some (.int y tk') else baseM x tk aT z) → News hb L h' ((aT, tupV (.ref f0 :: vs)) :: extra) → s.heap.objs.size ≤ h'.objs.size → wpAny (model prog w) bigA (call (.ref 21) (.int y tk' :: vs)) Q (fun _ _ => False) { s with heap := h', toks := tks }) :
    wpAny (model prog w) bigA (eval chainInner (chainEnv L)) Q (fun _ _ => False) s := by
  simp only [chainEnv, chainInner, chainBody, chainScope, PySem.Challenge.pw_ak0011_01]
  have hzz : (Value.ref f0 :: vs).toArray.size ≤ sizeLine := by rw [List.size_toArray, List.length_cons]; exact Nat.le_trans (Nat.succ_le_succ hsz) (by decide)
  k_steps
  refine slice_tuple_from F N ⟨_, (N _ (List.mem_cons_self ..)).1, rfl, _, rfl⟩ (a := 1) (Nat.le_refl _) (by simp) ?_ (hsz := hzz)
  intro h' F' N'
  refine star_seq F' N' (ws := vs) (.head _) rfl rfl (.inr rfl) (by simp) ?_ ?_
  · simp only [List.drop_succ_cons, List.drop_zero, List.size_toArray]; exact Nat.le_trans hsz (by decide)
  intro h'' F'' N''
  k_steps
  rw [List.append_nil]
  refine hQ _ _ F'' (fun q hq => N'' q (.tail _ hq)) ?_
  have := Heap.lt_size (N'' _ (.head _)).1
  exact Nat.le_of_lt (Nat.lt_of_succ_lt this)

theorem binds_tree {y : Int} {tk : Tok} {vs : List Value} (hl : vs.length ≤ 3) : bindArgs (fnOf (Str.ofString "generator_chain") (Str.ofString "generator_chain") chainArgs chainBody chainScope .none .none .none (.str (Str.ofString "matchpy.utils") 187) none (.ref 20) .none) ⟨.int y tk :: vs, []⟩ = (alloc (tupV vs) >>= fun D => pure [(Str.ofString "initial_data", Value.int y tk), (Str.ofString "factories", Value.ref D)]) := by
  match vs, hl with
  | [], _ => rfl
  | [_], _ => rfl
  | [_, _], _ => rfl
  | [_, _, _], _ => rfl
  | _ :: _ :: _ :: _ :: _, h => exact absurd h (by simp)
theorem chain_at {ps : Params} : (hd.heap_39 ps).lookup 21 = some ⟨.type "function", none, .func (fnOf (Str.ofString "generator_chain") (Str.ofString "generator_chain") chainArgs chainBody chainScope .none .none .none (.str (Str.ofString "matchpy.utils") 187) none (.ref 20) .none), #[]⟩ := rfl

/-- a generator, just made -/
structure Made (s s' : Shared) (L aT ga : Addr) (y : Int) (tk : Tok) (vs : List Value) : Prop where
  heap : ∀ b o, s.heap.get? b = some o → s'.heap.get? b = some o
  gens : s'.gens = s.gens.push (.fresh (.func chainBody (chainEnv L)))
  os : s'.os = s.os
  ns : s'.heap.Ns L (baseM y tk aT)
  tup : s'.heap.get? aT = some (tupV vs)
  gen : s'.heap.IsGen ga s.gens.size
  nT : s.heap.objs.size ≤ aT
  TL : aT < L
  Lg : L < ga

theorem made_binds {y : Int} {tk : Tok} {A : Around} {Q : List (Str × Value) → Shared → Prop} {E : Value → Shared → Prop} (X : (hd.heap_39 w.params).In s.heap) (hl : vs.length ≤ 3)
    (h : Q [(Str.ofString "initial_data", Value.int y tk), (Str.ofString "factories", Value.ref s.heap.objs.size)] { s with heap := s.heap.push (tupV vs) }) :
    wpAny (model prog w) A (bindArgs (fnOf (Str.ofString "generator_chain") (Str.ofString "generator_chain") chainArgs chainBody chainScope .none .none .none (.str (Str.ofString "matchpy.utils") 187) none (.ref 20) .none) ⟨.int y tk :: vs, []⟩) Q E s := by
  rw [binds_tree hl]
  exact wpAny_bind (wpAny_alloc (wpAny_pure h))

theorem chain_make {A : Around} {y : Int} {tk : Tok} {R : Result → Shared → Prop} (X : (hd.heap_39 w.params).In hb) (T : TopRead p loose mg mb hb) (st : hb.StaysIn s.heap) (hl : vs.length ≤ 3) 
    (h : ∀ s' L aT ga, Made s s' L aT ga y tk vs → R (.ok (.ret (.ref ga))) s') (hroom : A.depth < recursionLimit := by decide) :
    codeAny (model prog w) A (.call (.ref 21) ⟨.int y tk :: vs, []⟩) R s := by
  have X' : (hd.heap_39 w.params).In s.heap := X.keeps fun b o e => st b o e
  refine codeAny_call_generator hroom (X' _ _ chain_at) rfl rfl rfl rfl (codeRec_of X' (by k_is)) ?_
  refine made_binds X' hl ?_
  refine wpAny_newFunctionEnv (by decide) (locs rfl) (fun h₁ hns hsb => ⟨(T.nolimit.keeps fun b o e => Heap.get?_push_of_some _ (st b o e)).fresh _ hsb, ?_⟩) rfl
  have hk₁ : ∀ b o, (s.heap.push (tupV vs)).get? b = some o → h₁.get? b = some o := fun b o e => hsb.extBut b o (Nat.ne_of_lt (Heap.lt_size e)) (Heap.get?_push_of_some _ e)
  refine h _ (s.heap.push (tupV vs)).objs.size s.heap.objs.size h₁.objs.size ⟨fun b o e => Heap.get?_push_of_some _ (hk₁ b o (Heap.get?_push_of_some _ e)), rfl, rfl, ?_, Heap.get?_push_of_some _ (hk₁ _ _ (Heap.get?_push_size _ rfl)), ?_, Nat.le_refl _, ?_, ?_⟩
  · exact hns.push _
  · exact ⟨_, _, _, Heap.get?_push_size _ rfl, rfl, rfl, rfl⟩
  · rw [Heap.size_push]; exact Nat.lt_succ_self _
  · rw [hsb.1]
    refine Nat.lt_of_lt_of_eq (Nat.lt_succ_self _) (Eq.symm ?_)
    exact Heap.size_push ..
end
end Mine
end

section
open PySem PySem.W PyProof.Rows PySem.Spec PySem.Calls
set_option maxRecDepth 100000
set_option maxHeartbeats 4000000
namespace Mine

/-- all the objects that are neither the base's nor the frame -/
def others (hb h : Heap) (L : Addr) : List (Addr × Obj) := (List.range h.objs.size).filterMap fun b => if b = L then none else match hb.get? b with
  | some _ => none
  | none => (h.get? b).map fun o => (b, o)
theorem others_news {hb h : Heap} {L : Addr} : News hb L h (others hb h L) := by
  intro q hq
  unfold others at hq
  rw [List.mem_filterMap] at hq
  obtain ⟨b, _, e⟩ := hq
  split at e
  · cases e
  · rename_i hne
    split at e
    · cases e
    · rename_i h0
      cases h1 : h.get? b with
      | none => rw [h1] at e; cases e
      | some o => rw [h1] at e; cases e; exact ⟨h1, hne, h0⟩
theorem others_mem {hb h : Heap} {L b : Addr} {o : Obj} (e : h.get? b = some o) (hL : b ≠ L) (h0 : hb.get? b = none) : (b, o) ∈ others hb h L := by
  unfold others
  rw [List.mem_filterMap]
  refine ⟨b, List.mem_range.mpr (Heap.lt_size e), ?_⟩
  rw [if_neg hL, h0, e]; rfl
theorem others_keep {hb h h' : Heap} {L : Addr} {m} (F : Fr hb L h' m) (N : ∀ q ∈ others hb h L, h'.get? q.1 = some q.2) (st : hb.StaysIn h) : ∀ b o, h.get? b = some o → b ≠ L → h'.get? b = some o := by
  intro b o e hL
  cases h0 : hb.get? b with
  | some o' =>
    have := st b o' h0
    rw [e] at this; cases this
    exact F.keep b _ h0
  | none => exact N _ (others_mem e hL h0)

theorem wpAny_bigA {M : Model} {A : Around} {α : Type} {m : Sem α} {Q : α → Shared → Prop} {E : Value → Shared → Prop} {s : Shared} (hh : A.handled = none) (hD : A.depth ≤ 900) (hU : A.units ≤ 9000) (h : wpAny M bigA m Q E s) : wpAny M A m Q E s := fun Γ p hΓ =>
  h Γ p ⟨hΓ.1.trans hh, Nat.le_trans hΓ.2.1 hD, fun l e => by (cases e), fun l e => by (cases e), Nat.le_trans hΓ.2.2.2.2 hU⟩
theorem wpAny_big {M : Model} {α : Type} {D U : Nat} {m : Sem α} {Q : α → Shared → Prop} {E : Value → Shared → Prop} {s : Shared} (hD : D ≤ 900) (hU : U ≤ 9000) (h : wpAny M bigA m Q E s) : wpAny M (plainA D U) m Q E s := wpAny_bigA rfl hD hU h

/-- a factory, told by what it answers and writes down -/
structure Fac where
  f : Addr
  place : Nat
  nexts : Int → List Int

def okV (v : Int) : Prop := 0 ≤ v ∧ v < 97

def FacOk (prog : Program) (w : World) (hb : Heap) (ev : Addr) (F : Fac) : Prop := FnAt F.f hb ∧ (∀ v, okV v → ∀ y ∈ F.nexts v, okV y) ∧ ∀ (s : Shared) (v : Int) (tk : Tok), hb.StaysIn s.heap → EvRoom s.heap ev 1 → okV v →
  wpAny (model prog w) bigA (call (.ref F.f) [.int v tk]) (fun r s' => ∃ a items h' tks, s' = { s with heap := h', toks := tks } ∧ r = .ref a ∧ s.heap.objs.size ≤ a ∧ h'.IsList a (List.toArray items) ∧ IntsAre items (F.nexts v) ∧
     (∀ b o, s.heap.get? b = some o → b ≠ ev → h'.get? b = some o) ∧ s.heap.objs.size ≤ h'.objs.size ∧
     (∀ its k, s.heap.get? ev = some (listOf its k) → ∃ t k', h'.get? ev = some (listOf (its.push t) k') ∧ EvIs h' t (.asked F.place v))) (fun _ _ => False) s

def due : List Fac → Int → List Ev
  | [], x => [.told x]
  | F :: Fs, x => .asked F.place x :: (F.nexts x).flatMap (due Fs)

theorem update_size (h : Heap) (a : Addr) (f : Obj → Obj) : (h.update a f).objs.size = h.objs.size := (Heap.SameBut.update (a := a) (h := h) ..).1
theorem runs_size {M : Model} {Γ : PySem.Ctx} {p : Pos} {t : Sem Fin} {fs : List Frame} {s s' : Shared} {e : End} (h : Runs M Γ p t fs s e s') : s.heap.objs.size ≤ s'.heap.objs.size := by
  induction h with
  | update _ _ ih => exact (update_size _ _ _) ▸ ih
  | alloc _ ih => exact Nat.le_trans (Nat.le_of_lt (by show _ < (Heap.push _ _).objs.size; rw [Heap.size_push]; exact Nat.lt_succ_self _)) ih
  | _ => first | exact Nat.le_refl _ | assumption | (rename_i i1 i2; exact Nat.le_trans i1 i2)
theorem wakes_size {M : Model} {Γ : PySem.Ctx} {p : Pos} {g : Nat} {r : Resume} {s s' : Shared} {res : GenResult} (h : Wakes M Γ p g r s res s') : s.heap.objs.size ≤ s'.heap.objs.size := by
  unfold Wakes at h
  split at h
  · exact h.elim
  · split at h
    · obtain ⟨e₁, s₁, hr, _, _, rfl⟩ := h; have z := runs_size hr; exact z
    · rw [h.2]; exact Nat.le_refl _
    · rw [h.2]; exact Nat.le_refl _
  · obtain ⟨e₁, s₁, hr, _, _, rfl⟩ := h; have z := runs_size hr; exact z
  · rw [h.2]; exact Nat.le_refl _
  · rw [h.2]; exact Nat.le_refl _
theorem wp_size {α : Type} {M : Model} {Γ : PySem.Ctx} {n : Nat} : ∀ (t : Sem α) {Q : α → Pos → Shared → Prop} {E : Value → Pos → Shared → Prop} {p : Pos} {s : Shared}, n ≤ s.heap.objs.size → Sem.wp M Γ t Q E p s →
    Sem.wp M Γ t (fun a p' s' => Q a p' s' ∧ n ≤ s'.heap.objs.size) (fun x p' s' => E x p' s' ∧ n ≤ s'.heap.objs.size) p s := by
  intro t
  induction t with
  | pure a => exact fun hn h => ⟨h, hn⟩
  | raise e => exact fun hn h => ⟨h, hn⟩
  | load a part k ih => exact fun hn ⟨o, ho, h⟩ => ⟨o, ho, ih o hn h⟩
  | update a part f k ih => exact fun hn ⟨ho, h⟩ => ⟨ho, ih () (Nat.le_trans hn (Nat.le_of_eq (update_size _ _ _).symm)) h⟩
  | alloc o k ih => exact fun hn h => ih _ (Nat.le_trans hn (Nat.le_of_lt (by show _ < (Heap.push _ _).objs.size; rw [Heap.size_push]; exact Nat.lt_succ_self _))) h
  | choose src b k ih => exact fun hn ⟨hb, h⟩ => ⟨hb, ih _ hn h⟩
  | genState g k ih => exact fun hn ⟨st, hg, h⟩ => ⟨st, hg, ih _ hn h⟩
  | call c hd g l k ih => exact fun hn ⟨r, s₁, hr, h⟩ => ⟨r, s₁, hr, ih r (Nat.le_trans hn (runs_size hr)) h⟩
  | resume g r l k ih => exact fun hn ⟨res, s₁, hw, h⟩ => ⟨res, s₁, hw, ih res (Nat.le_trans hn (wakes_size hw)) h⟩
  | unsupported _ => exact fun _ h => h.elim
  | finish _ => exact fun _ h => h.elim
  | yield _ _ _ _ => exact fun _ h => h.elim
  | register _ _ => exact fun _ h => h.elim
  | rule tag k ih => exact fun hn h => ih () hn h
  | «at» q k ih => exact fun hn h => ih () hn h
  | point l k ih => exact fun hn h => ih () hn h
  | loadIfAlive a k ih => exact fun hn h => ih _ hn h
  | fresh k ih => exact fun hn h => ih _ hn h
  | ask k ih => exact fun hn h => ih _ hn h
  | os q l k ih => exact fun hn h => ih _ hn h
  | handled own k ih => exact fun hn h => ih _ hn h
  | newGen c k ih => exact fun hn h => ih _ hn h
  | stack k ih => exact fun hn h => ih _ hn h
  | thread k ih => exact fun hn h => ih _ hn h
  | _ => exact fun _ h => h.elim

/-- no run makes the heap smaller -/
theorem wpAny_size {α : Type} {M : Model} {A : Around} {m : Sem α} {Q : α → Shared → Prop} {E : Value → Shared → Prop} {s : Shared} (h : wpAny M A m Q E s) :
    wpAny M A m (fun a s' => Q a s' ∧ s.heap.objs.size ≤ s'.heap.objs.size) (fun x s' => E x s' ∧ s.heap.objs.size ≤ s'.heap.objs.size) s := fun Γ p hΓ => wp_size m (Nat.le_refl _) (h Γ p hΓ)

theorem next_end {prog : Program} {w : World} {A : Around} {E : Value → Shared → Prop} {s : Shared} {it l : Addr} {i : Nat} {items} {Q : Option Value → Shared → Prop} (hh : A.handled = none)
    (hit : s.heap.IsListIter it l i) (hl : s.heap.IsList l items) (hx : items[i]? = none)
    (hQ : ∀ h', Heap.ExtBut it s.heap h' → s.heap.objs.size ≤ h'.objs.size → Q none { s with heap := h' }) : wpAny (model prog w) A (pyNext (.ref it)) Q E s :=
  wpAny_mono (wpAny_size (wpAny_pyNext_list_end (E := fun _ _ => False) (Q := fun r s' => ∃ h', r = none ∧ s' = { s with heap := h' } ∧ Heap.ExtBut it s.heap h') hh hit hl hx fun h' x => ⟨h', rfl, rfl, x⟩))
    (fun r s' ⟨⟨h', e1, e2, x⟩, z⟩ => by subst e1; subst e2; exact hQ h' x z) fun _ _ f => f.1.elim
section
variable {prog : Program} {w : World} {POST : Result → Shared → Prop} {p : Program} {loose : List Str} {mg mb : Str → Option Value} {hb : Heap} {ev : Addr}

/-- what a generator's loop finds at its head -/
structure LoopAt (hb : Heap) (g : Nat) (L aT ga lA iA : Addr) (x : Int) (tk : Tok) (vs vals : List Value) (j : Nat) (s : Shared) : Prop where
  base : hb.StaysIn s.heap
  ns : ∃ m, s.heap.Ns L m ∧ ∀ y, y ≠ Str.ofString "next_data" → m y = baseM x tk aT y
  tup : s.heap.get? aT = some (tupV vs)
  lst : s.heap.IsList lA vals.toArray
  it : s.heap.IsListIter iA lA j
  run : s.gens[g]? = some .running
  fin : ∀ i x, g < i → s.gens[i]? = some x → x = .finished

theorem allFin {g : Nat} {s : Shared} (run : g < s.gens.size) (fin : ∀ i x, g < i → s.gens[i]? = some x → x = .finished) : AllFin g (s.setGen g .finished) := by
  intro i x hi e
  rcases Nat.lt_or_eq_of_le hi with hlt | rfl
  · rw [setGen_ne (Nat.ne_of_gt hlt)] at e; exact fin i x hlt e
  · rw [setGen_at run] at e; cases e; rfl

def chainTarget : Expr := match chainBody with
  | _ :: .For t _ _ _ _ :: _ => t
  | _ => .Name "" ⟨0,0,0,0⟩
def chainLoop : List Stmt := match chainBody with
  | _ :: .For _ _ b _ _ :: _ => b
  | _ => []
theorem chainTarget_eq : ∃ pos, chainTarget = .Name (Str.ofString "next_data") pos := ⟨_, rfl⟩
theorem chainLoop_eq : ∃ p1 p2, chainLoop = [.Expr (.YieldFrom chainInner p1) p2] := ⟨_, _, rfl⟩
theorem chainBody_eq : ∃ p1 p2 p3 p4 p5 p6, chainBody = [.If chainTest [.Expr (.Yield (some (.Name (Str.ofString "initial_data") p1)) p2) p3, .Return none p4] [] p5, .For chainTarget chainIter chainLoop [] p6] := ⟨_, _, _, _, _, _, rfl⟩

theorem genObj_of {h : Heap} {a : Addr} {g : Nat} (x : h.IsGen a g) : GenObj h a g 0 := by
  obtain ⟨o, nm, qn, ho, hc, hd, hs⟩ := x
  exact ⟨o, nm, qn, ho, hc, hd, by unfold slotVal; rw [hs]; rfl⟩

theorem Ran.made {n : Nat} {ga : Addr} {g : Nat} {s s' : Shared} {iA L : Addr} (hk : ∀ b o, s.heap.get? b = some o → b ≠ iA → b ≠ L → s'.heap.get? b = some o) (hi : n ≤ iA) (hig : iA ≠ ga) (hL : n ≤ L) (hLg : L ≠ ga)
    (hiT : ∀ o, s.heap.get? iA = some o → ¬ TupO o) (hLT : ∀ o, s.heap.get? L = some o → ¬ TupO o) (hev : ev < n) (hz : s.heap.objs.size ≤ s'.heap.objs.size) (hg : ∀ i, i < g → s'.gens[i]? = s.gens[i]?) (hgz : s.gens.size ≤ s'.gens.size) (hos : s'.os = s.os) :
    Ran ev n ga g s s' [] where
  keep := fun b o e h1 h2 => hk b o e (fun q => by rw [q] at h1; exact h1.elim (fun h => absurd h (Nat.not_lt.mpr hi)) hig) (fun q => by rw [q] at h1; exact h1.elim (fun h => absurd h (Nat.not_lt.mpr hL)) hLg)
  tup := fun b o e h => hk b o e (fun q => hiT o (q ▸ e) h) (fun q => hLT o (q ▸ e) h)
  size := hz
  list := fun items m e => ⟨[], m, by simpa using hk ev _ e (fun q => absurd hev (q ▸ Nat.not_lt.mpr hi)) (fun q => absurd hev (q ▸ Nat.not_lt.mpr hL)), trivial⟩
  gens := hg
  gsize := hgz
  os := hos
theorem ns_not_tup {h : Heap} {L : Addr} {m} (x : h.Ns L m) : ∀ o, h.get? L = some o → ¬ TupO o := by
  intro o e
  obtain ⟨o', es, ep, ho, hd, _⟩ := x
  rw [e] at ho; cases ho
  rintro ⟨its, k, rfl⟩
  cases hd
theorem iter_not_tup {h : Heap} {L l : Addr} {i} (x : h.IsListIter L l i) : ∀ o, h.get? L = some o → ¬ TupO o := by
  intro o e
  obtain ⟨o', ho, _, hd⟩ := x
  rw [e] at ho; cases ho
  rintro ⟨its, k, rfl⟩
  cases hd

theorem ints_head {vals : List Value} {j : Nat} {y : Int} {rest : List Int} (h : IntsAre (vals.drop j) (y :: rest)) : ∃ t, vals[j]? = some (.int y t) ∧ IntsAre (vals.drop (j + 1)) rest := by
  generalize e : vals.drop j = l at h
  cases h with
  | cons _ t hr =>
    refine ⟨t, ?_, ?_⟩
    · have : (vals.drop j)[0]? = some (.int y t) := by rw [e]; rfl
      rwa [List.getElem?_drop, Nat.add_zero] at this
    · have : vals.drop (j + 1) = (vals.drop j).drop 1 := by rw [List.drop_drop]
      rw [this, e]; exact hr
theorem ints_nil {vals : List Value} {j : Nat} (h : IntsAre (vals.drop j) []) : vals.toArray[j]? = none := by
  generalize e : vals.drop j = l at h
  cases h
  rw [List.getElem?_toArray, List.getElem?_eq_none_iff]
  exact List.drop_eq_nil_iff.mp e

theorem chain_loop {Fs : List Fac} {f0 : Addr} {n : Nat} {L aT ga lA iA : Addr} {g D U : Nat} {x : Int} {tk : Tok} {vals : List Value} {k₀ : Result → Sem Fin} {pf : Pos}
    (X : (hd.heap_39 w.params).In hb) (T : TopRead p loose mg mb hb) (hbn : hb.objs.size ≤ n) (hevn : ev < n) (hevb : hb.get? ev = none) (nT : n ≤ aT) (TL : aT < L) (Lg : L < ga) (gA : ga < lA) (AI : lA < iA) (hlen : Fs.length ≤ 2)
    (hD : D + 5 ≤ 900) (hU : U + 10 ≤ 9000) (hk : k₀ (.ok .next) = .pure (.done (.ret .none)))
    (inner : ∀ (n' : Nat) (L' aT' ga' : Addr) (g' : Nat) (y : Int) (tk : Tok) (s : Shared), hb.objs.size ≤ n' → ev < n' → n' ≤ aT' → aT' < L' → L' < ga' → ga' < s.heap.objs.size → okV y → hb.StaysIn s.heap → s.heap.Ns L' (baseM y tk aT') → s.heap.get? aT' = some (tupV (Fs.map fun F => .ref F.f)) →
      g' < s.gens.size → (∀ i x, g' < i → s.gens[i]? = some x → x = .finished) → Rests prog w POST hb ev n' ga' g' (D + 1) (U + 5) (due Fs y) (.fresh (.func chainBody (chainEnv L'))) s) :
    ∀ (rest : List Int) (j : Nat) (s : Shared), IntsAre (vals.drop j) rest → (∀ y ∈ rest, okV y) → LoopAt hb g L aT ga lA iA x tk (.ref f0 :: Fs.map fun F => .ref F.f) vals j s → EvRoom s.heap ev ((rest.flatMap (due Fs)).length + 1) →
      Goes prog w POST hb ev n ga g D U (rest.flatMap (due Fs)) s [] (.forLoop chainTarget (.ref iA) chainLoop [] (chainEnv L)) (denote table (.forLoop chainTarget (.ref iA) chainLoop [] (chainEnv L)))
        [.ret k₀ none false [] (.func chainBody (chainEnv L)) pf []] s := by
  intro rest
  have hn2 : n ≤ L := Nat.le_trans nT (Nat.le_of_lt TL)
  have hnA : n ≤ lA := Nat.le_trans hn2 (Nat.le_trans (Nat.le_of_lt Lg) (Nat.le_of_lt gA))
  have hni : n ≤ iA := Nat.le_trans hnA (Nat.le_of_lt AI)
  have hiL : iA ≠ L := Nat.ne_of_gt (Nat.lt_trans Lg (Nat.lt_trans gA AI))
  have hig : iA ≠ ga := Nat.ne_of_gt (Nat.lt_trans gA AI)
  have hlL : lA ≠ L := Nat.ne_of_gt (Nat.lt_trans Lg gA)
  have hTi : aT ≠ iA := Nat.ne_of_lt (Nat.lt_trans TL (Nat.lt_trans Lg (Nat.lt_trans gA AI)))
  have hTL : aT ≠ L := Nat.ne_of_lt TL
  have hli : lA ≠ iA := Nat.ne_of_lt AI
  have hLg : L ≠ ga := Nat.ne_of_lt Lg
  have hbn' : ∀ b o, hb.get? b = some o → b < n := fun b o e => Nat.lt_of_lt_of_le (Heap.lt_size e) hbn
  have hf : FsOk ga g D U [.ret k₀ none false [] (.func chainBody (chainEnv L)) pf []] (D + 1) (U + 4) := FsOk.nil.ret (Nat.le_refl _) (Nat.le_refl _)
  obtain ⟨pt, ht⟩ := chainTarget_eq
  obtain ⟨p1, p2, hl⟩ := chainLoop_eq
  induction rest with
  | nil =>
    intro j s hv hy hI hroom
    have hgs := gens_lt hI.run
    refine goes_forLoop hf (next_end rfl hI.it hI.lst (ints_nil hv) fun h' hx hz => ?_) (fun v => by rw [ht]; rfl)
    refine goes_again rfl (goes_block_nil ?_)
    rw [hk]
    refine segj_end ⟨?_, ?_⟩
    · obtain ⟨m, hm, _⟩ := hI.ns
      exact Ran.made (iA := iA) (L := L) (fun b o e h1 _ => hx b o h1 e) hni hig hn2 hLg (iter_not_tup hI.it) (ns_not_tup hm) hevn hz (fun _ _ => rfl) (Nat.le_refl _) rfl
    · exact allFin (s := { s with heap := h' }) hgs hI.fin
  | cons y rest ih =>
    intro j s hv hy hI hroom
    have hgs := gens_lt hI.run
    obtain ⟨ty, hyv, hv'⟩ := ints_head hv
    obtain ⟨m, hm, hm'⟩ := hI.ns
    refine goes_forLoop hf (wpAny_pyNext_list_item hI.it hI.lst (x := .int y ty) (by rw [List.getElem?_toArray]; exact hyv) fun h₁ hit₁ hs₁ => ?_) (fun v => by rw [ht]; rfl)
    dsimp only
    rw [ht]
    have hm₁ : h₁.Ns L m := by obtain ⟨o, es, ep, ho, r⟩ := hm; exact ⟨o, es, ep, hs₁.extBut L o (Ne.symm hiL) ho, r⟩
    refine wpAny_assign_Name (wpAny_storeName_local rfl hm₁ (fun h₂ hn₂ hs₂ => ?_) rfl)
    rw [← ht]
    intro H
    rw [hl]
    refine goes_execs_cons ?_
    have hm₂ : h₂.Ns L (fun z => if z = Str.ofString "next_data" then some (.int y ty) else baseM x tk aT z) := by
      have e : (fun z => if z = Str.ofString "next_data" then some (Value.int y ty) else m z) = fun z => if z = Str.ofString "next_data" then some (.int y ty) else baseM x tk aT z := by
        funext z
        by_cases hz : z = Str.ofString "next_data"
        · simp only [hz, if_true]
        · simp only [hz, if_false]; exact hm' z hz
      rw [← e]; exact hn₂
    have hk₂ : ∀ b o, s.heap.get? b = some o → b ≠ iA → b ≠ L → h₂.get? b = some o := fun b o e h1 h2 => hs₂.extBut b o h2 (hs₁.extBut b o h1 e)
    have hst₂ : hb.StaysIn h₂ := fun b o e => hk₂ b o (hI.base b o e) (fun q => absurd (hbn' b o e) (q ▸ Nat.not_lt.mpr hni)) (fun q => absurd (hbn' b o e) (q ▸ Nat.not_lt.mpr hn2))
    have F₂ : Fr hb L h₂ (fun z => if z = Str.ofString "next_data" then some (.int y ty) else baseM x tk aT z) := ⟨hm₂, fun b o e => hst₂ b o e, Nat.le_trans hbn hn2⟩
    have N₂ : News hb L h₂ ((aT, tupV (.ref f0 :: Fs.map fun F => .ref F.f)) :: others hb h₂ L) := by
      intro q hq
      rcases List.mem_cons.mp hq with rfl | hq
      · exact ⟨hk₂ _ _ hI.tup hTi hTL, hTL, Heap.get?_none_of_le (Nat.le_trans hbn nT)⟩
      · exact others_news q hq
    refine goes_YieldFrom hf (Nat.le_refl _) (Nat.le_refl _) (wpAny_big (by show D + 1 + 0 ≤ 900; omega) (by show U + 4 + 0 ≤ 9000; omega) ?_)
    refine chain_inner (s := { s with heap := h₂, toks := s.toks + 1 }) X T F₂ N₂ (by rw [List.length_map]; omega) fun h₃ tks F₃ N₃ hz₃ => ?_
    have hk₃ : ∀ b o, h₂.get? b = some o → b ≠ L → h₃.get? b = some o := others_keep F₃ (fun q hq => (N₃ q (.tail _ hq)).1) hst₂
    refine wpAny_call (chain_make (s := { s with heap := h₃, toks := tks }) X T (fun b o e => F₃.keep b o e) (by rw [List.length_map]; omega) fun s₄ L' aT' ga' M => ?_)
    have hgens : s₄.gens = s.gens.push (.fresh (.func chainBody (chainEnv L'))) := M.gens
    refine ⟨ga', s.gens.size, rfl, M.gen, fun k₁ pk hk₁ => ?_⟩
    have hk₄ : ∀ b o, s.heap.get? b = some o → b ≠ iA → b ≠ L → s₄.heap.get? b = some o := fun b o e h1 h2 => M.heap b o (hk₃ b o (hk₂ b o e h1 h2) h2)
    have hz₁₂ : h₂.objs.size = s.heap.objs.size := by
      have a := hs₂.1
      have b := hs₁.1
      rw [a]; exact b
    have hLl : ∀ {b o}, s.heap.get? b = some o → b < h₃.objs.size := fun {b o} e => Nat.lt_of_lt_of_le (Heap.lt_size e) (Nat.le_trans (Nat.le_of_eq hz₁₂.symm) hz₃)
    have hz₄ : h₃.objs.size ≤ s₄.heap.objs.size := by
      have a : h₃.objs.size ≤ aT' := M.nT
      exact Nat.le_trans a (Nat.le_of_lt (Heap.lt_size M.tup))
    have hTg : aT' < ga' := Nat.lt_trans M.TL M.Lg
    have hzz : s.heap.objs.size ≤ h₃.objs.size := Nat.le_trans (Nat.le_of_eq hz₁₂.symm) hz₃
    have hr : Ran ev n ga g s s₄ [] := Ran.made (iA := iA) (L := L) hk₄ hni hig hn2 hLg (iter_not_tup hI.it) (ns_not_tup hm) hevn (Nat.le_trans hzz hz₄)
      (fun i hi => by rw [hgens, Array.getElem?_push]; split <;> first | rfl | (rename_i q; omega)) (by rw [hgens, Array.size_push]; omega) M.os
    have hst₄ : hb.StaysIn s₄.heap := fun b o e => M.heap b o (F₃.keep b o e)
    have hroom₄ := hroom.ran hr (k' := ((y :: rest).flatMap (due Fs)).length + 1) (by simp)
    have hgn : s₄.gens[s.gens.size]? = some (.fresh (.func chainBody (chainEnv L'))) := by rw [hgens]; simp
    have hgo : s₄.gens[g]? = some .running := by
      rw [hgens, Array.getElem?_push]
      split
      · rename_i q; omega
      · exact hI.run
    obtain ⟨ol, hol, rl⟩ := hI.lst
    have hnl : lA < h₃.objs.size := hLl hol
    have hgan : ga < h₃.objs.size := Nat.lt_trans gA hnl
    have hLn : L < h₃.objs.size := Nat.lt_trans Lg hgan
    have hit₄ : s₄.heap.IsListIter iA lA (j + 1) := by
      obtain ⟨oi, hoi, ri⟩ := hit₁
      exact ⟨oi, M.heap _ _ (hk₃ _ _ (hs₂.extBut _ _ hiL hoi) hiL), ri⟩
    have hin : iA < h₃.objs.size := by
      obtain ⟨oi, hoi, ri⟩ := hit₁
      exact Nat.lt_of_lt_of_le (Heap.lt_size hoi) (Nat.le_trans (Nat.le_of_eq (by rw [← hs₂.1])) hz₃)
    have hfl : (y :: rest).flatMap (due Fs) = due Fs y ++ rest.flatMap (due Fs) := rfl
    rw [hfl] at hroom₄ ⊢
    have hdel := delegate (prog := prog) (w := w) (POST := POST) (hb := hb) (ev := ev) (n := n) (ga := ga) (g := g) (D := D) (U := U) (n' := h₃.objs.size) (ga' := ga') (g' := s.gens.size)
      (fs := [.ret k₁ none false [] (.forLoop chainTarget (.ref iA) [.Expr (.YieldFrom chainInner p1) p2] [] (chainEnv L)) pk [], .ret k₀ none false [] (.func chainBody (chainEnv L)) pf []]) (D₁ := D + 1) (U₁ := U + 4) (evsR := rest.flatMap (due Fs))
      rfl rfl (hf.ret (Nat.le_refl _) (Nat.le_refl _)) (Nat.lt_of_le_of_lt (by omega : D + 1 ≤ 900) (by decide)) hgs (Nat.le_trans hn2 (Nat.le_of_lt hLn)) hgan (Nat.le_trans M.nT (Nat.le_of_lt hTg)) hbn' T.nolimit hevn hevb
      (due Fs y).length (due Fs y) (Nat.le_refl _) _ s₄
      (inner h₃.objs.size L' aT' ga' s.gens.size y ty s₄ (Nat.le_trans hbn (Nat.le_trans hn2 (Nat.le_of_lt hLn))) (Nat.lt_of_lt_of_le hevn (Nat.le_trans hn2 (Nat.le_of_lt hLn))) M.nT M.TL M.Lg (by obtain ⟨o, _, _, ho, _⟩ := M.gen; exact Heap.lt_size ho) (hy y (.head _)) hst₄ M.ns M.tup (gens_lt hgn) (fun i z h1 e => ?_))
      hgn (genObj_of M.gen) hgo (fun i z h1 h2 e => ?_) hst₄ (by simpa using hroom₄) (fun s' a1 a2 a3 a4 a5 a6 => ?_)
    · exact goes_since (es₀ := []) hr hdel
    · rw [hgens, Array.getElem?_push] at e
      split at e
      · omega
      · have := gens_lt e; omega
    · rw [hgens, Array.getElem?_push] at e
      split at e
      · omega
      · exact hI.fin i z h1 e
    · refine goes_leaf (.ok (.ret .none)) ?_
      rw [hk₁]
      refine goes_execs_nil (goes_again rfl ?_)
      rw [← hl]
      have hkk : ∀ b o, s₄.heap.get? b = some o → n ≤ b → b < h₃.objs.size → b ≠ ga → s'.heap.get? b = some o := a2
      have hne : ∀ {b}, b ≠ iA → b ≠ L → ∀ o, s.heap.get? b = some o → n ≤ b → b ≠ ga → s'.heap.get? b = some o := fun {b} h1 h2 o e h3 h4 => hkk b o (hk₄ b o e h1 h2) h3 (hLl e) h4
      refine ih (j + 1) s' hv' (fun z hz => hy z (.tail _ hz)) ⟨a1, ?_, hne hTi hTL _ hI.tup nT (Nat.ne_of_lt (Nat.lt_trans TL Lg)), ?_, ?_, a5, a4⟩ a6
      · obtain ⟨o, es, ep, ho, r⟩ := F₃.ns
        exact ⟨_, ⟨o, es, ep, hkk L o (M.heap _ _ ho) hn2 hLn hLg, r⟩, fun z hz => by simp only [hz, if_false]⟩
      · exact ⟨ol, hne hli hlL _ hol hnA (Nat.ne_of_gt gA), rl⟩
      · obtain ⟨oi, hoi, ri⟩ := hit₄
        exact ⟨oi, hkk iA oi hoi hni hin hig, ri⟩
end
end Mine
end

section
open PySem PySem.W PyProof.Rows PySem.Spec PySem.Calls
set_option maxRecDepth 100000
set_option maxHeartbeats 4000000
namespace Mine
section
variable {prog : Program} {w : World} {POST : Result → Shared → Prop} {p : Program} {loose : List Str} {mg mb : Str → Option Value} {hb : Heap} {ev : Addr}

/-- a generator of generator_chain, as it was made, does what its row of factories tells -/
theorem gen_rests (X : (hd.heap_39 w.params).In hb) (T : TopRead p loose mg mb hb) (hevb : hb.get? ev = none) :
    ∀ (Fs : List Fac), (∀ F ∈ Fs, FacOk prog w hb ev F) → Fs.length ≤ 3 → ∀ (n : Nat) (L aT ga : Addr) (g D U : Nat) (x : Int) (tk : Tok) (s : Shared), hb.objs.size ≤ n → ev < n → n ≤ aT → aT < L → L < ga → ga < s.heap.objs.size → D + Fs.length + 5 ≤ 900 → U + 5 * Fs.length + 10 ≤ 9000 → okV x →
      hb.StaysIn s.heap → s.heap.Ns L (baseM x tk aT) → s.heap.get? aT = some (tupV (Fs.map fun F => .ref F.f)) → g < s.gens.size → (∀ i z, g < i → s.gens[i]? = some z → z = .finished) →
      Rests prog w POST hb ev n ga g D U (due Fs x) (.fresh (.func chainBody (chainEnv L))) s := by
  intro Fs
  induction Fs with
  | nil =>
    intro hFs hlen n L aT ga g D U x tk s hbn hevn nT TL Lg hgz hD hU hx st hns htup hg hfin
    refine .inl ⟨_, rfl, fun s'' he hv => ?_⟩
    have hn2 : n ≤ L := Nat.le_trans nT (Nat.le_of_lt TL)
    have hTg : aT ≠ ga := Nat.ne_of_lt (Nat.lt_trans TL Lg)
    have hLg : L ≠ ga := Nat.ne_of_lt Lg
    have hns'' : s''.heap.Ns L (baseM x tk aT) := by obtain ⟨o, es, ep, ho, r⟩ := hns; exact ⟨o, es, ep, he.own L o ho hn2 hLg, r⟩
    have F : Fr hb L s''.heap (baseM x tk aT) := ⟨hns'', fun b o e => he.base b o e, Nat.le_trans hbn hn2⟩
    have N : News hb L s''.heap ((aT, tupV []) :: []) := by
      intro q hq
      rcases List.mem_cons.mp hq with rfl | hq
      · exact ⟨he.own _ _ htup nT hTg, Nat.ne_of_lt TL, Heap.get?_none_of_le (Nat.le_trans hbn nT)⟩
      · cases hq
    have hgs : g < s''.gens.size := by
      obtain ⟨z, hz⟩ : ∃ z, s.gens[g]? = some z := ⟨_, Array.getElem?_eq_getElem hg⟩
      exact gens_lt ((he.gens g (Nat.le_refl _)).trans hz)
    have hfin'' : ∀ i z, g < i → s''.gens[i]? = some z → z = .finished := fun i z hi e => hfin i z hi ((he.gens i (Nat.le_of_lt hi)).symm.trans e)
    have hf1 : FsOk ga g D U [] D (U + 1) := FsOk.nil
    have hfin1 : ∀ i z, g < i → (s''.setGen g .running).gens[i]? = some z → z = .finished := fun i z hi e => hfin'' i z hi (by rw [setGen_ne (Nat.ne_of_gt hi)] at e; exact e)
    obtain ⟨p1, p2, p3, p4, p5, p6, hB⟩ := chainBody_eq
    refine goes_func fun H => ?_
    rw [hB]
    refine goes_execs_cons ?_
    refine goes_If (D'' := D + 1) (U'' := U + 4) FsOk.nil (Nat.le_refl _) (Nat.le_refl _) (wpAny_big (by omega) (by omega) ?_)
    refine chain_test (s := s''.setGen g .running) (vs := []) X T F N (Nat.zero_le _) fun tks => ?_
    show Goes prog w POST hb ev n ga g D U (due [] x) _ _ _ ((execs (if true = true then _ else _) _).wrap _ _ _ _) _ _
    rw [if_pos rfl]
    refine goes_execs_cons ?_
    show Goes prog w POST hb ev n ga g D U (.told x :: []) _ _ _ _ _ _
    refine goes_Yield (D'' := D + 1) (U'' := U + 4) rfl rfl rfl FsOk.nil (Nat.le_refl _) (Nat.le_refl _) (ld (s := { s''.setGen g .running with toks := tks }) F (v := .int x tk) rfl ⟨⟨tk, rfl⟩, ?_, fun gs hok => ?_, fun s3 k3 l3 p3 he3 hv3 => ?_⟩ rfl rfl (by decide)) rfl rfl
    · exact Ran.step (s := s''.setGen g .running) (tk := tks) (fun b o e _ => e) (Nat.le_refl _)
    · intro i z hi e
      rcases Nat.lt_or_eq_of_le hi with hlt | rfl
      · have e' : (s''.setGen g .running).gens[i]? = some z := by rw [setGen_ne (Nat.ne_of_gt hlt)] at e; exact e
        rw [hfin1 i z hlt e']; trivial
      · have hg' : g < ({ s''.setGen g .running with toks := tks } : Shared).gens.size := by show g < (s''.setGen g .running).gens.size; rw [setGen_size]; exact hgs
        rw [setGen_at hg'] at e; cases e; exact hok
    · have hg1 : g < ({ s''.setGen g .running with toks := tks } : Shared).gens.size := by show g < (s''.setGen g .running).gens.size; rw [setGen_size]; exact hgs
      have hg3 : g < s3.gens.size := gens_lt ((he3.gens g (Nat.le_refl _)).trans (setGen_at hg1))
      have hfin3 : ∀ i z, g < i → (s3.setGen g .running).gens[i]? = some z → z = .finished := fun i z hi e => by
        rw [setGen_ne (Nat.ne_of_gt hi), he3.gens i (Nat.le_of_lt hi), setGen_ne (Nat.ne_of_gt hi)] at e
        exact hfin1 i z hi e
      refine goes_execs_cons (goes_Return_none ?_)
      refine segj_end ⟨Ran.step (s := s3.setGen g .running) (tk := s3.toks) (fun b o e _ => e) (Nat.le_refl _), ?_⟩
      exact allFin (by rw [setGen_size]; exact hg3) hfin3
  | cons F0 Fs ih =>
    intro hFs hlen n L aT ga g D U x tk s hbn hevn nT TL Lg hgz hD hU hx st hns htup hg hfin
    have hlen' : Fs.length ≤ 2 := by simpa using hlen
    have ih' := ih (fun F hF => hFs F (.tail _ hF)) (Nat.le_trans hlen' (by decide))
    refine .inl ⟨_, rfl, fun s'' he hv => ?_⟩
    have hn2 : n ≤ L := Nat.le_trans nT (Nat.le_of_lt TL)
    have hTg : aT ≠ ga := Nat.ne_of_lt (Nat.lt_trans TL Lg)
    have hLg : L ≠ ga := Nat.ne_of_lt Lg
    have hns'' : s''.heap.Ns L (baseM x tk aT) := by obtain ⟨o, es, ep, ho, r⟩ := hns; exact ⟨o, es, ep, he.own L o ho hn2 hLg, r⟩
    have F : Fr hb L s''.heap (baseM x tk aT) := ⟨hns'', fun b o e => he.base b o e, Nat.le_trans hbn hn2⟩
    have htup'' := he.own _ _ htup nT hTg
    have N : News hb L s''.heap ((aT, tupV (.ref F0.f :: Fs.map fun F => .ref F.f)) :: []) := by
      intro q hq
      rcases List.mem_cons.mp hq with rfl | hq
      · exact ⟨htup'', Nat.ne_of_lt TL, Heap.get?_none_of_le (Nat.le_trans hbn nT)⟩
      · cases hq
    obtain ⟨hfn, hokn, hcall⟩ := hFs F0 (.head _)
    have hgs : g < s''.gens.size := by
      obtain ⟨z, hz⟩ : ∃ z, s.gens[g]? = some z := ⟨_, Array.getElem?_eq_getElem hg⟩
      exact gens_lt ((he.gens g (Nat.le_refl _)).trans hz)
    have hfin1 : ∀ i z, g < i → (s''.setGen g .running).gens[i]? = some z → z = .finished := fun i z hi e => hfin i z hi (by
      rw [setGen_ne (Nat.ne_of_gt hi), he.gens i (Nat.le_of_lt hi)] at e; exact e)
    obtain ⟨p1, p2, p3, p4, p5, p6, hB⟩ := chainBody_eq
    refine goes_func fun H => ?_
    have hcode : (Code.func chainBody (chainEnv L)) = .func chainBody (chainEnv L) := rfl
    rw [show execs chainBody (chainEnv L) = execs [.If chainTest [.Expr (.Yield (some (.Name (Str.ofString "initial_data") p1)) p2) p3, .Return none p4] [] p5, .For chainTarget chainIter chainLoop [] p6] (chainEnv L) from by rw [hB]]
    refine goes_execs_cons ?_
    refine goes_If (D'' := D + 1) (U'' := U + 4) FsOk.nil (Nat.le_refl _) (Nat.le_refl _) (wpAny_big (by omega) (by omega) ?_)
    refine chain_test (s := s''.setGen g .running) (vs := .ref F0.f :: Fs.map fun F : Fac => Value.ref F.f) X T F N (by simp; omega) fun tks => ?_
    show Goes prog w POST hb ev n ga g D U _ _ _ _ ((execs (if false = true then _ else _) _).wrap _ _ _ _) _ _
    rw [if_neg Bool.false_ne_true]
    refine goes_execs_nil ?_
    refine goes_execs_cons ?_
    refine goes_For (D'' := D + 1) (U'' := U + 4) FsOk.nil (Nat.le_refl _) (Nat.le_refl _) (wpAny_big (by omega) (by omega) ?_) (fun _ => rfl)
    refine chain_iter (s := { s''.setGen g .running with toks := tks }) X T F N hfn (by simp; omega) fun tks' => ?_
    have hv1 : EvRoom s''.heap ev 1 := hv.mono (by omega)
    refine wpAny_mono (hcall { s''.setGen g .running with toks := tks' } x tk (fun b o e => he.base b o e) hv1 hx) (fun r s₂ q => ?_) fun _ _ f => f.elim
    obtain ⟨lA, items, h₂, tks₂, rfl, rfl, hsl, hL₂, hints, hkeep, hz, hev⟩ := q
    have hkeep : ∀ b o, s''.heap.get? b = some o → b ≠ ev → h₂.get? b = some o := hkeep
    have hgaL : ga < lA := Nat.lt_of_lt_of_le (Nat.lt_of_lt_of_le hgz he.size) hsl
    have hevl : ∀ {b}, n ≤ b → b ≠ ev := fun h q => absurd hevn (q ▸ Nat.not_lt.mpr h)
    have hst₂ : hb.StaysIn h₂ := fun b o e => hkeep b o (he.base b o e) (fun q => by rw [q, hevb] at e; cases e)
    refine wpAny_big (by omega) (by omega) (wpAny_pyIter_list hL₂ fun k₀ pk hk₀ => ?_)
    have hr : Ran ev n ga g (s''.setGen g .running) { s''.setGen g .running with heap := h₂.push { cls := .type "list_iterator", data := .fields #[.ref lA, .int 0 0] }, toks := tks₂ } [.asked F0.place x] := {
      keep := fun b o e h1 h2 => Heap.get?_push_of_some _ (hkeep b o e h2)
      tup := fun b o e h => Heap.get?_push_of_some _ (hkeep b o e (fun q => by
        obtain ⟨items, k, e', _⟩ := hv
        rw [q] at e
        have e2 := Option.some.inj (e'.symm.trans e)
        obtain ⟨its, k, rfl⟩ := h
        have e3 : Value.type "list" = Value.type "tuple" := congrArg Obj.cls e2
        injection e3 with e4
        exact absurd e4 (by decide)))
      size := by rw [Heap.size_push]; exact Nat.le_succ_of_le hz
      list := fun its k e => by
        obtain ⟨t, k', e1, e2⟩ := hev its k e
        exact ⟨[t], k', by rw [show (its ++ [t].toArray) = its.push t by simp]; exact Heap.get?_push_of_some _ e1, ⟨e2.stay (fun b o eb _ => Heap.get?_push_of_some _ eb), trivial⟩⟩
      gens := fun _ _ => rfl
      gsize := Nat.le_refl _
      os := rfl }
    show Goes prog w POST hb ev n ga g D U ((F0.nexts x).flatMap (due Fs)) (s''.setGen g .running) ([] ++ [.asked F0.place x]) _ _ _ _
    refine goes_since (es₀ := [.asked F0.place x]) (acc := []) hr ?_
    have hk1 : k₀ (.ok .next) = .pure (.done (.ret .none)) := hk₀ .next
    refine chain_loop (Fs := Fs) (f0 := F0.f) (x := x) (tk := tk) (vals := items) X T hbn hevn hevb nT TL Lg hgaL (by obtain ⟨o, ho, _⟩ := hL₂; exact Heap.lt_size ho) hlen' (by omega) (by omega) hk1 ?_ (F0.nexts x) 0 _ (by rw [List.drop_zero]; exact hints) (hokn x hx) ⟨?_, ?_, ?_, ?_, ?_, ?_, ?_⟩ ?_
    · intro n' L' aT' ga' g' y tk' s4 b1 b2 b3 b4 b5 b6 b7 b8 b9 b10 b11 b12
      exact ih' n' L' aT' ga' g' (D + 1) (U + 5) y tk' s4 b1 b2 b3 b4 b5 b6 (by simp at hD; omega) (by simp at hU; omega) b7 b8 b9 b10 b11 b12
    · exact fun b o e => Heap.get?_push_of_some _ (hst₂ b o e)
    · obtain ⟨o, es, ep, ho, r⟩ := hns''
      exact ⟨_, ⟨o, es, ep, Heap.get?_push_of_some _ (hkeep L o ho (hevl hn2)), r⟩, fun _ _ => rfl⟩
    · exact Heap.get?_push_of_some _ (hkeep aT _ htup'' (hevl nT))
    · exact hL₂.push _
    · exact ⟨_, Heap.get?_push_size _ rfl, rfl, rfl⟩
    · exact setGen_at hgs
    · exact hfin1
    · exact EvRoom.ran (k := (due (F0 :: Fs) x).length + 1) (es := [.asked F0.place x]) (s := s''.setGen g .running) hv hr (by simp only [due, List.length_cons, List.length_nil]; omega)
end
end Mine
end

section
open PySem PySem.W PyProof.Rows PySem.Spec PySem.Calls
set_option maxRecDepth 100000
set_option maxHeartbeats 1000000
namespace Mine

section
variable {prog : Program} {w : World} {A : Around} {E : Value → Shared → Prop} {s : Shared} {R : Result → Shared → Prop}

/-- a comprehension's loop, with a word J of what is done so far -/
theorem compLoopJ {elt iter : Expr} {x : Str} {px : Pos} {scope : Scope} {pos : Pos} {I D : Addr} {fp wr : List Addr} {n : Nat} {P : Nat → Value → Prop} {St : Nat → Heap → Prop}
    {cenv : Env} {m : Str → Option Value} (W : Walks prog w A I fp wr n P St) (hx : cenv.kindOf x = some .local) (hp : (cenv.scope.kind == .class || (cenv.scope.kind == .module && cenv.locals != cenv.globals)) = false)
    (hDC : D ≠ cenv.locals) (hDf : D ∉ fp) (hCf : cenv.locals ∉ fp) (hst : St 0 s.heap) (hacc : s.heap.PlainList D #[]) (hn : s.heap.Ns cenv.locals m)
    (J : Nat → List Value → Heap → Prop) (hJ0 : J 0 [] s.heap) (hJs : ∀ j ys h h', J j ys h → (∀ b o, b ≠ cenv.locals → b ∉ wr → b ≠ D → h.get? b = some o → h'.get? b = some o) → J j ys h')
    (helt : ∀ j ys v h₂ tk₂ m₂ (E' : Value → Shared → Prop), j < n → ys.length = j → P j v → J j ys h₂ → h₂.Ns cenv.locals m₂ → m₂ x = some v →
      wpAny (model prog w) A (eval elt cenv) (fun y s₃ => ∃ h₃ tk₃, s₃ = { s with heap := h₃, toks := tk₃ } ∧ J (j + 1) (ys ++ [y]) h₃ ∧ ∀ b o, (b = cenv.locals ∨ b = D ∨ b ∈ fp) → h₂.get? b = some o → h₃.get? b = some o) E' { s with heap := h₂, toks := tk₂ })
    (hR : ∀ h' tk m' ys, h'.Ns cenv.locals m' → h'.PlainList D (List.toArray ys) → ys.length = n → J n ys h' → R (.ok .next) { s with heap := h', toks := tk })
    (hsz : n ≤ sizeLine := by size_fits) :
    codeAny (model prog w) A (.compLoop (.ListComp elt [⟨.Name x px, iter, [], 0⟩] scope pos) 0 (.ref I) (.ref D) cenv) R s := by
  refine codeAny_compLoop_list
    (fun k s' => ∃ h' tk m', ∃ ys : List Value, s' = { s with heap := h', toks := tk } ∧ St ys.length h' ∧ h'.PlainList D ys.toArray ∧ h'.Ns cenv.locals m' ∧ J ys.length ys h' ∧ ys.length ≤ n ∧ k = n + 1 - ys.length) ?_ (n + 1)
    ⟨s.heap, s.toks, m, [], rfl, hst, hacc, hn, hJ0, Nat.zero_le _, rfl⟩ (fun _ => rfl)
  rintro k s' ⟨H, tk, m', ys, rfl, hst', hacc', hn', hJ, hi, rfl⟩
  have hCw : cenv.locals ∉ wr := fun h => hCf (W.sub _ h)
  have hDw : D ∉ wr := fun h => hDf (W.sub _ h)
  by_cases hlt : ys.length < n
  · refine W.item ys.length _ _ _ hlt hst' fun v h₁ tk₁ hPv hst₁ hk₁ => ?_
    refine wpAny_assign_Name (wpAny_storeName_local hx (hn'.at' fun o e => hk₁ _ o hCw e) (fun h₂ hn₂ hs₂ => ?_) hp)
    have up₂ : ∀ b o, b ≠ cenv.locals → b ∉ wr → H.get? b = some o → h₂.get? b = some o := fun b o hbC hbf e => hs₂.extBut b o hbC (hk₁ b o hbf e)
    have hst₂ : St (ys.length + 1) h₂ := W.frame _ _ _ hst₁ fun b hb o e => hs₂.extBut b o (fun h => hCf (h ▸ hb)) e
    have hJ₂ : J ys.length ys h₂ := hJs _ _ _ _ hJ fun b o hC hw hD e => up₂ b o hC hw e
    refine wpAny_mono (helt ys.length ys v h₂ _ _ _ hlt rfl hPv hJ₂ hn₂ (by simp)) (fun y s₃ h₃ => ?_) fun _ _ e => e
    obtain ⟨h₃, tk₃, rfl, hJ₃, hk₃⟩ := h₃
    have hst₃ : St (ys.length + 1) h₃ := W.frame _ _ _ hst₂ fun b hb o e => hk₃ b o (.inr (.inr hb)) e
    have hacc₃ : h₃.PlainList D ys.toArray := hacc'.at fun o e => hk₃ _ o (.inr (.inl rfl)) (up₂ D o hDC hDw e)
    have hn₃ := hn₂.at' fun o e => hk₃ _ o (.inl rfl) e
    have hys : ys.toArray.size ≤ sizeLine := by rw [List.size_toArray]; omega
    refine wpAny_list_append_plain (hsz := hys) hacc₃ fun h₅ hl₅ hs₅ => ?_
    refine ⟨n + 1 - (ys.length + 1), by omega, h₅, tk₃, _, ys ++ [y], rfl, ?_, by simpa using hl₅, hn₃.sameBut hs₅ (Ne.symm hDC), ?_, (by rw [List.length_append]; exact hlt), (by rw [List.length_append]; rfl)⟩
    · have := W.frame _ _ h₅ hst₃ fun b hb o e => hs₅.extBut b o (fun h => hDf (h ▸ hb)) e
      simpa using this
    · have := hJs _ _ _ h₅ hJ₃ fun b o hC hw hD e => hs₅.extBut b o hD e
      simpa using this
  · have hin : ys.length = n := by omega
    refine W.done _ _ _ (hin ▸ hst') fun h₁ tk₁ hk₁ => ?_
    exact hR h₁ tk₁ m' ys (hn'.at' fun o e => hk₁ _ o hCw e) (hacc'.at fun o e => hk₁ _ o hDw e) hin (hin ▸ hJs _ _ _ _ hJ fun b o hC hw hD e => hk₁ b o hw e)
end

section
variable {prog : Program} {w : World} {A : Around} {E : Value → Shared → Prop} {env : Env}

/-- what a comprehension needs of its source and of a turn -/
def TurnsJ (prog : Program) (w : World) (A : Around) (env : Env) (scope : Scope) (cl : List (Str × Addr)) (x : Str) (elt : Expr) (J : Nat → List Value → Heap → Prop) (n : Nat) (s₂ : Shared) (it : Value) : Prop :=
  ∃ I fp wr P St, it = .ref I ∧ Walks prog w A I fp wr n P St ∧ n ≤ sizeLine ∧ St 0 s₂.heap ∧ (∀ b ∈ fp, b < s₂.heap.objs.size) ∧ J 0 [] s₂.heap ∧
    (∀ j ys h h', J j ys h → (∀ b o, b ≠ s₂.heap.objs.size + 1 → b ∉ wr → b ≠ s₂.heap.objs.size → h.get? b = some o → h'.get? b = some o) → J j ys h') ∧
    (∀ j ys v h₂ tk₂ m₂ (E' : Value → Shared → Prop), j < n → ys.length = j → P j v → J j ys h₂ → h₂.Ns (s₂.heap.objs.size + 1) m₂ → m₂ x = some v →
      wpAny (model prog w) A (eval elt (compEnvC scope cl (s₂.heap.objs.size + 1) env)) (fun y s₃ => ∃ h₃ tk₃, s₃ = { s₂ with heap := h₃, toks := tk₃ } ∧ J (j + 1) (ys ++ [y]) h₃ ∧
        ∀ b o, (b = s₂.heap.objs.size + 1 ∨ b = s₂.heap.objs.size ∨ b ∈ fp) → h₂.get? b = some o → h₃.get? b = some o) E' { s₂ with heap := h₂, toks := tk₂ })

theorem comp_blockJ {elt iter : Expr} {x : Str} {px : Pos} {scope : Scope} {cl : List (Str × Addr)} {pos : Pos} {s₂ : Shared} {it : Value} {n : Nat} {J : Nat → List Value → Heap → Prop}
    {RR : Value → Addr → Result → Shared → Prop} (hcell : ∀ y ∈ scope.names, y.2 ≠ .cell) (hkind : scope.kind = .function) (hx : scope.names.lookup x = some .local)
    (hT : TurnsJ prog w A env scope cl x elt J n s₂ it)
    (hRR : ∀ h' tk m' ys, h'.Ns (s₂.heap.objs.size + 1) m' → h'.PlainList s₂.heap.objs.size (List.toArray ys) → ys.length = n → J n ys h' → RR (.ref s₂.heap.objs.size) (s₂.heap.objs.size + 1) (.ok .next) { s₂ with heap := h', toks := tk }) :
    wpAny (model prog w) A (newList []) (fun acc s₃ => wpAny (model prog w) A (newFunctionEnv scope env.globals cl [] env.qual none .none (some env)) (fun cenv s₄ =>
      codeAny (model prog w) A (.compStart (.ListComp elt [⟨.Name x px, iter, [], 0⟩] scope pos) 0 it acc { cenv with scope := relabel scope env }) (RR acc cenv.locals) s₄) E s₃) E s₂ := by
  obtain ⟨I, fp, wr, P, St, rfl, W, hsz, hst, hfp, hJ0, hJs, helt⟩ := hT
  refine wpAny_newObj_type (wpAny_newFunctionEnv hcell (by intro y hy; simp at hy) (fun h₁ hns₁ hsb₁ => ?_) hkind)
  dsimp only at hns₁ hsb₁ ⊢
  generalize hH2 : s₂.heap.push { cls := .type "list", dict := none, data := .seq ([] : List Value).toArray } = H2 at hns₁ hsb₁ ⊢
  have hC : H2.objs.size = s₂.heap.objs.size + 1 := by rw [← hH2, Heap.size_push]
  rw [hC] at hns₁ hsb₁ ⊢
  have hDC : s₂.heap.objs.size ≠ s₂.heap.objs.size + 1 := Nat.ne_of_lt (Nat.lt_succ_self _)
  have below : ∀ b, b < s₂.heap.objs.size → b ≠ s₂.heap.objs.size + 1 := fun b hb => Nat.ne_of_lt (Nat.lt_succ_of_lt hb)
  have hDf : s₂.heap.objs.size ∉ fp := fun hm => Nat.lt_irrefl _ (hfp _ hm)
  have hCf : s₂.heap.objs.size + 1 ∉ fp := fun hm => by have := hfp _ hm; exact Nat.lt_irrefl _ (Nat.lt_of_succ_lt this)
  have old : ∀ b o, s₂.heap.get? b = some o → h₁.get? b = some o := fun b o e => hsb₁.extBut b o (below b (Heap.lt_size e)) (Heap.get?_push_of_some _ (hH2 ▸ Heap.get?_push_of_some _ e))
  have hacc : h₁.PlainList s₂.heap.objs.size #[] := ⟨_, hsb₁.extBut _ _ hDC (Heap.get?_push_of_some _ (hH2 ▸ Heap.get?_push_size _ rfl))⟩
  have hst₁ : St 0 h₁ := W.frame _ _ _ hst fun b _ o e => old b o e
  have loop : ∀ s₃ : Shared, s₃ = { s₂ with heap := h₁, toks := s₂.toks + ([] : List (Str × Value)).length } →
      codeAny (model prog w) A (.compLoop (.ListComp elt [⟨.Name x px, iter, [], 0⟩] scope pos) 0 (.ref I) (.ref s₂.heap.objs.size) (compEnvC scope cl (s₂.heap.objs.size + 1) env))
        (RR (.ref s₂.heap.objs.size) (s₂.heap.objs.size + 1)) s₃ := by
    rintro s₃ rfl
    refine compLoopJ (cenv := compEnvC scope cl (s₂.heap.objs.size + 1) env) W (lookup_relabel_local hx) (by show (scope.kind == .class || (scope.kind == .module && _)) = false; rw [hkind]; rfl) hDC hDf hCf hst₁ hacc hns₁ J
      (hJs _ _ _ _ hJ0 fun b o _ _ _ e => old b o e) hJs (fun j ys v h₂ tk₂ m₂ E' => helt j ys v h₂ tk₂ m₂ E') (fun h' tk m' ys a b c d => hRR h' tk m' ys a b c d) hsz
  exact codeAny_compStart_list (loop _ rfl) (W.self 0 _ _ _ hst₁ (loop _ rfl))

theorem ListComp_J {s : Shared} {elt iter : Expr} {x : Str} {px : Pos} {scope : Scope} {cl : List (Str × Addr)} {pos : Pos} {Q : Value → Shared → Prop}
    (hclos : closureFor scope env = pure cl) (hcell : ∀ y ∈ scope.names, y.2 ≠ .cell) (hkind : scope.kind = .function)
    (hnames : ∀ y ∈ scope.names, y.2 = .local → scope.names.lookup y.1 = some .local) (hx : scope.names.lookup x = some .local)
    (h : wpAny (model prog w) A (eval iter env) (fun xv s₁ => wpAny (model prog w) A (pyIter xv) (fun it s₂ => ∃ (n : Nat) (J : Nat → List Value → Heap → Prop), TurnsJ prog w A env scope cl x elt J n s₂ it ∧
      (∀ h' tk ys, h'.PlainList s₂.heap.objs.size (List.toArray ys) → ys.length = n → J n ys h' → Q (.ref s₂.heap.objs.size) { s₂ with heap := h', toks := tk })) E s₁) E s)
    (hs : ∀ x, foldedSetIterable iter env x = pure x := by intro _; rfl) :
    wpAny (model prog w) A (eval (.ListComp elt [⟨.Name x px, iter, [], 0⟩] scope pos) env) Q E s := by
  rw [eval_ListComp]
  refine wpAny_comprehension_free (use := none) rfl hs hclos hkind hnames (wpAny_mono h (fun xv s₁ h₁ => wpAny_mono h₁ (fun it s₂ h₂ => ?_) fun _ _ e => e) fun _ _ e => e)
  obtain ⟨n, J, hT, hQ⟩ := h₂
  refine comp_blockJ (RR := fun acc C => compPost (model prog w) A E none Q acc C) hcell hkind hx hT ?_
  obtain ⟨I, fp, wr, P, St, rfl, W, hsz, hst, hfp, hJ0, hJs, helt⟩ := hT
  intro h' tk m' ys hn hl hlen hJ
  exact ⟨m', hn, fun h'' hs'' => hQ h'' tk ys (hl.extBut hs''.extBut (Nat.ne_of_lt (Nat.lt_succ_self _))) hlen (hJs _ _ _ _ hJ fun b o hC _ _ e => hs''.extBut b o hC e)⟩

theorem Assign_ListComp_J {s : Shared} {elt iter : Expr} {x y : Str} {px py : Pos} {scope : Scope} {cl : List (Str × Addr)} {pos spos : Pos} {Q : Flow → Shared → Prop}
    (hsw : swapsWith (.ListComp elt [⟨.Name x px, iter, [], 0⟩] scope pos) (some (.Name y py)) spos.line env = pure true)
    (hclos : closureFor scope env = pure cl) (hcell : ∀ z ∈ scope.names, z.2 ≠ .cell) (hkind : scope.kind = .function)
    (hnames : ∀ z ∈ scope.names, z.2 = .local → scope.names.lookup z.1 = some .local) (hx : scope.names.lookup x = some .local)
    (hy : env.kindOf y = some .local) (hp : (env.scope.kind == .class || (env.scope.kind == .module && env.locals != env.globals)) = false)
    (h : wpAny (model prog w) A (eval iter env) (fun xv s₁ => wpAny (model prog w) A (pyIter xv) (fun it s₂ => ∃ (n : Nat) (J : Nat → List Value → Heap → Prop) (m : Str → Option Value), TurnsJ prog w A env scope cl x elt J n s₂ it ∧ env.locals < s₂.heap.objs.size ∧ (∀ ys h', J n ys h' → h'.Ns env.locals m) ∧
      (∀ h₀ h' tk ys, h'.PlainList s₂.heap.objs.size (List.toArray ys) → ys.length = n → J n ys h₀ → h'.Ns env.locals (fun z => if z = y then some (.ref s₂.heap.objs.size) else m z) → (∀ b o, b ≠ env.locals → b ≠ s₂.heap.objs.size + 1 → h₀.get? b = some o → h'.get? b = some o) → h₀.objs.size ≤ h'.objs.size → Q .next { s₂ with heap := h', toks := tk })) E s₁) E s)
    (hs : ∀ x, foldedSetIterable iter env x = pure x := by intro _; rfl) :
    wpAny (model prog w) A (exec (.Assign [.Name y py] (.ListComp elt [⟨.Name x px, iter, [], 0⟩] scope pos) spos) env) Q E s := by
  rw [exec_Assign_Name_used _ _ _ _ hsw]
  refine wpAny_bind (wpAny_standAt (wpAny_bind ?_))
  show wpAny _ A (do let _ ← comprehension (.ListComp elt [⟨.Name x px, iter, [], 0⟩] scope pos) scope env _ (newList []) false (eval iter env) (some (assign (.Name y py) env))) _ _ s
  refine wpAny_bind (wpAny_mono (wpAny_comprehension_free (use := some (assign (.Name y py) env)) (Q := fun _ s' => Q .next s') rfl hs hclos hkind hnames
    (wpAny_mono h (fun xv s₁ h₁ => wpAny_mono h₁ (fun it s₂ h₂ => ?_) fun _ _ e => e) fun _ _ e => e)) (fun _ s' hq => wpAny_pure (wpAny_pure hq)) fun _ _ e => e)
  obtain ⟨n, J, m, hT, hL, hJn, hQ⟩ := h₂
  refine comp_blockJ (RR := fun acc C => compPost (model prog w) A E (some (assign (.Name y py) env)) (fun _ s' => Q .next s') acc C) hcell hkind hx hT ?_
  intro h' tk m' ys hnC hlD hlen hJ
  have hLC : env.locals ≠ s₂.heap.objs.size + 1 := Nat.ne_of_lt (Nat.lt_succ_of_lt hL)
  have hLD : env.locals ≠ s₂.heap.objs.size := Nat.ne_of_lt hL
  show wpAny _ A (assign (.Name y py) env (.ref s₂.heap.objs.size)) _ _ _
  refine wpAny_assign_Name (wpAny_storeName_local hy (hJn _ _ hJ) (fun h₂ hn₂ hs₂ => ?_) hp)
  refine ⟨m', hnC.sameBut hs₂ (Ne.symm hLC), fun h₃ hs₃ => ?_⟩
  refine hQ h' h₃ _ ys ((hlD.extBut hs₂.extBut (Ne.symm hLD)).extBut hs₃.extBut (Nat.ne_of_lt (Nat.lt_succ_self _))) hlen hJ (hn₂.sameBut hs₃ hLC) (fun b o hbL hbC e => hs₃.extBut b o hbC (hs₂.extBut b o hbL e)) ?_
  have e1 := hs₂.1
  have e2 := hs₃.1
  exact Nat.le_of_eq (by rw [e2]; exact e1.symm)
end
end Mine
end

section
open PySem PySem.W PyProof.Rows PySem.Spec PySem.Calls
set_option maxRecDepth 100000
set_option maxHeartbeats 1000000
namespace Mine
section
variable {prog : Program} {w : World} {A : Around} {E : Value → Shared → Prop} {env : Env} {s₁ : Shared}

theorem pyIter_range_J {scope : Scope} {cl : List (Str × Addr)} {x : Str} {elt : Expr} {Q : Value → Shared → Prop} {r : Addr} {i : Int} {t u v : Tok} {n : Nat} (hh : A.handled = none) (hr : IsRange s₁.heap r 0 i 1 t u v) (hn : i = n) (hn3 : n ≤ 1000) (J : Nat → List Value → Heap → Prop)
    (hJ0 : ∀ h, (∀ b o, s₁.heap.get? b = some o → h.get? b = some o) → J 0 [] h)
    (hJs : ∀ j ys h h', J j ys h → (∀ b o, b ≠ s₁.heap.objs.size → b ≠ s₁.heap.objs.size + 1 → b ≠ s₁.heap.objs.size + 2 → h.get? b = some o → h'.get? b = some o) → J j ys h')
    (helt : ∀ j ys h₂ tk₂ tj m₂ (E' : Value → Shared → Prop), j < n → ys.length = j → J j ys h₂ → h₂.Ns (s₁.heap.objs.size + 2) m₂ → m₂ x = some (.int j tj) →
      wpAny (model prog w) A (eval elt (compEnvC scope cl (s₁.heap.objs.size + 2) env)) (fun y s₃ => ∃ h₃ tk₃, s₃ = { s₁ with heap := h₃, toks := tk₃ } ∧ J (j + 1) (ys ++ [y]) h₃ ∧
        ∀ b o, (b = s₁.heap.objs.size ∨ b = s₁.heap.objs.size + 1 ∨ b = s₁.heap.objs.size + 2) → h₂.get? b = some o → h₃.get? b = some o) E' { s₁ with heap := h₂, toks := tk₂ })
    (fin : ∀ h' tk ys, h'.PlainList (s₁.heap.objs.size + 1) (List.toArray ys) → ys.length = n → J n ys h' → Q (.ref (s₁.heap.objs.size + 1)) { s₁ with heap := h', toks := tk }) :
    wpAny (model prog w) A (pyIter (.ref r)) (fun it s₂ => ∃ (n : Nat) (J : Nat → List Value → Heap → Prop), TurnsJ prog w A env scope cl x elt J n s₂ it ∧
      (∀ h' tk ys, h'.PlainList s₂.heap.objs.size (List.toArray ys) → ys.length = n → J n ys h' → Q (.ref s₂.heap.objs.size) { s₂ with heap := h', toks := tk })) E s₁ := by
  have hsz : Builtin.Range.rangeSize 0 i 1 = (n : Int) := by
    rw [rangeSize_nat, hn]; simp
  have hsm : Builtin.Range.small 0 i 1 = true := by
    have h2 : Builtin.Range.rangeFitsLong i = true := by
      unfold Builtin.Range.rangeFitsLong
      rw [hn]; simp; omega
    have h3 : Builtin.Range.rangeFitsLong (n : Int) = true := hn ▸ h2
    have h4 : Builtin.Range.rangeFitsLong (i + (1 - 1)) = true := by simpa using h2
    unfold Builtin.Range.small
    rw [hsz]
    simp only [h2, h3, h4, if_pos (by decide : (1 : Int) > 0), Bool.or_true]
    decide
  refine wpAny_pyIter_range hr hsm ?_
  rw [hsz]
  have e1 : (s₁.heap.push { cls := .type "range_iterator", data := .fields #[rawInt 0, rawInt (n : Int), rawInt 1] }).objs.size = s₁.heap.objs.size + 1 := Heap.size_push ..
  refine ⟨n, J, ⟨s₁.heap.objs.size, [s₁.heap.objs.size], [s₁.heap.objs.size], fun i v => ∃ t, v = .int (0 + i * 1) t, fun i h => IsRangeIter h s₁.heap.objs.size (0 + (i : Nat) * 1) ((n : Int) - (i : Nat)) 1, rfl, Walks.range hh _ 0 1 n, ?_, ?_, ?_, ?_, ?_, ?_⟩, ?_⟩
  · exact Nat.le_trans hn3 (by decide)
  · show IsRangeIter _ _ _ _ _
    simpa using Heap.get?_push_size s₁.heap (o := { cls := .type "range_iterator", data := .fields #[rawInt 0, rawInt (n : Int), rawInt 1] }) rfl
  · intro b hb
    rw [List.mem_singleton] at hb
    subst hb
    show _ < (s₁.heap.push _).objs.size
    rw [e1]; exact Nat.lt_succ_self _
  · exact hJ0 _ fun b o e => Heap.get?_push_of_some _ e
  · intro j ys h h' hJ hk
    refine hJs j ys h h' hJ fun b o b1 b2 b3 e => hk b o ?_ ?_ ?_ e
    · show b ≠ (s₁.heap.push _).objs.size + 1
      rw [e1]; exact b3
    · intro q; rw [List.mem_singleton] at q; exact b1 q
    · show b ≠ (s₁.heap.push _).objs.size
      rw [e1]; exact b2
  · intro j ys y h₂ tk₂ m₂ E' hj hys hP hJ hns hm
    obtain ⟨tj, rfl⟩ := hP
    have ej : (0 : Int) + (j : Nat) * 1 = (j : Int) := by omega
    rw [ej] at hm
    have e2 : (s₁.heap.push { cls := .type "range_iterator", data := .fields #[rawInt 0, rawInt (n : Int), rawInt 1] }).objs.size + 1 = s₁.heap.objs.size + 2 := by rw [e1]
    show wpAny _ _ (eval elt (compEnvC scope cl ((s₁.heap.push _).objs.size + 1) env)) _ _ _
    have hns' : h₂.Ns ((s₁.heap.push { cls := .type "range_iterator", data := .fields #[rawInt 0, rawInt (n : Int), rawInt 1] }).objs.size + 1) m₂ := hns
    rw [e2] at hns' ⊢
    refine wpAny_mono (helt j ys h₂ tk₂ tj m₂ E' hj hys hJ hns' hm) (fun y s₃ q => ?_) fun _ _ e => e
    obtain ⟨h₃, tk₃, rfl, hJ₃, hk₃⟩ := q
    refine ⟨h₃, tk₃, rfl, hJ₃, fun b o hb e => hk₃ b o ?_ e⟩
    rcases hb with hb | hb | hb
    · exact .inr (.inr hb)
    · exact .inr (.inl (hb.trans e1))
    · rw [List.mem_singleton] at hb; exact .inl hb
  · intro h' tk ys hpl hlen hJ
    have hpl' : h'.PlainList (s₁.heap.push { cls := .type "range_iterator", data := .fields #[rawInt 0, rawInt (n : Int), rawInt 1] }).objs.size ys.toArray := hpl
    show Q (.ref (s₁.heap.push _).objs.size) _
    rw [e1] at hpl' ⊢
    exact fin h' tk ys hpl' hlen hJ
end
end Mine
end

section
open PySem PySem.W PyProof.Rows PySem.Spec PySem.Calls
set_option maxRecDepth 100000
set_option maxHeartbeats 4000000
namespace Mine
theorem regK2 : PySem.Challenge.rw_ak0011_01 = PySem.Challenge.rw_ak0011_01 ∧ hd.heap_39 = hd.heap_39 := by k_fill; exact ⟨rfl, rfl⟩

abbrev leafA : Around := { handled := none, depth := 980, frames := none, guards := none, units := 9800 }
theorem wpAny_lift {M : Model} {A B : Around} {α : Type} {m : Sem α} {Q : α → Shared → Prop} {E : Value → Shared → Prop} {s : Shared} (h : wpAny M B m Q E s) (hf : B.frames = none := by rfl) (hg : B.guards = none := by rfl) (hh : A.handled = B.handled := by rfl)
    (hD : A.depth ≤ B.depth := by exact Nat.le_of_ble_eq_true rfl) (hU : A.units ≤ B.units := by exact Nat.le_of_ble_eq_true rfl) : wpAny M A m Q E s := fun Γ p hΓ =>
  h Γ p ⟨hΓ.1.trans hh, Nat.le_trans hΓ.2.1 hD, fun l e => (by rw [hf] at e; cases e), fun l e => (by rw [hg] at e; cases e), Nat.le_trans hΓ.2.2.2.2 hU⟩

/-- a def of the top, entered: no word of the frames above it -/
theorem enter_def {prog : Program} {w : World} {A : Around} {s : Shared} {R : Result → Shared → Prop} {K : Frag} {hb : Heap} {name qual : Str} {params : Arguments} {body : List Stmt} {scope : Scope}
    {dV kV doc pm cdv ct oc : Value} {an od : Option Addr} {osl : Array (Option Value)} {f : Addr} {args : Args} {binds : List (Str × Value)} {news : List (Addr × Obj)} {p : Program} {loose : List Str} {mg mb : Str → Option Value}
    (X : K.In hb) (T : TopRead p loose mg mb hb) (st : hb.StaysIn s.heap) (hN : ∀ q ∈ news, s.heap.get? q.1 = some q.2 ∧ hb.get? q.1 = none)
    (ho : K.lookup f = some ⟨oc, od, .func (fnOf name qual params body scope dV kV doc pm an cdv ct), osl⟩) (hcd : codeIn K cdv qual = true) (hroom : A.depth < recursionLimit)
    (hbind : BindsTo s (fnOf name qual params body scope dV kV doc pm an cdv ct) args binds) (hloc : ∀ y ∈ binds, scope.names.lookup y.1 = some .local)
    (h : ∀ g L' h₁, hb.StaysIn g → g.StaysIn s.heap → (∀ b o, s.heap.get? b = some o → b ∉ news.map (·.1) → g.get? b = some o) → g.objs.size = s.heap.objs.size → Fr g L' h₁ (fun y => binds.reverse.lookup y) → News g L' h₁ news → (∀ q ∈ news, q.1 < L') → K.In g → TopRead p loose mg mb g →
      wpAny (model prog w) (A.deeper (envOf qual scope L' f cdv)) (execs body (envOf qual scope L' f cdv))
        (fun fl s' => R (.ok (.ret (match fl with | .ret v => v | _ => .none))) s')
        (fun e s' => wpAny (model prog w) (A.deeper (envOf qual scope L' f cdv)) (leaving (envOf qual scope L' f cdv) e) (fun _ s'' => R (.error e) s'') (fun e' s'' => R (.error e') s'') s')
        { s with heap := h₁, toks := s.toks + binds.length })
    (hco : scope.isCoroutine = false := by rfl) (hgen : scope.isGenerator = false := by rfl) (hk : scope.kind = .function := by rfl)
    (hcell : ∀ x ∈ scope.names, x.2 ≠ .cell := by decide) : codeAny (model prog w) A (.call (.ref f) args) R s := by
  refine codeAny_call_def (fd := fnOf name qual params body scope dV kV doc pm an cdv ct) (body := body) (binds := binds) hroom ((X.keeps fun b o e => st b o e) _ _ ho) rfl (T.nolimit.keeps fun b o e => st b o e) (codeRec_of (X.keeps fun b o e => st b o e) hcd) rfl hbind hcell hloc (fun h₁ hns hk₁ => ?_) hco hgen hk
  have nm : ∀ b o, hb.get? b = some o → b ∉ news.map (·.1) := fun b o e q => by
    obtain ⟨q', hq, rfl⟩ := List.mem_map.mp q
    rw [(hN q' hq).2] at e; cases e
  have sg : hb.StaysIn (hideAll s.heap (news.map (·.1))) := fun b o e => hideAll_get _ (st b o e) (nm b o e)
  refine h (hideAll s.heap (news.map (·.1))) s.heap.objs.size h₁ sg (fun b o e => of_hideAll _ e) (fun b o e q => hideAll_get _ e q) (hideAll_size _ _) ⟨hns, fun b o e => hk₁ b o (of_hideAll _ e), Nat.le_of_eq (hideAll_size _ _)⟩ (fun q hq => ?_) (fun q hq => Heap.lt_size (hN q hq).1) (X.keeps fun b o e => sg b o e) (T.keeps fun b o e => sg b o e)
  exact ⟨hk₁ _ _ (hN q hq).1, Nat.ne_of_lt (Heap.lt_size (hN q hq).1), hideAll_none _ (List.mem_map_of_mem hq)⟩

theorem fr_size {g h' : Heap} {s : Shared} {L : Addr} {m} (gz : g.objs.size = s.heap.objs.size) (F : Fr g L h' m) : s.heap.objs.size ≤ h'.objs.size := by
  rw [← gz]; exact Nat.le_trans F.above (Nat.le_of_lt F.ns.lt)
theorem fr_keep1 {g h' : Heap} {s : Shared} {L S sl : Addr} {m} {oS ol : Obj} (ge : ∀ b o, s.heap.get? b = some o → b ∉ [(S, oS), (sl, ol)].map (·.1) → g.get? b = some o) (F : Fr g L h' m) (hl' : h'.get? sl = some ol) (hl : s.heap.get? sl = some ol) :
    ∀ b o, s.heap.get? b = some o → b ≠ S → h'.get? b = some o := by
  intro b o e hb
  by_cases h1 : b = sl
  · subst h1; rw [hl] at e; cases e; exact hl'
  · exact F.keep b o (ge b o e (by simp [hb, h1]))
theorem fr_keep0 {g h' : Heap} {s : Shared} {L sl : Addr} {m} {ol : Obj} (ge : ∀ b o, s.heap.get? b = some o → b ∉ [(sl, ol)].map (·.1) → g.get? b = some o) (F : Fr g L h' m) (hl' : h'.get? sl = some ol) (hl : s.heap.get? sl = some ol) :
    ∀ b o, s.heap.get? b = some o → h'.get? b = some o := by
  intro b o e
  by_cases h1 : b = sl
  · subst h1; rw [hl] at e; cases e; exact hl'
  · exact F.keep b o (ge b o e (by simp [h1]))
theorem next_spec {prog : Program} {w : World} {p : Program} {loose : List Str} {mg mb : Str → Option Value} {hb : Heap} {s : Shared} {S sl : Addr} {vs : List Value} {xs : List Int} {n m : Nat} {c lim : Int} {tc tl : Tok} {Q E : Value → Shared → Prop}
    (X : (hd.heap_39 w.params).In hb) (T : TopRead p loose mg mb hb) (st : hb.StaysIn s.heap) (hS : s.heap.get? S = some (listOf #[.ref sl, .int c tc] n)) (hS0 : hb.get? S = none) (hl : s.heap.get? sl = some (listOf vs.toArray m)) (hl0 : hb.get? sl = none)
    (hi : IntsAre vs xs) (hsz : xs.length ≤ 1000) (hsS : @LT.lt Nat _ sl S) (hc : 0 ≤ c) (hlim : 0 < lim)
    (hQ : ∀ i tk' c' tc' n' h' tks, 0 ≤ i → i < lim → 0 ≤ c' → h'.get? S = some (listOf #[.ref sl, .int c' tc'] n') → (∀ b o, s.heap.get? b = some o → b ≠ S → h'.get? b = some o) → s.heap.objs.size ≤ h'.objs.size → Q (.int i tk') { s with heap := h', toks := tks }) :
    wpAny (model prog w) leafA (call (.ref 28) [.ref S, .int lim tl]) Q E s := by
  refine wpAny_call ?_
  refine enter_def (K := hd.heap_39 w.params) (binds := [(Str.ofString "state", .ref S), (Str.ofString "limit", .int lim tl)]) (news := [(S, listOf #[.ref sl, .int c tc] n), (sl, listOf vs.toArray m)]) X T st (fun q hq => by
    rcases List.mem_cons.mp hq with rfl | hq
    · exact ⟨hS, hS0⟩
    · simp only [List.mem_singleton] at hq; subst hq; exact ⟨hl, hl0⟩) (by k_is) (by k_is) (by decide) (BindsTo.of_eq rfl) (locs rfl) ?_
  intro g L' h₁ sg gs ge gz F' N' l1 X' T'
  k_lt l1
  k_steps
  all_goals
    rename News _ _ _ _ => N2
    rename Fr _ _ _ _ => F2
    refine hQ _ _ _ _ _ _ _ ?_ ?_ ?_ (N2 _ (.head _)).1 (fr_keep1 ge F2 (N2 _ (.tail _ (.head _))).1 hl) (fr_size gz F2)
  all_goals first | omega | exact Int.fmod_nonneg_of_pos _ hlim | exact Int.fmod_lt_of_pos _ hlim

def manyI (l : Nat) (v : Int) : Int := if v.fmod 3 = 2 then v.fmod (l + 1) else l

theorem manyI_bound {l : Nat} {v : Int} (hv : 0 ≤ v) : 0 ≤ manyI l v ∧ manyI l v ≤ l := by
  unfold manyI
  split
  · have h1 : (0 : Int) < (l : Int) + 1 := by omega
    exact ⟨Int.fmod_nonneg_of_pos _ h1, Int.le_of_lt_add_one (Int.fmod_lt_of_pos _ h1)⟩
  · omega

theorem many_spec {prog : Program} {w : World} {p : Program} {loose : List Str} {mg mb : Str → Option Value} {hb : Heap} {s : Shared} {r : Addr} {vs : List Value} {xs : List Int} {n : Nat} {v : Int} {tk : Tok} {Q E : Value → Shared → Prop}
    (X : (hd.heap_39 w.params).In hb) (T : TopRead p loose mg mb hb) (st : hb.StaysIn s.heap) (hr : s.heap.get? r = some (listOf vs.toArray n)) (hr0 : hb.get? r = none) (hi : IntsAre vs xs) (hsz : xs.length ≤ 1000) (hv0 : 0 ≤ v) (hv1 : v < 97)
    (hQ : ∀ i tk' h' tks, i = manyI xs.length v → (∀ b o, s.heap.get? b = some o → h'.get? b = some o) → s.heap.objs.size ≤ h'.objs.size → Q (.int i tk') { s with heap := h', toks := tks }) :
    wpAny (model prog w) leafA (call (.ref 35) [.ref r, .int v tk]) Q E s := by
  refine wpAny_call ?_
  refine enter_def (K := hd.heap_39 w.params) (binds := [(Str.ofString "row", .ref r), (Str.ofString "value", .int v tk)]) (news := [(r, listOf vs.toArray n)]) X T st (fun q hq => by simp only [List.mem_singleton] at hq; subst hq; exact ⟨hr, hr0⟩) (by k_is) (by k_is) (by decide) (BindsTo.of_eq rfl) (locs rfl) ?_
  intro g L' h₁ sg gs ge gz F' N' l1 X' T'
  k_lt l1
  k_steps
  all_goals
    rename News _ _ _ _ => N2
    rename Fr _ _ _ _ => F2
    refine hQ _ _ _ _ ?_ (fr_keep0 ge F2 (N2 (r, listOf vs.toArray n) (by k_mem)).1 hr) (fr_size gz F2)
    clear hQ
    rename_i kk
    simp [manyI, kk]
end Mine
end

section
open PySem PySem.W PyProof.Rows PySem.Spec PySem.Calls
set_option maxRecDepth 100000
set_option maxHeartbeats 4000000
namespace Mine
theorem regK3 : PySem.Challenge.rw_ak0011_01 = PySem.Challenge.rw_ak0011_01 ∧ hd.heap_39 = hd.heap_39 := by k_fill; exact ⟨rfl, rfl⟩

/-- a def of the top with cells, entered -/
theorem enter_defC {prog : Program} {w : World} {A : Around} {s : Shared} {R : Result → Shared → Prop} {K : Frag} {hb : Heap} {name qual : Str} {params : Arguments} {body : List Stmt} {scope : Scope}
    {dV kV doc pm cdv ct oc : Value} {an od : Option Addr} {osl : Array (Option Value)} {f : Addr} {args : Args} {binds : List (Str × Value)} {news : List (Addr × Obj)} {p : Program} {loose : List Str} {mean : ExcName → Option Value} {mg mb : Str → Option Value}
    (X : K.In hb) (T : Top p loose mean mg mb hb) (st : hb.StaysIn s.heap) (hN : ∀ q ∈ news, s.heap.get? q.1 = some q.2 ∧ hb.get? q.1 = none)
    (ho : K.lookup f = some ⟨oc, od, .func (fnOf name qual params body scope dV kV doc pm an cdv ct), osl⟩) (hcd : codeIn K cdv qual = true) (hroom : A.depth < recursionLimit)
    (hbind : BindsTo s (fnOf name qual params body scope dV kV doc pm an cdv ct) args binds) (hkind : (binds.all fun y => scope.names.lookup y.1 == some .local || scope.names.lookup y.1 == some .cell) = true)
    (hnd : ((cellsFrom 0 scope.names []).map (·.1)).Nodup)
    (h : ∀ g L' h₁ tk cells, hb.StaysIn g → g.StaysIn s.heap → (∀ b o, s.heap.get? b = some o → b ∉ news.map (·.1) → g.get? b = some o) → g.objs.size = s.heap.objs.size → Fr g L' h₁ (bindL (envOfC qual scope L' f cdv).kindOf binds fun _ => none) → News g L' h₁ (cells ++ news) →
      CellsAre (bindC (envOfC qual scope L' f cdv).kindOf binds fun _ => none) (cellsFrom (L' + 1) scope.names []) cells → (∀ q ∈ news, q.1 < L') → K.In g → Top p loose mean mg mb g →
      wpAny (model prog w) (A.deeper (envOfC qual scope L' f cdv)) (execs body (envOfC qual scope L' f cdv))
        (fun fl s' => R (.ok (.ret (match fl with | .ret v => v | _ => .none))) s')
        (fun e s' => wpAny (model prog w) (A.deeper (envOfC qual scope L' f cdv)) (leaving (envOfC qual scope L' f cdv) e) (fun _ s'' => R (.error e) s'') (fun e' s'' => R (.error e') s'') s')
        { s with heap := h₁, toks := tk })
    (hco : scope.isCoroutine = false := by rfl) (hgen : scope.isGenerator = false := by rfl) (hk : scope.kind = .function := by rfl) : codeAny (model prog w) A (.call (.ref f) args) R s := by
  have nm : ∀ b o, hb.get? b = some o → b ∉ news.map (·.1) := fun b o e q => by
    obtain ⟨q', hq, rfl⟩ := List.mem_map.mp q
    rw [(hN q' hq).2] at e; cases e
  have sg : hb.StaysIn (hideAll s.heap (news.map (·.1))) := fun b o e => hideAll_get _ (st b o e) (nm b o e)
  refine codeAny_call_function (fd := fnOf name qual params body scope dV kV doc pm an cdv ct) hroom ((X.keeps fun b o e => st b o e) _ _ ho) rfl hco hgen rfl (codeRec_of (X.keeps fun b o e => st b o e) hcd) (hbind _ _ _ _ ?_)
  refine wpAny_newFunctionEnv_cells hk (kindsX hkind _) fun env' he s' x => ?_
  subst he
  refine ⟨(T.nolimit.keeps fun b o e => st b o e).keeps x.toInCall.keep, codeAny_func ?_⟩
  obtain ⟨h₁, tk, rfl, _⟩ := x.done
  have hk₁ := x.toInCall.keep
  obtain ⟨cells, NC, Y⟩ := Cl.news (h₀ := s.heap) (Nat.le_refl _) fun n c hm => ⟨x.cell n c (lookup_of_mem_nodup (cellsFrom_names scope.names 0 (s.heap.objs.size + 1) [] [] rfl ▸ hnd) hm), x.above n c hm⟩
  refine h (hideAll s.heap (news.map (·.1))) s.heap.objs.size h₁ tk cells sg (fun b o e => of_hideAll _ e) (fun b o e q => hideAll_get _ e q) (hideAll_size _ _) ⟨x.toInCall.ns, fun b o e => hk₁ b o (of_hideAll _ e), Nat.le_of_eq (hideAll_size _ _)⟩ (fun p hp => ?_) Y (fun p hp => Heap.lt_size (hN p hp).1) (X.keeps fun b o e => sg b o e) (T.keeps fun b o e => sg b o e)
  rcases List.mem_append.mp hp with hp | hp
  · refine ⟨(NC p hp).1, (NC p hp).2.1, ?_⟩
    cases q : (hideAll s.heap (news.map (·.1))).get? p.1 with
    | none => rfl
    | some o => have := of_hideAll _ q; rw [(NC p hp).2.2] at this; cases this
  · exact ⟨hk₁ _ _ (hN p hp).1, Nat.ne_of_lt (Heap.lt_size (hN p hp).1), hideAll_none _ (List.mem_map_of_mem hp)⟩

theorem fac_tab {ps : Params} : tabIn (hd.heap_39 ps) (Str.ofString "_law_factory") = some (41, 37) := by kernel_rfl

def facOuter : Option (List Stmt × Scope) := match PySem.Challenge.pw_ak0011_01.main.body with
  | _ :: _ :: _ :: _ :: _ :: .FunctionDef _ _ b _ _ _ sc _ _ _ :: _ => some (b, sc)
  | _ => none
def facOuterScope : Scope := match facOuter with
  | some (_, sc) => sc
  | _ => {kind := .function, names := [], isGenerator := true, isCoroutine := false}
def facBody : List Stmt := match facOuter with
  | some (.FunctionDef _ _ b _ _ _ _ _ _ _ :: _, _) => b
  | _ => []
def facParams : Arguments := match facOuter with
  | some (.FunctionDef _ a _ _ _ _ _ _ _ _ :: _, _) => a
  | _ => ⟨[], [], none, [], [], none, []⟩
def facScope : Scope := match facOuter with
  | some (.FunctionDef _ _ _ _ _ _ sc _ _ _ :: _, _) => sc
  | _ => {kind := .function, names := [], isGenerator := true, isCoroutine := false}
def qualF : Str := qualnameIn (envOfC (Str.ofString "_law_factory") facOuterScope 0 42 (Value.ref 41)) (Str.ofString "factory") (Str.ofString "factory")

/-- a closure `factory`, as it was made -/
def FacAt (n₀ : Nat) (h : Heap) (f r ev : Addr) (k : Int) : Prop :=
  ∃ (cE cP cR c' : Addr) (doc pm ctv : Value) (tk t : Tok) (oE oP oR oc : Obj) (vs : Array Value), h.get? f = some (fnMade (Str.ofString "factory") qualF facParams facBody facScope [(Str.ofString "row", cR), (Str.ofString "place", cP), (Str.ofString "events", cE)] doc pm c' ctv) ∧
    h.get? c' = some oc ∧ oc.data = .fields vs ∧ vs[1]? = some (.str qualF t) ∧ h.get? cE = some oE ∧ oE.data = .cell (some (.ref ev)) ∧ h.get? cP = some oP ∧ oP.data = .cell (some (.int k tk)) ∧ h.get? cR = some oR ∧ oR.data = .cell (some (.ref r)) ∧
    n₀ ≤ f ∧ n₀ ≤ c' ∧ n₀ ≤ cE ∧ n₀ ≤ cP ∧ n₀ ≤ cR

/-- the code table of `_law_factory`: its inner def has been made once, or not yet -/
def TabSt (n₀ : Nat) (h : Heap) : Prop := h.get? 37 = some (tabObj #[]) ∨ ∃ (c' : Addr) (oc : Obj) (vs : Array Value) (t : Tok), h.get? 37 = some (tabObj #[rawInt ((18 : Nat) : Int), rawInt ((4 : Nat) : Int), Value.ref c']) ∧ n₀ ≤ c' ∧ h.get? c' = some oc ∧ oc.data = .fields vs ∧ vs[1]? = some (.str qualF t)

theorem factory_spec {prog : Program} {w : World} {p : Program} {loose : List Str} {mean : ExcName → Option Value} {mg mb : Str → Option Value} {hb : Heap} {s : Shared} {r ev : Addr} {k : Int} {tk : Tok} {Q E : Value → Shared → Prop}
    (X : (hd.heap_39 w.params).In hb) (T : Top p loose mean mg mb hb) (C : CodeHd hb 41 37) (st : hb.StaysIn s.heap) (h37 : TabSt hb.objs.size s.heap) (h370 : hb.get? 37 = none) (hz : hb.objs.size ≤ s.heap.objs.size)
    (hQ : ∀ f h' tks, FacAt hb.objs.size h' f r ev k → TabSt hb.objs.size h' → (∀ b o, s.heap.get? b = some o → b ≠ 37 → h'.get? b = some o) → s.heap.objs.size ≤ h'.objs.size → s.heap.objs.size ≤ f → Q (.ref f) { s with heap := h', toks := tks }) :
    wpAny (model prog w) bigA (call (.ref 42) [.ref r, .int k tk, .ref ev]) Q E s := by
  refine wpAny_call ?_
  rcases h37 with h37 | ⟨c₀, oc₀, vs₀, t₀, h37, hc₀, hoc₀, hd₀, hv₀⟩
  · refine enter_defC (K := hd.heap_39 w.params) (binds := [(Str.ofString "row", .ref r), (Str.ofString "place", .int k tk), (Str.ofString "events", .ref ev)]) (news := [(37, tabObj #[])]) X T st (fun q hq => by simp only [List.mem_singleton] at hq; subst hq; exact ⟨h37, h370⟩) (by k_is) (by k_is) (by decide) (BindsTo.of_eq rfl) rfl (by decide +kernel) ?_
    intro g L' h₁ tk' cells' sg gs ge gz F' N' Y' l1 X' T'
    have C' : CodeHd g 41 37 := C.keeps fun b o e => sg b o e
    have hLs : s.heap.objs.size ≤ L' := gz ▸ F'.above
    have hL' : hb.objs.size ≤ L' := Nat.le_trans hz hLs
    k_lt l1
    k_cells Y'
    (try simp only [List.cons_append, List.nil_append] at N')
    (try dsimp only)
    k_steps
    rename_i oE oP oR dE dP dR f' c' oc vs t ctv doc h1 tk1 dc dv l2 l3 h2 F2 N2
    have nE : hb.objs.size ≤ L' + 1 := Nat.le_succ_of_le hL'
    have nc : hb.objs.size ≤ c' := Nat.le_trans nE (Nat.le_of_lt l2.2.2.1)
    have nf : s.heap.objs.size ≤ f' := Nat.le_trans (Nat.le_succ_of_le hLs) (Nat.le_trans (Nat.le_of_lt l2.2.2.1) (Nat.le_of_lt l3))
    refine hQ f' _ _ ⟨_, _, _, _, _, _, _, _, _, oE, oP, oR, oc, vs, (N2 _ (.head _)).1, (N2 _ (.tail _ (.head _))).1, dc, dv, (N2 (_, oE) (by k_mem)).1, dE, (N2 (_, oP) (by k_mem)).1, dP, (N2 (_, oR) (by k_mem)).1, dR, Nat.le_trans nc (Nat.le_of_lt l3), nc, ?_, ?_, ?_⟩ ?_ ?_ (fr_size gz F2) nf
    · exact Nat.le_succ_of_le (Nat.le_succ_of_le nE)
    · exact Nat.le_succ_of_le nE
    · exact nE
    · exact .inr ⟨c', oc, vs, t, (N2 (37, tabObj (#[] ++ #[rawInt ((18 : Nat) : Int), rawInt ((4 : Nat) : Int), Value.ref c'])) (by k_mem)).1, nc, (N2 _ (.tail _ (.head _))).1, dc, dv⟩
    · exact fun b o e hb => F2.keep b o (ge b o e (by simp only [List.map_cons, List.map_nil, List.mem_singleton]; exact hb))
  · refine enter_defC (K := hd.heap_39 w.params) (binds := [(Str.ofString "row", .ref r), (Str.ofString "place", .int k tk), (Str.ofString "events", .ref ev)]) (news := [(37, tabObj #[rawInt ((18 : Nat) : Int), rawInt ((4 : Nat) : Int), Value.ref c₀]), (c₀, oc₀)]) X T st (fun q hq => by
      rcases List.mem_cons.mp hq with rfl | hq
      · exact ⟨h37, h370⟩
      · simp only [List.mem_singleton] at hq; subst hq; exact ⟨hoc₀, Heap.get?_none_of_le hc₀⟩) (by k_is) (by k_is) (by decide) (BindsTo.of_eq rfl) rfl (by decide +kernel) ?_
    intro g L' h₁ tk' cells' sg gs ge gz F' N' Y' l1 X' T'
    have C' : CodeHd g 41 37 := C.keeps fun b o e => sg b o e
    have hLs : s.heap.objs.size ≤ L' := gz ▸ F'.above
    have hL' : hb.objs.size ≤ L' := Nat.le_trans hz hLs
    k_lt l1
    k_cells Y'
    (try simp only [List.cons_append, List.nil_append] at N')
    (try dsimp only)
    k_steps
    rename_i oE oP oR dE dP dR f' ctv doc h1 tk1 l2 h2 F2 N2
    have nE : hb.objs.size ≤ L' + 1 := Nat.le_succ_of_le hL'
    have nf : s.heap.objs.size ≤ f' := Nat.le_trans (Nat.le_succ_of_le hLs) (Nat.le_of_lt l2.2.2.1)
    refine hQ f' _ _ ⟨_, _, _, _, _, _, _, _, _, oE, oP, oR, oc₀, vs₀, (N2 _ (.head _)).1, (N2 (c₀, oc₀) (by k_mem)).1, hd₀, hv₀, (N2 (_, oE) (by k_mem)).1, dE, (N2 (_, oP) (by k_mem)).1, dP, (N2 (_, oR) (by k_mem)).1, dR, Nat.le_trans hz nf, hc₀, ?_, ?_, ?_⟩ ?_ ?_ (fr_size gz F2) nf
    · exact Nat.le_succ_of_le (Nat.le_succ_of_le nE)
    · exact Nat.le_succ_of_le nE
    · exact nE
    · exact .inr ⟨c₀, oc₀, vs₀, t₀, (N2 (37, tabObj #[rawInt ((18 : Nat) : Int), rawInt ((4 : Nat) : Int), Value.ref c₀]) (by k_mem)).1, hc₀, (N2 (c₀, oc₀) (by k_mem)).1, hd₀, hv₀⟩
    · intro b o e hb
      by_cases h1 : b = c₀
      · subst h1; rw [hoc₀] at e; cases e; exact (N2 (b, oc₀) (by k_mem)).1
      · exact F2.keep b o (ge b o e (by simp only [List.map_cons, List.map_nil, List.mem_cons, List.not_mem_nil, or_false]; exact fun q => q.elim hb h1))
end Mine
end

section
open PySem PySem.W PyProof.Rows PySem.Spec PySem.Calls
set_option maxRecDepth 100000
set_option maxHeartbeats 400000
namespace Mine
theorem regK4 : PySem.Challenge.rw_ak0011_01 = PySem.Challenge.rw_ak0011_01 ∧ hd.heap_39 = hd.heap_39 := by k_fill; exact ⟨rfl, rfl⟩

theorem factory_env {M : Model} {A : Around} {E : Value → Shared → Prop} {s : Shared} {cl : List (Str × Addr)} {f c' : Addr} {v : Int} {tk : Tok} {Q : Env → Shared → Prop}
    (h : ∀ h₁ oV, h₁.Ns s.heap.objs.size (fun _ => none) → h₁.get? (s.heap.objs.size + 1) = some oV → oV.data = .cell (some (.int v tk)) → (∀ b o, s.heap.get? b = some o → h₁.get? b = some o) →
      Q (envX qualF facScope s.heap.objs.size f (.ref c') ((Str.ofString "value", s.heap.objs.size + 1) :: cl)) { s with heap := h₁ }) :
    wpAny M A (newFunctionEnv facScope mainGlobals cl [(Str.ofString "value", .int v tk)] (qualF ++ ".<locals>.") (some f) (.ref c') none builtinsNs) Q E s := by
  simp only [newFunctionEnv, Option.isSome_none, Bool.false_eq_true, if_false]
  refine wpAny_bind (wpAny_alloc ?_)
  refine wpAny_bind (wpAny_layCells _ (fun name kind cells => by cases hkc : kind == NameKind.cell <;> simp [hkc]) _ _ _ _ ?_)
  have e1 : cellsFrom (s.heap.push { cls := .type "frame", data := .dict #[] }).objs.size facScope.names cl = (Str.ofString "value", s.heap.objs.size + 1) :: cl := by
    rw [Heap.size_push]; rfl
  have e2 : pushCells (s.heap.push { cls := .type "frame", data := .dict #[] }) facScope.names = (s.heap.push { cls := .type "frame", data := .dict #[] }).push { cls := .type "cell", data := .cell none } := rfl
  show wpAny M A _ _ _ { s with heap := pushCells (s.heap.push { cls := .type "frame", data := .dict #[] }) facScope.names }
  rw [e2]
  simp only [e1, List.forIn_cons, List.forIn_nil]
  have hL : (s.heap.push { cls := .type "frame", data := .dict #[] }).objs.size = s.heap.objs.size + 1 := Heap.size_push ..
  have hcell : ((s.heap.push { cls := .type "frame", data := .dict #[] }).push { cls := .type "cell", data := .cell none }).IsCell (s.heap.objs.size + 1) none := by
    rw [← hL]; exact ⟨_, Heap.get?_push_size _ rfl, rfl⟩
  refine wpAny_bind (wpAny_bind (wpAny_bind (wpAny_storeName_cell (env := envX qualF facScope s.heap.objs.size f (.ref c') ((Str.ofString "value", s.heap.objs.size + 1) :: cl)) rfl rfl rfl hcell fun h' hv hs => wpAny_pure (wpAny_pure ?_))))
  obtain ⟨oV, hoV, hdV⟩ := hv
  have hns : ((s.heap.push { cls := .type "frame", data := .dict #[] }).push { cls := .type "cell", data := .cell none }).Ns s.heap.objs.size (fun _ => none) := by
    obtain ⟨o, es, ep, ho, r⟩ := Heap.Ns.new s.heap (.type "frame")
    exact ⟨o, es, ep, Heap.get?_push_of_some _ ho, r⟩
  refine wpAny_pure (h h' oV (hns.sameBut hs (Nat.ne_of_lt (Nat.lt_succ_self _))) hoV hdV fun b o e => hs.extBut b o (fun q => ?_) (Heap.get?_push_of_some _ (Heap.get?_push_of_some _ e)))
  have := Heap.lt_size e
  rw [q] at this
  exact absurd this (Nat.not_lt.mpr (Nat.le_succ _))

theorem wpAny_seal {α : Type} {M : Model} {A : Around} {t : Sem α} {Q : α → Shared → Prop} {E : Value → Shared → Prop} {s : Shared} (h : ∀ QQ : α → Shared → Prop, (∀ v s', Q v s' → QQ v s') → wpAny M A t QQ E s) : wpAny M A t Q E s := h Q fun _ _ q => q

def nextOf (v a : Int) : Int := (v * 3 + a).fmod 97
def nextsOf (xs : List Int) (v : Int) : List Int := (xs.take (manyI xs.length v).toNat).map (nextOf v)

theorem ints_at : ∀ {vs : List Value} {ns : List Int} {j : Nat} {v : Value}, IntsAre vs ns → vs[j]? = some v → ∃ a t, ns[j]? = some a ∧ v = .int a t
  | _, _, 0, _, .cons n t h, e => by cases e; exact ⟨n, t, rfl, rfl⟩
  | _, _, j + 1, _, .cons n t h, e => ints_at (j := j) h e
theorem ints_snoc : ∀ {vs : List Value} {ns : List Int} {a : Int} {t : Tok}, IntsAre vs ns → IntsAre (vs ++ [.int a t]) (ns ++ [a])
  | _, _, _, _, .nil => .cons _ _ .nil
  | _, _, _, _, .cons n t h => .cons n t (ints_snoc h)

theorem factory_call {prog : Program} {w : World} {p : Program} {loose : List Str} {mean : ExcName → Option Value} {mg mb : Str → Option Value} {hb : Heap} {s : Shared} {f r ev : Addr} {k v : Int} {tk : Tok} {vs : List Value} {xs : List Int} {n m : Nat} {items : Array Value} {Q E : Value → Shared → Prop}
    (X : (hd.heap_39 w.params).In hb) (T : Top p loose mean mg mb hb) (C : CodeHd hb 41 37) (st : hb.StaysIn s.heap) (FA : FacAt hb.objs.size s.heap f r ev k) (hr : s.heap.get? r = some (listOf vs.toArray n)) (hr0 : hb.objs.size ≤ r) (hi : IntsAre vs xs) (hsz3 : xs.length ≤ 3)
    (hev : s.heap.get? ev = some (listOf items m)) (hev0 : hb.objs.size ≤ ev) (hre : @Ne Nat r ev) (hsz : items.size ≤ 1000000) (hv0 : 0 ≤ v) (hv1 : v < 97)
    (hQ : ∀ a ys h' tks tp k', h'.IsList a (List.toArray ys) → IntsAre ys (nextsOf xs v) → s.heap.objs.size ≤ a → (∀ b o, s.heap.get? b = some o → b ≠ ev → h'.get? b = some o) → s.heap.objs.size ≤ h'.objs.size →
      h'.get? ev = some (listOf (items.push tp) k') → (∃ c n t t', tp = .ref c ∧ h'.get? c = some { cls := .type "tuple", data := .seq #[.int k t, .int v t'] n }) → Q (.ref a) { s with heap := h', toks := tks }) :
    wpAny (model prog w) bigA (call (.ref f) [.int v tk]) Q E s := by
  obtain ⟨cE, cP, cR, c', doc, pm, ctv, tkp, t, oE, oP, oR, oc, cvs, hf, hc, hcd, hcv, hE, hEd, hP, hPd, hR, hRd, nf, nc, nE, nP, nR⟩ := FA
  have sep : ∀ {a : Addr} {o : Obj} {x : Option Value}, s.heap.get? a = some o → o.data = .cell x → @Ne Nat a ev ∧ @Ne Nat a r := by
    intro a o x e hd
    constructor
    · intro q
      have q' : a = ev := q
      rw [q', hev] at e; cases e; cases hd
    · intro q
      have q' : a = r := q
      rw [q', hr] at e; cases e; cases hd
  refine wpAny_call ?_
  have N : ∀ q ∈ [(cR, oR), (cP, oP), (cE, oE), (r, listOf vs.toArray n), (ev, listOf items m)], s.heap.get? q.1 = some q.2 ∧ hb.get? q.1 = none := by
    intro q hq
    simp only [List.mem_cons, List.not_mem_nil, or_false] at hq
    rcases hq with rfl | rfl | rfl | rfl | rfl
    · exact ⟨hR, Heap.get?_none_of_le nR⟩
    · exact ⟨hP, Heap.get?_none_of_le nP⟩
    · exact ⟨hE, Heap.get?_none_of_le nE⟩
    · exact ⟨hr, Heap.get?_none_of_le hr0⟩
    · exact ⟨hev, Heap.get?_none_of_le hev0⟩
  have nm : ∀ b o, hb.get? b = some o → b ∉ [(cR, oR), (cP, oP), (cE, oE), (r, listOf vs.toArray n), (ev, listOf items m)].map (·.1) := fun b o e q => by
    obtain ⟨q', hq, rfl⟩ := List.mem_map.mp q
    rw [(N q' hq).2] at e; cases e
  refine codeAny_call_function (fd := fnX (Str.ofString "factory") qualF facParams facBody facScope [(Str.ofString "row", cR), (Str.ofString "place", cP), (Str.ofString "events", cE)] .none .none doc pm none (.ref c') ctv) (by decide) hf rfl rfl rfl rfl ⟨c', oc, cvs, t, rfl, hc, hcd, hcv⟩ ?_
  have hbind : BindsTo s (fnX (Str.ofString "factory") qualF facParams facBody facScope [(Str.ofString "row", cR), (Str.ofString "place", cP), (Str.ofString "events", cE)] .none .none doc pm none (.ref c') ctv) ⟨[.int v tk], []⟩ [(Str.ofString "value", .int v tk)] := BindsTo.of_eq rfl
  refine hbind _ _ _ _ (factory_env fun h₁ oV hns hoV hdV hk₁ => ⟨(T.nolimit.keeps fun b o e => st b o e).keeps hk₁, codeAny_func ?_⟩)
  have sg : hb.StaysIn (hideAll s.heap ([(cR, oR), (cP, oP), (cE, oE), (r, listOf vs.toArray n), (ev, listOf items m)].map (·.1))) := fun b o e => hideAll_get _ (st b o e) (nm b o e)
  generalize hg : hideAll s.heap ([(cR, oR), (cP, oP), (cE, oE), (r, listOf vs.toArray n), (ev, listOf items m)].map (·.1)) = g at sg
  have gs : g.StaysIn s.heap := fun b o e => by subst hg; exact of_hideAll _ e
  have ge : ∀ b o, s.heap.get? b = some o → b ∉ [(cR, oR), (cP, oP), (cE, oE), (r, listOf vs.toArray n), (ev, listOf items m)].map (·.1) → g.get? b = some o := fun b o e q => by subst hg; exact hideAll_get _ e q
  have gz : g.objs.size = s.heap.objs.size := by subst hg; exact hideAll_size _ _
  have F' : Fr g s.heap.objs.size h₁ (fun _ => none) := ⟨hns, fun b o e => hk₁ b o (gs b o e), Nat.le_of_eq gz⟩
  have X' : (Mine.hd.heap_39 w.params).In g := X.keeps fun b o e => sg b o e
  have T' : Top p loose mean mg mb g := T.keeps fun b o e => sg b o e
  have C' : CodeHd g 41 37 := C.keeps fun b o e => sg b o e
  have N' : News g s.heap.objs.size h₁ [(s.heap.objs.size + 1, oV), (cR, oR), (cP, oP), (cE, oE), (r, listOf vs.toArray n), (ev, listOf items m)] := by
    intro q hq
    rcases List.mem_cons.mp hq with rfl | hq
    · refine ⟨hoV, Nat.ne_of_gt (Nat.lt_succ_self _), Heap.get?_none_of_le ?_⟩
      rw [gz]; exact Nat.le_succ _
    · refine ⟨hk₁ _ _ (N q hq).1, Nat.ne_of_lt (Heap.lt_size (N q hq).1), ?_⟩
      subst hg; exact hideAll_none _ (List.mem_map_of_mem hq)
  have l0 : ∀ q ∈ [(cR, oR), (cP, oP), (cE, oE), (r, listOf vs.toArray n), (ev, listOf items m)], q.1 < s.heap.objs.size := fun q hq => Heap.lt_size (N q hq).1
  have sR := (sep hR hRd).1
  have sP := (sep hP hPd).1
  have sE := (sep hE hEd).1
  clear hg N nm sep hns hoV hk₁ hf hc hcd hcv hbind
  generalize qualF = qf
  generalize hLz : s.heap.objs.size = L' at F' N' l0
  k_lt l0
  simp only [facBody, facScope, facOuter, PySem.Challenge.pw_ak0011_01]
  iterate 19 (first | walk1 | (dsimp only; walk1))
  rename News _ _ _ _ => N2
  rename Fr _ _ _ _ => F2
  refine ListComp_J (x := Str.ofString "one") (cl := [(Str.ofString "value", L' + 1)]) rfl (by decide) rfl (by decide) rfl ?_ (fun _ => rfl)
  refine wpAny_seal fun QQ hq => ?_
  k_steps
  refine wpAny_lift (B := leafA) (many_spec (vs := vs) (xs := xs) (n := n) X' (topRead_of T') (fun b o e => F2.keep b o e) (N2 (r, listOf vs.toArray n) (by k_mem)).1 (N2 (r, listOf vs.toArray n) (by k_mem)).2.2 hi (Nat.le_trans hsz3 (by decide)) hv0 hv1 fun i tk2 h2 tks2 hi2 hk2 hz2 => ?_)
  have F3 : Fr g L' h2 (fun _ => none) := F2.keeps hk2
  have N3 := N2.grown hk2
  clear F2 N2
  have hi0 : 0 ≤ i := hi2 ▸ (manyI_bound hv0).1
  have hi1 : i ≤ xs.length := hi2 ▸ (manyI_bound hv0).2
  dsimp only
  k_steps
  rename_i D ws h3 F4 N4 hI hlen1 hlen2 l1
  have hl3 : h3.IsList D ws.toArray := ⟨_, (N4 _ (.head _)).1, rfl, _, rfl⟩
  have hDlt : D < h3.objs.size := Heap.lt_size (N4 _ (.head _)).1
  have hwl : ws.length = (xs.take i.toNat).length := hI.length
  refine hq _ _ (wpAny_pyIter_list hl3 ⟨ws.length, fun j ys h => IntsAre ys (((xs.take i.toNat).take j).map (nextOf v)) ∧ (∀ b o, h3.get? b = some o → h.get? b = some o), ?_, ?_⟩)
  · clear hq hQ
    refine ⟨h3.objs.size, [h3.objs.size, D], [h3.objs.size], fun i v => ws.toArray[i]? = some v, fun i h => h.IsListIter h3.objs.size D i ∧ h.IsList D ws.toArray, rfl, ?_, ?_, ⟨⟨_, Heap.get?_push_size _ rfl, rfl, rfl⟩, hl3.push _⟩, ?_, ⟨.nil, fun b o e => Heap.get?_push_of_some _ e⟩, ?_, ?_⟩
    · exact (List.size_toArray (as := ws)) ▸ Walks.list rfl h3.objs.size D (Nat.ne_of_lt hDlt) ws.toArray
    · rw [hwl]; exact Nat.le_trans hlen2 (Nat.le_trans hsz3 (by decide))
    · intro b hb
      show b < (h3.push _).objs.size
      rw [Heap.size_push]
      rcases List.mem_cons.mp hb with rfl | hb
      · exact Nat.lt_succ_self _
      · rw [List.mem_singleton] at hb; rw [hb]; exact Nat.lt_succ_of_lt hDlt
    · intro j ys h h' hJ hk
      refine ⟨hJ.1, fun b o e => hk b o ?_ ?_ ?_ (hJ.2 b o e)⟩
      · show b ≠ (h3.push _).objs.size + 1
        rw [Heap.size_push]; exact Nat.ne_of_lt (Nat.lt_succ_of_lt (Nat.lt_succ_of_lt (Heap.lt_size e)))
      · intro q; rw [List.mem_singleton] at q; exact Nat.lt_irrefl _ (q ▸ Heap.lt_size e)
      · show b ≠ (h3.push _).objs.size
        rw [Heap.size_push]; exact Nat.ne_of_lt (Nat.lt_succ_of_lt (Heap.lt_size e))
    · intro j ys y h₂ tk₂ m₂ E' hj hys hP hJ hns hm
      obtain ⟨a, ta, ha, rfl⟩ := ints_at (j := j) (v := y) hI (by rw [← List.getElem?_toArray]; exact hP)
      have hk' := hJ.2
      refine wpAny_seal fun Q2 hq2 => ?_
      k_steps
      refine hq2 _ _ ⟨h₂, _, rfl, ⟨?_, hJ.2⟩, fun _ _ _ e => e⟩
      have e1 : (xs.take i.toNat).take (j + 1) = (xs.take i.toNat).take j ++ [a] := by rw [List.take_add_one, ha]; rfl
      rw [e1, List.map_append]
      exact ints_snoc hJ.1
  · clear hq
    intro h' tkz ys hpl hlen hJ
    have hz1 : s.heap.objs.size ≤ h3.objs.size := by rw [hLz]; exact Nat.le_of_lt F4.ns.lt
    have hsz1 : (h3.push { cls := .type "list_iterator", data := .fields #[.ref D, .int 0 0] }).objs.size = h3.objs.size + 1 := Heap.size_push ..
    have hz2 : h3.objs.size + 1 < h'.objs.size := by
      obtain ⟨n0, e0⟩ := hpl
      have := Heap.lt_size e0
      rw [← hsz1]; exact this
    have hin : IntsAre ys (nextsOf xs v) := by
      have h1 := hJ.1
      rw [hwl, List.take_length] at h1
      unfold nextsOf
      rw [← hi2]; exact h1
    refine hQ _ ys h' tkz _ _ hpl.isList hin ?_ (fun b o e hb => hJ.2 b o ?_) (Nat.le_trans hz1 (Nat.le_of_lt (Nat.lt_of_succ_lt hz2))) (hJ.2 _ _ (N4 (ev, _) (by k_mem)).1) ⟨_, _, _, _, rfl, hJ.2 _ _ (N4 (_, _) (.tail _ (.head _))).1⟩
    · show s.heap.objs.size ≤ (h3.push _).objs.size
      rw [hsz1]; exact Nat.le_succ_of_le hz1
    · by_cases h1 : b = cR
      · subst h1; rw [hR] at e; cases e; exact (N4 (b, oR) (by k_mem)).1
      by_cases h2 : b = cP
      · subst h2; rw [hP] at e; cases e; exact (N4 (b, oP) (by k_mem)).1
      by_cases h3 : b = cE
      · subst h3; rw [hE] at e; cases e; exact (N4 (b, oE) (by k_mem)).1
      by_cases h4 : b = r
      · subst h4; rw [hr] at e; cases e; exact (N4 (b, listOf vs.toArray n) (by k_mem)).1
      exact F4.keep b o (ge b o e (by simp [h1, h2, h3, h4, hb]))
end Mine
end

section
open PySem PySem.W PyProof.Rows PySem.Spec PySem.Calls
set_option maxRecDepth 100000
set_option maxHeartbeats 1000000
namespace Mine

theorem FacAt.keeps {n₀ : Nat} {h h' : Heap} {f r ev : Addr} {k : Int} (x : FacAt n₀ h f r ev k) (kk : ∀ b o, h.get? b = some o → h'.get? b = some o) : FacAt n₀ h' f r ev k := by
  obtain ⟨cE, cP, cR, c', doc, pm, ctv, tk, t, oE, oP, oR, oc, vs, a1, a2, a3, a4, a5, a6, a7, a8, a9, a10, r⟩ := x
  exact ⟨cE, cP, cR, c', doc, pm, ctv, tk, t, oE, oP, oR, oc, vs, kk _ _ a1, kk _ _ a2, a3, a4, kk _ _ a5, a6, kk _ _ a7, a8, kk _ _ a9, a10, r⟩
theorem FacAt.ge {n₀ : Nat} {h : Heap} {f r ev : Addr} {k : Int} (x : FacAt n₀ h f r ev k) : n₀ ≤ f := by
  obtain ⟨cE, cP, cR, c', doc, pm, ctv, tk, t, oE, oP, oR, oc, vs, a1, a2, a3, a4, a5, a6, a7, a8, a9, a10, r, _⟩ := x
  exact r

theorem okV_next (v a : Int) : okV (nextOf v a) := ⟨Int.fmod_nonneg_of_pos _ (by decide), Int.fmod_lt_of_pos _ (by decide)⟩

theorem fac_ok {prog : Program} {w : World} {p : Program} {loose : List Str} {mean : ExcName → Option Value} {mg mb : Str → Option Value} {hb hg : Heap} {f r ev : Addr} {k : Nat} {vs : List Value} {xs : List Int} {n : Nat}
    (X : (hd.heap_39 w.params).In hb) (T : Top p loose mean mg mb hb) (C : CodeHd hb 41 37) (st : hb.StaysIn hg) (FA : FacAt hb.objs.size hg f r ev k) (hr : hg.get? r = some (listOf vs.toArray n)) (hr0 : hb.objs.size ≤ r) (hi : IntsAre vs xs) (hsz3 : xs.length ≤ 3)
    (hev0 : hb.objs.size ≤ ev) (hevg : hg.get? ev = none) : FacOk prog w hg ev ⟨f, k, nextsOf xs⟩ := by
  refine ⟨?_, ?_, ?_⟩
  · obtain ⟨cE, cP, cR, c', doc, pm, ctv, tk, t, oE, oP, oR, oc, vs, a1, _⟩ := FA
    exact ⟨_, _, _, _, a1⟩
  · intro v hv y hy
    obtain ⟨a, _, rfl⟩ := List.mem_map.mp hy
    exact okV_next v a
  · intro s v tk hst hroom hv
    obtain ⟨items, m, hev, hroom⟩ := hroom
    refine factory_call (hb := hb) (k := k) (v := v) (xs := xs) X T C (fun b o e => hst b o (st b o e)) (FA.keeps fun b o e => hst b o e) (hst r _ hr) hr0 hi hsz3 hev hev0 (fun q => ?_) (by omega) hv.1 hv.2 ?_
    · have q' : r = ev := q
      rw [q', hevg] at hr; cases hr
    · intro a ys h' tks tp k' h1 h2 h3 h4 h5 h6 h7
      refine ⟨a, ys, h', tks, rfl, rfl, h3, h1, h2, h4, h5, fun its kk e => ?_⟩
      rw [hev] at e
      have e := Option.some.inj e
      obtain ⟨e1, e2⟩ : items = its ∧ m = kk := by
        have := congrArg Obj.data e
        injection this with e1 e2
        exact ⟨e1, e2⟩
      subst e1
      refine ⟨tp, k', h6, ?_⟩
      obtain ⟨c, n', t, t', rfl, e7⟩ := h7
      exact ⟨c, n', t, t', rfl, e7⟩
end Mine
end

section
open PySem PySem.W PyProof.Rows PySem.Spec PySem.Calls
set_option maxRecDepth 100000
set_option maxHeartbeats 1000000
namespace Mine
theorem regK5 : PySem.Challenge.rw_ak0011_01 = PySem.Challenge.rw_ak0011_01 ∧ hd.heap_39 = hd.heap_39 := by k_fill; exact ⟨rfl, rfl⟩

inductive RowsAre (h : Heap) (n₀ : Nat) : List Value → List (List Int) → Prop
  | nil : RowsAre h n₀ [] []
  | cons {r : Addr} {vs : List Value} {xs : List Int} {n : Nat} {rest : List Value} {rows : List (List Int)} : h.get? r = some (listOf vs.toArray n) → IntsAre vs xs → xs.length ≤ 3 → n₀ ≤ r → RowsAre h n₀ rest rows → RowsAre h n₀ (.ref r :: rest) (xs :: rows)

theorem RowsAre.keeps {h h' : Heap} {n₀ : Nat} (k : ∀ b o, h.get? b = some o → (∃ vs n, o = listOf vs n) → h'.get? b = some o) : ∀ {vs rows}, RowsAre h n₀ vs rows → RowsAre h' n₀ vs rows
  | _, _, .nil => .nil
  | _, _, .cons a b c d e => .cons (k _ _ a ⟨_, _, rfl⟩) b c d (RowsAre.keeps k e)
theorem RowsAre.length {h : Heap} {n₀ : Nat} : ∀ {vs rows}, RowsAre h n₀ vs rows → vs.length = rows.length
  | _, _, .nil => rfl
  | _, _, .cons _ _ _ _ e => congrArg (· + 1) (RowsAre.length e)
theorem RowsAre.at {h : Heap} {n₀ : Nat} : ∀ {vs rows} {p : Nat} {xs : List Int} {rest : List (List Int)}, RowsAre h n₀ vs rows → rows.drop p = xs :: rest →
    ∃ r ws n, vs[p]? = some (.ref r) ∧ h.get? r = some (listOf (List.toArray ws) n) ∧ IntsAre ws xs ∧ xs.length ≤ 3 ∧ n₀ ≤ r
  | _, _, 0, _, _, .nil, e => by cases e
  | _, _, _ + 1, _, _, .nil, e => by cases e
  | _, _, 0, _, _, .cons a b c d _, e => by cases e; exact ⟨_, _, _, rfl, a, b, c, d⟩
  | _, _, p + 1, _, _, .cons _ _ _ _ t, e => RowsAre.at (p := p) t e

theorem rowsAre_mem {h : Heap} {n₀ : Nat} {r : Addr} : ∀ {vs rows}, RowsAre h n₀ vs rows → Value.ref r ∈ vs → ∃ n ws, h.get? r = some (listOf (List.toArray ws) n)
  | _, _, .nil, e => by cases e
  | _, _, .cons a b c d t, e => by
    rcases List.mem_cons.mp e with e | e
    · cases e; exact ⟨_, _, a⟩
    · exact rowsAre_mem t e
theorem hrows7' {h h' : Heap} {n₀ : Nat} : ∀ {vs rows}, RowsAre h n₀ vs rows → (∀ r ws n, h.get? r = some (listOf (List.toArray ws) n) → Value.ref r ∈ vs → h'.get? r = some (listOf (List.toArray ws) n)) → RowsAre h' n₀ vs rows
  | _, _, .nil, _ => .nil
  | _, _, .cons a b c d t, k => .cons (k _ _ _ a (.head _)) b c d (hrows7' t fun r ws n e hm => k r ws n e (.tail _ hm))

def dueR : List (List Int) → Nat → Int → List Ev
  | [], _, v => [.told v]
  | xs :: rows, p, v => .asked p v :: (nextsOf xs v).flatMap (dueR rows (p + 1))

abbrev atA (j : Nat) : Around := { handled := none, depth := 900 + 10 * j, frames := none, guards := none, units := 9000 + 100 * j }

def walkForParts : Option (Expr × Expr × List Stmt) := match PySem.Challenge.pw_ak0011_01.main.body with
  | _ :: _ :: _ :: _ :: _ :: _ :: .FunctionDef _ _ [.If _ _ [_, .For t i b _ _] _] _ _ _ _ _ _ _ :: _ => some (t, i, b)
  | _ => none

theorem walk_spec {prog : Program} {w : World} {p : Program} {loose : List Str} {mean : ExcName → Option Value} {mg mb : Str → Option Value} {hb : Heap} {R ev : Addr} {Rv : List Value} {all : List (List Int)} {nR : Nat}
    (X : (hd.heap_39 w.params).In hb) (T : TopRead p loose mg mb hb) (hR0 : hb.objs.size ≤ R) (hev0 : hb.objs.size ≤ ev) (hne : @Ne Nat R ev) (hRl : Rv.length ≤ 3) :
    ∀ (rows : List (List Int)) (pl : Nat) (d u : Nat) (s : Shared) (v : Int) (tv tp : Tok) (m : Nat) (items : Array Value) (Q E : Value → Shared → Prop), all.drop pl = rows → pl ≤ all.length → d + 10 * rows.length ≤ 960 → u + 100 * rows.length ≤ 9600 → okV v →
      hb.StaysIn s.heap → s.heap.get? R = some (listOf Rv.toArray nR) → RowsAre s.heap hb.objs.size Rv all → (∀ r ws n, s.heap.get? r = some (listOf ws n) → Value.ref r ∈ Rv → r ≠ ev) → s.heap.get? ev = some (listOf items m) → items.size + (dueR rows pl v).length ≤ 1000000 →
      (∀ h' tks more k', (∀ b o, s.heap.get? b = some o → b ≠ ev → h'.get? b = some o) → s.heap.objs.size ≤ h'.objs.size → h'.get? ev = some (listOf (items ++ more.toArray) k') → EvsAre h' more (dueR rows pl v) → Q .none { s with heap := h', toks := tks }) →
      wpAny (model prog w) (plainA d u) (call (.ref 49) [.ref R, .int pl tp, .int v tv, .ref ev]) Q E s := by
  intro rows
  induction rows with
  | nil =>
    intro pl d u s v tv tp m items Q E hdrop hple hd hu hv st hR hrows hrne hev hroom hQ
    have hlen := hrows.length
    have hpl : pl = Rv.length := by
      have := List.drop_eq_nil_iff.mp hdrop
      omega
    have hsz : items.size ≤ 999999 := by simp only [dueR, List.length_singleton] at hroom; omega
    refine wpAny_call ?_
    refine enter_def (K := Mine.hd.heap_39 w.params) (binds := [(Str.ofString "rows", .ref R), (Str.ofString "place", .int pl tp), (Str.ofString "value", .int v tv), (Str.ofString "events", .ref ev)]) (news := [(R, listOf Rv.toArray nR), (ev, listOf items m)]) X T st (fun q hq => by
      rcases List.mem_cons.mp hq with rfl | hq
      · exact ⟨hR, Heap.get?_none_of_le hR0⟩
      · simp only [List.mem_singleton] at hq; subst hq; exact ⟨hev, Heap.get?_none_of_le hev0⟩) (by k_is) (by k_is) (by show d < recursionLimit; exact Nat.lt_of_le_of_lt (by omega : d ≤ 960) (by decide)) (BindsTo.of_eq rfl) (locs rfl) ?_
    intro g L' h₁ sg gs ge gz F' N' l1 X' T'
    k_lt l1
    k_steps
    refine len_list (items := Rv.toArray) ⟨_, (N' (R, listOf Rv.toArray nR) (by k_mem)).1, rfl, _, rfl⟩ (by rw [List.size_toArray]; omega) ?_
    rw [List.size_toArray]
    iterate 2 (first | walk1 | (dsimp only; walk1))
    rw [if_pos (by simp [hpl])]
    k_steps
    rename_i D2 h2 l2 h3 F2 N2
    refine hQ _ _ [.ref D2] _ (fun b o e hb => ?_) (fr_size gz F2) (by simpa using (N2 (ev, listOf (items.push (.ref D2)) (m + 1)) (by k_mem)).1) ⟨⟨D2, _, _, _, rfl, (N2 _ (.head _)).1⟩, trivial⟩
    by_cases h1 : b = R
    · subst h1; rw [hR] at e; cases e; exact (N2 (b, listOf Rv.toArray nR) (by k_mem)).1
    · exact F2.keep b o (ge b o e (by simp [h1, hb]))
  | cons xs rows ih =>
    intro pl d u s v tv tp m items Q E hdrop hple hd hu hv st hR hrows hrne hev hroom hQ
    have hlen := hrows.length
    obtain ⟨r, ws, n, hpv, hr, hi, hsz3, hr0⟩ := hrows.at hdrop
    have hrv : @Ne Nat r ev := hrne r _ n hr (List.mem_of_getElem? hpv)
    have hlt : pl < Rv.length := (List.getElem?_eq_some_iff.mp hpv).1
    have hsz : items.size ≤ 999999 := by simp only [dueR, List.length_cons] at hroom; omega
    refine wpAny_call ?_
    refine enter_def (K := Mine.hd.heap_39 w.params) (binds := [(Str.ofString "rows", .ref R), (Str.ofString "place", .int pl tp), (Str.ofString "value", .int v tv), (Str.ofString "events", .ref ev)]) (news := [(R, listOf Rv.toArray nR), (r, listOf ws.toArray n), (ev, listOf items m)]) X T st (fun q hq => by
      rcases List.mem_cons.mp hq with rfl | hq
      · exact ⟨hR, Heap.get?_none_of_le hR0⟩
      rcases List.mem_cons.mp hq with rfl | hq
      · exact ⟨hr, Heap.get?_none_of_le hr0⟩
      · simp only [List.mem_singleton] at hq; subst hq; exact ⟨hev, Heap.get?_none_of_le hev0⟩) (by k_is) (by k_is) (by show d < recursionLimit; exact Nat.lt_of_le_of_lt (by omega : d ≤ 960) (by decide)) (BindsTo.of_eq rfl) (locs rfl) ?_
    intro g L' h₁ sg gs ge gz F' N' l1 X' T'
    k_lt l1
    k_steps
    refine len_list (items := Rv.toArray) ⟨_, (N' (R, listOf Rv.toArray nR) (by k_mem)).1, rfl, _, rfl⟩ (by rw [List.size_toArray]; omega) ?_
    rw [List.size_toArray]
    iterate 2 (first | walk1 | (dsimp only; walk1))
    rw [if_neg (by simp; omega)]
    iterate 19 (first | walk1 | (dsimp only; walk1))
    rename_i D2 h2 l2 h3 F2 N2
    refine wpAny_For ?_ (fun _ => rfl)
    refine wpAny_seal fun QQ hq => ?_
    k_steps
    have hpv' : Rv[(pl : Int).toNat]? = some (.ref r) := by rw [Int.toNat_natCast]; exact hpv
    refine item_listL (l := Rv) (x := .ref r) ⟨_, (N2 (R, listOf Rv.toArray nR) (by k_mem)).1, rfl, _, rfl⟩ (by omega) (by omega) hpv' ?_
    k_steps
    refine item_listL (l := Rv) (x := .ref r) ⟨_, (N2 (R, listOf Rv.toArray nR) (by k_mem)).1, rfl, _, rfl⟩ (by omega) (by omega) hpv' ?_
    k_steps
    refine wpAny_lift (B := leafA) (many_spec (vs := ws) (xs := xs) (n := n) X' T' (fun b o e => F2.keep b o e) (N2 (r, listOf ws.toArray n) (by k_mem)).1 (N2 (r, listOf ws.toArray n) (by k_mem)).2.2 hi (Nat.le_trans hsz3 (by decide)) hv.1 hv.2 fun i tk2 h4 tks2 hi2 hk4 hz4 => ?_) rfl rfl rfl (by show d + 1 ≤ 980; omega) (by show u + 3 ≤ 9800; omega)
    have F3 := F2.keeps hk4
    have N3 := N2.grown hk4
    clear F2 N2
    have hi0 : 0 ≤ i := hi2 ▸ (manyI_bound hv.1).1
    have hi1 : i ≤ xs.length := hi2 ▸ (manyI_bound hv.1).2
    dsimp only
    k_steps
    rename_i D ws5 h5 F5 N5 hI hC hL l5
    have hl5 : h5.IsList D ws5.toArray := ⟨_, (N5 _ (.head _)).1, rfl, _, rfl⟩
    have hDlt : D < h5.objs.size := Heap.lt_size (N5 _ (.head _)).1
    have hwl : ws5.length = (xs.take i.toNat).length := hI.length
    have hLD : D ≠ L' := (N5 _ (.head _)).2.1
    have hL5 : L' < h5.objs.size := F5.ns.lt
    have hnx : nextsOf xs v = (xs.take i.toNat).map (nextOf v) := by unfold nextsOf; rw [hi2]
    have hdrop' : all.drop (pl + 1) = rows := by
      have : all.drop (pl + 1) = (all.drop pl).drop 1 := by rw [List.drop_drop]
      rw [this, hdrop]; rfl
    have hev5 := (N5 (ev, listOf (items.push (.ref D2)) (m + 1)) (by k_mem)).1
    have hevD : ev ≠ D := Nat.ne_of_lt l5.2.2.2
    have hevL : ev ≠ L' := (N5 (ev, listOf (items.push (.ref D2)) (m + 1)) (by k_mem)).2.1
    have hevI : ev ≠ h5.objs.size := Nat.ne_of_lt (Heap.lt_size hev5)
    have hsE : ∀ b o, s.heap.get? b = some o → b ≠ ev → h5.get? b = some o := fun b o e hb => by
      by_cases h1 : b = R
      · subst h1; rw [hR] at e; cases e; exact (N5 (b, listOf Rv.toArray nR) (by k_mem)).1
      by_cases h2 : b = r
      · subst h2; rw [hr] at e; cases e; exact (N5 (b, listOf ws.toArray n) (by k_mem)).1
      · exact F5.keep b o (ge b o e (by simp [h1, h2, hb]))
    have hz5 : s.heap.objs.size ≤ h5.objs.size := fr_size gz F5
    have hzL : s.heap.objs.size ≤ L' := gz ▸ F5.above
    have hroom2 : items.size + 1 + ((nextsOf xs v).flatMap (dueR rows (pl + 1))).length ≤ 1000000 := by
      simp only [dueR, List.length_cons] at hroom; omega
    refine hq _ _ (wpAny_pyIter_list hl5 (codeAny_forLoop (I := fun k s' => ∃ h tk mm j more k', s' = { s with heap := h, toks := tk } ∧ h.Ns L' mm ∧ (∀ y, y ≠ Str.ofString "one" → mm y = List.lookup y [(Str.ofString "rows", Value.ref R), (Str.ofString "place", Value.int pl tp), (Str.ofString "value", Value.int v tv), (Str.ofString "events", Value.ref ev)].reverse) ∧
      h.IsListIter h5.objs.size D j ∧ (∀ b o, h5.get? b = some o → b ≠ L' → b ≠ ev → h.get? b = some o) ∧ h.get? ev = some (listOf (items ++ List.toArray (Value.ref D2 :: more)) k') ∧
      EvsAre h more (((nextsOf xs v).take j).flatMap (dueR rows (pl + 1))) ∧ j ≤ ws5.length ∧ k = ws5.length + 1 - j ∧ h5.objs.size < h.objs.size) ?_ (ws5.length + 1) ?_ (fun _ => rfl)))
    · clear hq
      rintro k s' ⟨h, tk, mm, j, more, k', rfl, hns, hmm, hit, hk5, hevh, hevs, hj, rfl, hz⟩
      have hlh : h.IsList D ws5.toArray := by obtain ⟨o, ho, r⟩ := hl5; exact ⟨o, hk5 D o ho hLD (Ne.symm hevD), r⟩
      have hIL : h5.objs.size ≠ L' := Nat.ne_of_gt hL5
      by_cases hlt' : j < ws5.length
      · obtain ⟨a, ta, ha, hja⟩ := ints_at (j := j) (v := ws5[j]) hI (by simp [hlt'])
        have hjv : ws5.toArray[j]? = some (.int a ta) := by rw [List.getElem?_toArray, ← hja]; simp [hlt']
        refine wpAny_pyNext_list_item hit hlh (x := .int a ta) hjv fun h6 hit6 hs6 => ?_
        dsimp only
        have hns6 : h6.Ns L' mm := hns.sameBut hs6 (Ne.symm hIL)
        refine wpAny_assign_Name (wpAny_storeName_local rfl hns6 (fun h7 hn7 hs7 => ?_) rfl)
        have hns7 : h7.Ns L' (fun y => if y = Str.ofString "one" then some (.int a ta) else List.lookup y [(Str.ofString "rows", Value.ref R), (Str.ofString "place", Value.int pl tp), (Str.ofString "value", Value.int v tv), (Str.ofString "events", Value.ref ev)].reverse) := by
          have e : (fun y => if y = Str.ofString "one" then some (Value.int a ta) else mm y) = fun y => if y = Str.ofString "one" then some (.int a ta) else List.lookup y [(Str.ofString "rows", Value.ref R), (Str.ofString "place", Value.int pl tp), (Str.ofString "value", Value.int v tv), (Str.ofString "events", Value.ref ev)].reverse := by
            funext y
            by_cases hy : y = Str.ofString "one"
            · simp only [hy, if_true]
            · simp only [hy, if_false]; exact hmm y hy
          rw [← e]; exact hn7
        have hk7 : ∀ b o, h.get? b = some o → b ≠ h5.objs.size → b ≠ L' → h7.get? b = some o := fun b o e h1 h2 => hs7.extBut b o h2 (hs6.extBut b o h1 e)
        have hk57 : ∀ b o, h5.get? b = some o → b ≠ L' → b ≠ ev → h7.get? b = some o := fun b o e h1 h2 => hk7 b o (hk5 b o e h1 h2) (Nat.ne_of_lt (Heap.lt_size e)) h1
        have F7 : Fr g L' h7 (fun y => if y = Str.ofString "one" then some (.int a ta) else List.lookup y [(Str.ofString "rows", Value.ref R), (Str.ofString "place", Value.int pl tp), (Str.ofString "value", Value.int v tv), (Str.ofString "events", Value.ref ev)].reverse) :=
          ⟨hns7, fun b o e => hk57 b o (F5.keep b o e) (fun q => absurd (Heap.lt_size e) (q ▸ Nat.not_lt.mpr F5.above)) (fun q => by rw [q, (N5 (ev, listOf (items.push (.ref D2)) (m + 1)) (by k_mem)).2.2] at e; cases e), F5.above⟩
        have hev7 : h7.get? ev = some (listOf (items ++ List.toArray (Value.ref D2 :: more)) k') := hk7 _ _ hevh hevI hevL
        have N7 : News g L' h7 [(R, listOf Rv.toArray nR), (ev, listOf (items ++ List.toArray (Value.ref D2 :: more)) k')] := by
          intro q hq'
          rcases List.mem_cons.mp hq' with rfl | hq'
          · have := N5 (R, listOf Rv.toArray nR) (by k_mem)
            exact ⟨hk57 _ _ this.1 this.2.1 hne, this.2⟩
          · rw [List.mem_singleton] at hq'
            subst hq'
            exact ⟨hev7, (N5 (ev, listOf (items.push (.ref D2)) (m + 1)) (by k_mem)).2⟩
        have hlmore : more.length = (((nextsOf xs v).take j).flatMap (dueR rows (pl + 1))).length := hevs.length
        have hdone : ((nextsOf xs v).take (j + 1)).flatMap (dueR rows (pl + 1)) = ((nextsOf xs v).take j).flatMap (dueR rows (pl + 1)) ++ dueR rows (pl + 1) (nextOf v a) := by
          rw [List.take_add_one, List.flatMap_append, hnx, List.getElem?_map, ha]; simp
        have hroom3 : (items ++ List.toArray (Value.ref D2 :: more)).size + (dueR rows (pl + 1) (nextOf v a)).length ≤ 1000000 := by
          have e1 : (items ++ List.toArray (Value.ref D2 :: more)).size = items.size + 1 + more.length := by simp; omega
          have e2 : (((nextsOf xs v).take (j + 1)).flatMap (dueR rows (pl + 1))).length ≤ ((nextsOf xs v).flatMap (dueR rows (pl + 1))).length := by
            conv => rhs; rw [← List.take_append_drop (j + 1) (nextsOf xs v), List.flatMap_append, List.length_append]
            exact Nat.le_add_right _ _
          rw [hdone, List.length_append] at e2
          omega
        refine wpAny_seal fun Q2 hq2 => ?_
        clear hQ F5 N5
        k_steps
        have hsf : hb.StaysIn h7 := fun b o e => F7.keep b o (sg b o e)
        have hrows7 : RowsAre h7 hb.objs.size Rv all := by
          refine hrows7' hrows fun r' ws' n' e hmem => ?_
          exact hk57 _ _ (hsE _ _ e (hrne r' _ n' e hmem)) (fun q => absurd (Heap.lt_size e) (q ▸ Nat.not_lt.mpr hzL)) (hrne r' _ n' e hmem)
        have hcast : ((pl : Int) + 1) = ((pl + 1 : Nat) : Int) := by push_cast; rfl
        rw [hcast]
        have hlrow : rows.length + 1 = (xs :: rows).length := rfl
        have hR7 : h7.get? R = some (listOf Rv.toArray nR) := (N7 _ (.head _)).1
        refine wpAny_lift (B := plainA (d + 10) (u + 100)) (ih (pl + 1) (d + 10) (u + 100) { s with heap := h7, toks := _ } (nextOf v a) _ _ k' _ _ _ hdrop' (by omega) (by omega) (by omega) (okV_next v a) hsf hR7 hrows7 (fun r' ws' n' e hmem => ?_) hev7 hroom3 fun h8 tk8 more2 k8 hk8 hz8 hev8 hevs8 => ?_) rfl rfl rfl (by show d + 1 ≤ d + 10; omega) (by show u + 3 ≤ u + 100; omega)
        · obtain ⟨j', hj'⟩ := List.getElem?_of_mem hmem
          obtain ⟨n2, ws2, e2⟩ := rowsAre_mem hrows hmem
          exact hrne r' _ n2 e2 hmem
        · have hk78 : ∀ b o, h7.get? b = some o → b ≠ ev → h8.get? b = some o := hk8
          clear ih
          k_steps
          refine hq2 _ _ ?_
          refine ⟨ws5.length + 1 - (j + 1), by omega, h8, tk8, _, j + 1, more ++ more2, k8, rfl, hns7.at' (fun o e => hk78 _ o e (Ne.symm hevL)), fun y hy => by simp only [hy, if_false], ?_, fun b o e h1 h2 => hk78 b o (hk57 b o e h1 h2) h2, ?_, ?_, hlt', rfl, ?_⟩
          · obtain ⟨oi, hoi, ri⟩ := hit6
            exact ⟨oi, hk78 _ _ (hs7.extBut _ _ hIL hoi) (Ne.symm hevI), ri⟩
          · rw [hev8]; simp
          · rw [hdone]
            refine EvsAre.append (hevs.stay fun b o e ht => hk78 b o (hk7 b o e ?_ ?_) ?_) hevs8
            · intro q; subst q; exact iter_not_tup hit o e ht
            · intro q; subst q; exact ns_not_tup hns o e ht
            · intro q; subst q
              rw [hevh] at e; cases e
              obtain ⟨_, _, q2⟩ := ht
              have q3 : Value.type "list" = Value.type "tuple" := congrArg Obj.cls q2
              injection q3 with q4
              exact absurd q4 (by decide)
          · obtain ⟨oi, hoi, ri⟩ := hit6
            exact Heap.lt_size (hk78 _ _ (hs7.extBut _ _ hIL hoi) (Ne.symm hevI))
      · have hje : j = ws5.length := by omega
        refine next_end rfl hit hlh (by rw [List.getElem?_toArray, List.getElem?_eq_none_iff]; omega) fun h6 hx6 hz6 => ?_
        dsimp only
        have hevh6 : h6.get? ev = some (listOf (items ++ List.toArray (Value.ref D2 :: more)) k') := hx6 _ _ hevI hevh
        have hlast : ((nextsOf xs v).take j).flatMap (dueR rows (pl + 1)) = (nextsOf xs v).flatMap (dueR rows (pl + 1)) := by
          rw [List.take_of_length_le]
          rw [hnx, List.length_map]; omega
        have hT6 : TupStay h h6 := fun b o e ht => hx6 b o (fun q => by subst q; exact iter_not_tup hit o e ht) e
        have h56 : ∀ b o, h5.get? b = some o → b ≠ L' → b ≠ ev → h6.get? b = some o := fun b o e h1 h2 => hx6 b o (Nat.ne_of_lt (Heap.lt_size e)) (hk5 b o e h1 h2)
        clear ih
        k_steps
        refine hQ h6 tk (.ref D2 :: more) k' (fun b o e hb => h56 b o (hsE b o e hb) (fun q => absurd (Heap.lt_size e) (q ▸ Nat.not_lt.mpr hzL)) hb) (Nat.le_trans hz5 (Nat.le_of_lt (Nat.lt_of_lt_of_le hz hz6))) hevh6 ⟨⟨D2, _, _, _, rfl, h56 _ _ (N5 (D2, _) (.tail _ (.head _))).1 (N5 (D2, _) (.tail _ (.head _))).2.1 (fun q => ?_)⟩, ?_⟩
        · exact absurd l2.2.2 (q ▸ Nat.lt_irrefl _)
        · rw [← hlast]; exact hevs.stay hT6
    · have e5 : (h5.push { cls := .type "list_iterator", data := .fields #[.ref D, .int 0 0] }).objs.size = h5.objs.size + 1 := Heap.size_push ..
      refine ⟨_, _, _, 0, [], m + 1, rfl, F5.ns.push _, fun _ _ => rfl, ⟨_, Heap.get?_push_size _ rfl, rfl, rfl⟩, fun b o e _ _ => Heap.get?_push_of_some _ e, ?_, trivial, Nat.zero_le _, rfl, ?_⟩
      · have := Heap.get?_push_of_some { cls := .type "list_iterator", data := .fields #[.ref D, .int 0 0] } hev5
        rw [this]; simp
      · rw [e5]; exact Nat.lt_succ_self _
end Mine
end

section
open PySem PySem.W PyProof.Rows PySem.Spec PySem.Calls
set_option maxRecDepth 100000
set_option maxHeartbeats 1000000
namespace Mine
theorem regK6 : PySem.Challenge.rw_ak0011_01 = PySem.Challenge.rw_ak0011_01 ∧ hd.heap_39 = hd.heap_39 := by k_fill; exact ⟨rfl, rfl⟩

def lawDef : Option (List Stmt × Scope) := match PySem.Challenge.pw_ak0011_01.main.body with
  | [_, _, _, _, _, _, _, _, .FunctionDef _ _ b _ _ _ sc _ _ _] => some (b, sc)
  | _ => none
def lawBody : List Stmt := match lawDef with
  | some (b, _) => b
  | _ => []
def lawScope : Scope := match lawDef with
  | some (_, sc) => sc
  | _ => {kind := .function, names := [], isGenerator := true, isCoroutine := false}
abbrev lawEnv (L : Addr) : Env := envOfC (Str.ofString "law") lawScope L 61 (.ref 60)
def lawPre1 : List Stmt := lawBody.take 2

def rowsComp : Expr := match lawBody with
  | _ :: _ :: .Assign _ e _ :: _ => e
  | _ => .Name "" ⟨0,0,0,0⟩
def outerScope : Scope := match rowsComp with
  | .ListComp _ _ sc _ => sc
  | _ => {kind := .function, names := [], isGenerator := true, isCoroutine := false}
def innerComp : Expr := match rowsComp with
  | .ListComp e _ _ _ => e
  | _ => .Name "" ⟨0,0,0,0⟩

theorem news_head {hb h h' : Heap} {L S : Addr} {o o' : Obj} {rest : List (Addr × Obj)} (N : News hb L h ((S, o) :: rest)) (hS' : h'.get? S = some o') (hk : ∀ b o, h.get? b = some o → b ≠ S → h'.get? b = some o) (hne : ∀ q ∈ rest, q.1 ≠ S) : News hb L h' ((S, o') :: rest) := by
  intro q hq
  rcases List.mem_cons.mp hq with rfl | hq
  · exact ⟨hS', (N _ (.head _)).2⟩
  · exact ⟨hk _ _ (N q (.tail _ hq)).1 (hne q hq), (N q (.tail _ hq)).2⟩
theorem fr_head {hb h h' : Heap} {L S : Addr} {m} (F : Fr hb L h m) (hSL : S ≠ L) (hS0 : hb.get? S = none) (hk : ∀ b o, h.get? b = some o → b ≠ S → h'.get? b = some o) : Fr hb L h' m :=
  ⟨F.ns.at' fun o e => hk L o e (Ne.symm hSL), fun b o e => hk b o (F.keep b o e) (fun q => by rw [q, hS0] at e; cases e), F.above⟩

theorem rowsAre_snoc {h : Heap} {n₀ : Nat} : ∀ {vs rows} {r : Addr} {ws : List Value} {xs : List Int} {n : Nat}, RowsAre h n₀ vs rows → h.get? r = some (listOf ws.toArray n) → IntsAre ws xs → xs.length ≤ 3 → n₀ ≤ r → RowsAre h n₀ (vs ++ [.ref r]) (rows ++ [xs])
  | _, _, _, _, _, _, .nil, a, b, c, d => .cons a b c d .nil
  | _, _, _, _, _, _, .cons a' b' c' d' t, a, b, c, d => .cons a' b' c' d' (rowsAre_snoc t a b c d)

theorem inner_row {prog : Program} {w : World} {p : Program} {loose : List Str} {mean : ExcName → Option Value} {mg mb : Str → Option Value} {hb : Heap} {s : Shared} {L C1 S D : Addr} {oS : Obj} {ws : List Value} {zs : List Int} {n n0 : Nat} {c : Int} {tc : Tok} {m : Str → Option Value} {Q : Value → Shared → Prop} {E : Value → Shared → Prop}
    (X : (hd.heap_39 w.params).In hb) (T : Top p loose mean mg mb hb) (F : Fr hb L s.heap m)
    (N : News hb L s.heap [(S, listOf #[.ref D, .int c tc] n), (D, listOf ws.toArray n0), (L + 1, oS)]) (dS : oS.data = .cell (some (.ref S))) (hi : IntsAre ws zs) (hzs : zs.length ≤ 1000) (l1 : @LT.lt Nat _ D S ∧ @LT.lt Nat _ (L + 1) D) (hc : 0 ≤ c)
    (hQ : ∀ Dr ys zs' nr h' tks c' tc' n', h'.get? Dr = some (listOf (List.toArray ys) nr) → IntsAre ys zs' → zs'.length ≤ 3 → s.heap.objs.size ≤ Dr → 0 ≤ c' → h'.get? S = some (listOf #[.ref D, .int c' tc'] n') → (∀ b o, s.heap.get? b = some o → b ≠ S → h'.get? b = some o) → Q (.ref Dr) { s with heap := h', toks := tks }) :
    wpAny (model prog w) bigA (eval innerComp (compEnvC outerScope [(Str.ofString "state", L + 1)] C1 (lawEnv L))) Q E s := by
  simp only [innerComp, outerScope, rowsComp, lawEnv, lawBody, lawScope, lawDef, PySem.Challenge.pw_ak0011_01]
  refine ListComp_J (x := Str.ofString "j") (cl := [(Str.ofString "state", L + 1)]) rfl (by decide) rfl (by decide) rfl ?_ (fun _ => rfl)
  refine wpAny_seal fun QQ hq => ?_
  k_steps
  refine wpAny_lift (B := leafA) (next_spec (vs := ws) (xs := zs) (c := c) X (topRead_of T) (fun b o e => F.keep b o e) (N _ (.head _)).1 (N _ (.head _)).2.2 (N _ (.tail _ (.head _))).1 (N _ (.tail _ (.head _))).2.2 hi hzs l1.1 hc (by decide) fun i ti c2 tc2 n2 h2 tks2 hi0 hi1 hc2 hS2 hk2 hz2 => ?_)
  have N2 := news_head N hS2 hk2 (by
    intro q hq
    simp only [List.mem_cons, List.not_mem_nil, or_false] at hq
    rcases hq with rfl | rfl
    all_goals (show @Ne Nat _ _; omega))
  have F2 := fr_head F (N _ (.head _)).2.1 (N _ (.head _)).2.2 hk2
  have hSL := (N _ (.head _)).2
  clear F N hS2
  dsimp only
  k_steps
  rename_i h3 tk3 t1 u1 v1 hRg F3 N3 hk3
  have hk3 : ∀ b o, h2.get? b = some o → h3.get? b = some o := hk3
  have hz2 : s.heap.objs.size ≤ h2.objs.size := hz2
  have hSlt : S < h3.objs.size := Heap.lt_size (N3 _ (.head _)).1
  have hz3 : h2.objs.size ≤ h3.objs.size := Nat.le_of_lt (Heap.lt_size hRg)
  refine hq _ _ (pyIter_range_J (s₁ := { s with heap := h3, toks := tk3 }) (n := i.toNat) rfl hRg (by omega) (by omega)
    (fun j ys h => (∃ zs', IntsAre ys zs' ∧ zs'.length = j) ∧ (∃ c3 tc3 n3, 0 ≤ c3 ∧ h.get? S = some (listOf #[.ref D, .int c3 tc3] n3)) ∧ (∀ b o, h3.get? b = some o → b ≠ S → h.get? b = some o)) ?_ ?_ ?_ ?_)
  · intro h hk
    exact ⟨⟨[], .nil, rfl⟩, ⟨c2, tc2, n2, hc2, hk _ _ (N3 _ (.head _)).1⟩, fun b o e _ => hk b o e⟩
  · rintro j ys h h' ⟨a, ⟨c3, tc3, n3, a1, a2⟩, a3⟩ hk
    refine ⟨a, ⟨c3, tc3, n3, a1, hk _ _ ?_ ?_ ?_ a2⟩, fun b o e hb => hk b o ?_ ?_ ?_ (a3 b o e hb)⟩
    · exact Nat.ne_of_lt hSlt
    · exact Nat.ne_of_lt (Nat.lt_succ_of_lt hSlt)
    · exact Nat.ne_of_lt (Nat.lt_succ_of_lt (Nat.lt_succ_of_lt hSlt))
    · exact Nat.ne_of_lt (Heap.lt_size e)
    · exact Nat.ne_of_lt (Nat.lt_succ_of_lt (Heap.lt_size e))
    · exact Nat.ne_of_lt (Nat.lt_succ_of_lt (Nat.lt_succ_of_lt (Heap.lt_size e)))
  · rintro j ys h₂ tk₂ tj m₂ E' hj hys ⟨⟨zs', hzi, hzl⟩, ⟨c3, tc3, n3, hc3, hS3⟩, hk5⟩ hns hm
    have hne : ∀ q ∈ [(D, listOf ws.toArray n0), (L + 1, oS)], q.1 ≠ S := by
      intro q hq
      simp only [List.mem_cons, List.not_mem_nil, or_false] at hq
      rcases hq with rfl | rfl
      all_goals (show @Ne Nat _ _; omega)
    have F4 := fr_head F3 hSL.1 hSL.2 hk5
    have N4 := news_head N3 hS3 hk5 hne
    clear F3 N3 hq hQ
    refine wpAny_seal fun Q2 hq2 => ?_
    k_steps
    refine wpAny_lift (B := leafA) (next_spec (vs := ws) (xs := zs) (c := c3) X (topRead_of T) (fun b o e => F4.keep b o e) (N4 _ (.head _)).1 (N4 _ (.head _)).2.2 (N4 _ (.tail _ (.head _))).1 (N4 _ (.tail _ (.head _))).2.2 hi hzs l1.1 hc3 (by decide) fun i' ti' c6 tc6 n6 h6 tks6 hi0' hi1' hc6 hS6 hk6 hz6 => ?_)
    refine hq2 _ _ ⟨h6, tks6, rfl, ⟨⟨zs' ++ [i'], ints_snoc hzi, by rw [List.length_append, hzl]; rfl⟩, ⟨c6, tc6, n6, hc6, hS6⟩, fun b o e hb => hk6 b o (hk5 b o e hb) hb⟩, fun b o hb e => hk6 b o e fun q => ?_⟩
    have hSlt' : @LT.lt Nat _ S h3.objs.size := hSlt
    have q' : @Eq Nat b S := q
    have hb' : @Eq Nat b h3.objs.size ∨ @Eq Nat b (h3.objs.size + 1) ∨ @Eq Nat b (h3.objs.size + 2) := hb
    omega
  · rintro h' tk ys hpl hlen ⟨⟨zs', hzi, hzl⟩, ⟨c3, tc3, n3, hc3, hS3⟩, hk5⟩
    obtain ⟨nr, hpl⟩ := hpl
    refine hQ _ ys zs' nr h' tk c3 tc3 n3 hpl hzi (by omega) ?_ hc3 hS3 fun b o e hb => hk5 b o (hk3 b o (hk2 b o e hb)) hb
    exact Nat.le_succ_of_le (Nat.le_trans hz2 hz3)

theorem rows_comp {prog : Program} {w : World} {p : Program} {loose : List Str} {mean : ExcName → Option Value} {mg mb : Str → Option Value} {hb : Heap} {s : Shared} {L S D : Addr} {oS : Obj} {ws : List Value} {zs : List Int} {n n0 : Nat} {c : Int} {tc : Tok} {m : Str → Option Value} {Q : Value → Shared → Prop} {E : Value → Shared → Prop}
    (X : (hd.heap_39 w.params).In hb) (T : Top p loose mean mg mb hb) (F : Fr hb L s.heap m)
    (N : News hb L s.heap [(S, listOf #[.ref D, .int c tc] n), (D, listOf ws.toArray n0), (L + 1, oS)]) (dS : oS.data = .cell (some (.ref S))) (hi : IntsAre ws zs) (hzs : zs.length ≤ 1000) (l1 : @LT.lt Nat _ D S ∧ @LT.lt Nat _ (L + 1) D) (hc : 0 ≤ c)
    (hQ : ∀ R ys all nR h' tks c' tc' n', h'.get? R = some (listOf (List.toArray ys) nR) → RowsAre h' hb.objs.size ys all → all.length ≤ 3 → (∀ r, Value.ref r ∈ ys → s.heap.objs.size ≤ r ∧ r ≠ R) → s.heap.objs.size ≤ R → 0 ≤ c' → h'.get? S = some (listOf #[.ref D, .int c' tc'] n') → (∀ b o, s.heap.get? b = some o → b ≠ S → h'.get? b = some o) → Q (.ref R) { s with heap := h', toks := tks }) :
    wpAny (model prog w) bigA (eval rowsComp (lawEnv L)) Q E s := by
  have hinner := @inner_row prog w p loose mean mg mb hb
  rw [show rowsComp = .ListComp innerComp [⟨.Name (Str.ofString "k") ⟨40, 74, 40, 75⟩, (match rowsComp with | .ListComp _ (g :: _) _ _ => g.iter | _ => .Name "" ⟨0,0,0,0⟩), [], 0⟩] outerScope (match rowsComp with | .ListComp _ _ _ q => q | _ => ⟨0,0,0,0⟩) from rfl]
  refine ListComp_J (x := Str.ofString "k") (cl := [(Str.ofString "state", L + 1)]) rfl (by decide) rfl (by decide) rfl ?_ (fun _ => rfl)
  refine wpAny_seal fun QQ hq => ?_
  simp only [rowsComp, lawEnv, lawBody, lawScope, lawDef, PySem.Challenge.pw_ak0011_01]
  clear hinner
  k_steps
  refine wpAny_lift (B := leafA) (next_spec (vs := ws) (xs := zs) (c := c) X (topRead_of T) (fun b o e => F.keep b o e) (N _ (.head _)).1 (N _ (.head _)).2.2 (N _ (.tail _ (.head _))).1 (N _ (.tail _ (.head _))).2.2 hi hzs l1.1 hc (by decide) fun i ti c2 tc2 n2 h2 tks2 hi0 hi1 hc2 hS2 hk2 hz2 => ?_)
  have N2 := news_head N hS2 hk2 (by
    intro q hq
    simp only [List.mem_cons, List.not_mem_nil, or_false] at hq
    rcases hq with rfl | rfl
    all_goals (show @Ne Nat _ _; omega))
  have F2 := fr_head F (N _ (.head _)).2.1 (N _ (.head _)).2.2 hk2
  have hSL := (N _ (.head _)).2
  have hLz : hb.objs.size ≤ s.heap.objs.size := Nat.le_trans F.above (Nat.le_of_lt F.ns.lt)
  clear F N hS2
  dsimp only
  k_steps
  rename_i h3 tk3 t1 u1 v1 hRg F3 N3 hk3
  have hk3 : ∀ b o, h2.get? b = some o → h3.get? b = some o := hk3
  have hz2 : s.heap.objs.size ≤ h2.objs.size := hz2
  have hSlt : S < h3.objs.size := Heap.lt_size (N3 _ (.head _)).1
  have hz3 : h2.objs.size ≤ h3.objs.size := Nat.le_of_lt (Heap.lt_size hRg)
  have hz23 : s.heap.objs.size ≤ h3.objs.size := Nat.le_trans hz2 hz3
  refine hq _ _ (pyIter_range_J (s₁ := { s with heap := h3, toks := tk3 }) (n := i.toNat) rfl hRg (by omega) (by omega)
    (fun j ys h => (∃ all, RowsAre h hb.objs.size ys all ∧ all.length = j ∧ ∀ r, Value.ref r ∈ ys → h3.objs.size + 2 < r) ∧ (∃ c3 tc3 n3, 0 ≤ c3 ∧ h.get? S = some (listOf #[.ref D, .int c3 tc3] n3)) ∧ (∀ b o, h3.get? b = some o → b ≠ S → h.get? b = some o)) ?_ ?_ ?_ ?_)
  · intro h hk
    exact ⟨⟨[], .nil, rfl, fun r hr => by cases hr⟩, ⟨c2, tc2, n2, hc2, hk _ _ (N3 _ (.head _)).1⟩, fun b o e _ => hk b o e⟩
  · rintro j ys h h' ⟨⟨all, b1, b2, b3⟩, ⟨c3, tc3, n3, a1, a2⟩, a3⟩ hk
    refine ⟨⟨all, hrows7' b1 fun r ws' n' e hm => hk r _ ?_ ?_ ?_ e, b2, b3⟩, ⟨c3, tc3, n3, a1, hk _ _ ?_ ?_ ?_ a2⟩, fun b o e hb => hk b o ?_ ?_ ?_ (a3 b o e hb)⟩
    · exact Nat.ne_of_gt (Nat.lt_trans (Nat.lt_succ_of_lt (Nat.lt_succ_self _)) (b3 r hm))
    · exact Nat.ne_of_gt (Nat.lt_trans (Nat.lt_succ_self _) (b3 r hm))
    · exact Nat.ne_of_gt (b3 r hm)
    · exact Nat.ne_of_lt hSlt
    · exact Nat.ne_of_lt (Nat.lt_succ_of_lt hSlt)
    · exact Nat.ne_of_lt (Nat.lt_succ_of_lt (Nat.lt_succ_of_lt hSlt))
    · exact Nat.ne_of_lt (Heap.lt_size e)
    · exact Nat.ne_of_lt (Nat.lt_succ_of_lt (Heap.lt_size e))
    · exact Nat.ne_of_lt (Nat.lt_succ_of_lt (Nat.lt_succ_of_lt (Heap.lt_size e)))
  · rintro j ys h₂ tk₂ tj m₂ E' hj hys ⟨⟨all, b1, b2, b3⟩, ⟨c3, tc3, n3, hc3, hS3⟩, hk5⟩ hns hm
    have hne : ∀ q ∈ [(D, listOf ws.toArray n0), (L + 1, oS)], q.1 ≠ S := by
      intro q hq
      simp only [List.mem_cons, List.not_mem_nil, or_false] at hq
      rcases hq with rfl | rfl
      all_goals (show @Ne Nat _ _; omega)
    have F4 := fr_head F3 hSL.1 hSL.2 hk5
    have N4 := news_head N3 hS3 hk5 hne
    have hz2 : h3.objs.size + 2 < h₂.objs.size := hns.lt
    refine inner_row (s := { s with heap := h₂, toks := tk₂ }) X T F4 N4 dS hi hzs l1 hc3 fun Dr zs2 zl nr h6 tk6 c6 tc6 n6 g1 g2 g3 g4 g5 g6 g7 => ?_
    refine ⟨h6, tk6, rfl, ⟨⟨all ++ [zl], ?_, by rw [List.length_append, b2]; rfl, ?_⟩, ⟨c6, tc6, n6, g5, g6⟩, fun b o e hb => g7 b o (hk5 b o e hb) hb⟩, fun b o hb e => g7 b o e fun q => ?_⟩
    · refine rowsAre_snoc (hrows7' b1 fun r ws' n' e hm => g7 r _ e (Nat.ne_of_gt (Nat.lt_trans hSlt (Nat.lt_trans (Nat.lt_succ_of_lt (Nat.lt_succ_self _)) (b3 r hm))))) g1 g2 g3 (Nat.le_trans hLz (Nat.le_trans hz23 (Nat.le_trans (Nat.le_of_lt (Nat.lt_succ_of_lt (Nat.lt_succ_self _))) (Nat.le_trans (Nat.le_of_lt hz2) g4))))
    · intro r hr
      rcases List.mem_append.mp hr with hr | hr
      · exact b3 r hr
      · rw [List.mem_singleton] at hr; cases hr
        exact Nat.lt_of_lt_of_le hz2 g4
    · have hSlt' : @LT.lt Nat _ S h3.objs.size := hSlt
      have q' : @Eq Nat b S := q
      have hb' : @Eq Nat b h3.objs.size ∨ @Eq Nat b (h3.objs.size + 1) ∨ @Eq Nat b (h3.objs.size + 2) := hb
      omega
  · rintro h' tk ys hpl hlen ⟨⟨all, b1, b2, b3⟩, ⟨c3, tc3, n3, hc3, hS3⟩, hk5⟩
    obtain ⟨nr, hpl⟩ := hpl
    refine hQ _ ys all nr h' tk c3 tc3 n3 hpl b1 (by omega) (fun r hr => ⟨?_, ?_⟩) ?_ hc3 hS3 fun b o e hb => hk5 b o (hk3 b o (hk2 b o e hb)) hb
    · exact Nat.le_trans hz23 (Nat.le_of_lt (Nat.lt_trans (Nat.lt_succ_of_lt (Nat.lt_succ_self _)) (b3 r hr)))
    · exact Nat.ne_of_gt (Nat.lt_trans (Nat.lt_succ_self _) (b3 r hr))
    · exact Nat.le_succ_of_le hz23
end Mine
end

section
open PySem PySem.W PyProof.Rows PySem.Spec PySem.Calls
set_option maxRecDepth 100000
set_option maxHeartbeats 1000000
namespace Mine
theorem regK7 : PySem.Challenge.rw_ak0011_01 = PySem.Challenge.rw_ak0011_01 ∧ hd.heap_39 = hd.heap_39 := by k_fill; exact ⟨rfl, rfl⟩

theorem FacAt.keepsGe {n₀ : Nat} {h h' : Heap} {f r ev : Addr} {k : Int} (x : FacAt n₀ h f r ev k) (kk : ∀ b o, n₀ ≤ b → h.get? b = some o → h'.get? b = some o) : FacAt n₀ h' f r ev k := by
  obtain ⟨cE, cP, cR, c', doc, pm, ctv, tk, t, oE, oP, oR, oc, vs, a1, a2, a3, a4, a5, a6, a7, a8, a9, a10, b1, b2, b3, b4, b5⟩ := x
  exact ⟨cE, cP, cR, c', doc, pm, ctv, tk, t, oE, oP, oR, oc, vs, kk _ _ b1 a1, kk _ _ b2 a2, a3, a4, kk _ _ b3 a5, a6, kk _ _ b4 a7, a8, kk _ _ b5 a9, a10, b1, b2, b3, b4, b5⟩
theorem FacAt.weaken {n₀ n₁ : Nat} {h : Heap} {f r ev : Addr} {k : Int} (hn : n₁ ≤ n₀) (x : FacAt n₀ h f r ev k) : FacAt n₁ h f r ev k := by
  obtain ⟨cE, cP, cR, c', doc, pm, ctv, tk, t, oE, oP, oR, oc, vs, a1, a2, a3, a4, a5, a6, a7, a8, a9, a10, b1, b2, b3, b4, b5⟩ := x
  exact ⟨cE, cP, cR, c', doc, pm, ctv, tk, t, oE, oP, oR, oc, vs, a1, a2, a3, a4, a5, a6, a7, a8, a9, a10, Nat.le_trans hn b1, Nat.le_trans hn b2, Nat.le_trans hn b3, Nat.le_trans hn b4, Nat.le_trans hn b5⟩
theorem TabSt.keeps {n₀ : Nat} {h h' : Heap} (x : TabSt n₀ h) (k37 : ∀ o, h.get? 37 = some o → h'.get? 37 = some o) (kk : ∀ b o, n₀ ≤ b → h.get? b = some o → h'.get? b = some o) : TabSt n₀ h' := by
  rcases x with x | ⟨c', oc, vs, t, a, b, c, d⟩
  · exact .inl (k37 _ x)
  · exact .inr ⟨c', oc, vs, t, k37 _ a, b, kk _ _ b c, d⟩

theorem pad {hb h : Heap} (st : hb.StaysIn h) : ∃ hx : Heap, hx.objs.size = h.objs.size ∧ ∀ b, hx.get? b = hb.get? b := by
  refine ⟨hideAll h ((List.range h.objs.size).filter fun b => (hb.get? b).isNone), hideAll_size _ _, fun b => ?_⟩
  cases e : hb.get? b with
  | some o =>
    refine hideAll_get _ (st b o e) fun q => ?_
    have := (List.mem_filter.mp q).2
    rw [e] at this; cases this
  | none =>
    by_cases hlt : b < h.objs.size
    · exact hideAll_none _ (List.mem_filter.mpr ⟨List.mem_range.mpr hlt, by rw [e]; rfl⟩)
    · exact Heap.get?_none_of_le (by rw [hideAll_size]; exact Nat.not_lt.mp hlt)

def facsCall : Expr := match lawBody with
  | _ :: _ :: _ :: _ :: _ :: _ :: _ :: _ :: .Assign _ e _ :: _ => e
  | _ => .Name "" ⟨0,0,0,0⟩
def facsComp : Expr := match facsCall with
  | .Call _ [_, e] _ _ => e
  | _ => .Name "" ⟨0,0,0,0⟩
def facsScope : Scope := match facsComp with
  | .ListComp _ _ sc _ => sc
  | _ => {kind := .function, names := [], isGenerator := true, isCoroutine := false}

theorem facs_comp {prog : Program} {w : World} {p : Program} {loose : List Str} {mean : ExcName → Option Value} {mg mb : Str → Option Value} {hb : Heap} {s : Shared} {L R ev : Addr} {oR oE : Obj} {Rv : List Value} {all : List (List Int)} {nR : Nat} {m : Str → Option Value} {Q : Value → Shared → Prop} {E : Value → Shared → Prop}
    (X : (hd.heap_39 w.params).In hb) (T : Top p loose mean mg mb hb) (C : CodeHd hb 41 37) (h370 : hb.get? 37 = none) (F : Fr hb L s.heap m)
    (N : News hb L s.heap [(L + 1 + 1 + 1, oE), (L + 1 + 1, oR), (R, listOf Rv.toArray nR)]) (dR : oR.data = .cell (some (.ref R))) (dE : oE.data = .cell (some (.ref ev))) (h37 : s.heap.get? 37 = some (tabObj #[])) (hL37 : L ≠ 37) (hne37 : @Ne Nat R 37 ∧ @LT.lt Nat _ 37 L)
    (hrows : RowsAre s.heap hb.objs.size Rv all) (hlen : all.length ≤ 3)
    (hQ : ∀ FL ys nF h' tks, h'.get? FL = some (listOf (List.toArray ys) nF) → ys.length = Rv.length → (∀ (k : Nat) f', ys[k]? = some f' → ∃ f r, f' = Value.ref f ∧ Rv[k]? = some (.ref r) ∧ FacAt hb.objs.size h' f r ev k) → s.heap.objs.size ≤ FL → (∃ ps, h'.get? 37 = some (tabObj ps)) → (∀ b o, s.heap.get? b = some o → b ≠ 37 → h'.get? b = some o) → Q (.ref FL) { s with heap := h', toks := tks }) :
    wpAny (model prog w) bigA (eval facsComp (lawEnv L)) Q E s := by
  have hRl : Rv.length ≤ 3 := by rw [hrows.length]; exact hlen
  simp only [facsComp, facsCall, lawEnv, lawBody, lawScope, lawDef, PySem.Challenge.pw_ak0011_01]
  refine ListComp_J (x := Str.ofString "k") (cl := [(Str.ofString "rows", L + 1 + 1), (Str.ofString "events", L + 1 + 1 + 1)]) rfl (by decide) rfl (by decide) rfl ?_ (fun _ => rfl)
  refine wpAny_seal fun QQ hq => ?_
  k_steps
  refine len_list (items := Rv.toArray) ⟨_, (N (R, listOf Rv.toArray nR) (by k_mem)).1, rfl, _, rfl⟩ (by rw [List.size_toArray]; omega) ?_
  rw [List.size_toArray]
  k_steps
  rename_i h3 tk3 t1 u1 v1 hRg F3 N3 hk3
  have hk3 : ∀ b o, s.heap.get? b = some o → h3.get? b = some o := hk3
  have hz3 : s.heap.objs.size ≤ h3.objs.size := Nat.le_of_lt (Heap.lt_size hRg)
  have h373 : h3.get? 37 = some (tabObj #[]) := hk3 _ _ h37
  have h37lt : (37 : Addr) < h3.objs.size := Heap.lt_size h373
  have hrows3 : RowsAre h3 hb.objs.size Rv all := hrows.keeps fun b o e _ => hk3 b o e
  have hz0 : hb.objs.size ≤ h3.objs.size := Nat.le_trans F3.above (Nat.le_of_lt F3.ns.lt)
  obtain ⟨hx, hxz, hxg⟩ := pad (hb := hb) (h := ((h3.push (tabObj #[])).push (tabObj #[])).push (tabObj #[])) fun b o e => Heap.get?_push_of_some _ (Heap.get?_push_of_some _ (Heap.get?_push_of_some _ (F3.keep b o e)))
  have hxz : hx.objs.size = h3.objs.size + 3 := by rw [hxz, Heap.size_push, Heap.size_push, Heap.size_push]
  have Xx : (Mine.hd.heap_39 w.params).In hx := X.keeps fun b o e => (hxg b).trans e
  have Tx : Top p loose mean mg mb hx := T.keeps fun b o e => (hxg b).trans e
  have Cx : CodeHd hx 41 37 := C.keeps fun b o e => (hxg b).trans e
  refine hq _ _ (pyIter_range_J (s₁ := { s with heap := h3, toks := tk3 }) (n := Rv.length) rfl hRg rfl (by omega)
    (fun j ys h => (∀ (k : Nat) f', ys[k]? = some f' → ∃ f r, f' = Value.ref f ∧ Rv[k]? = some (.ref r) ∧ FacAt (h3.objs.size + 3) h f r ev k) ∧ TabSt (h3.objs.size + 3) h ∧ (∀ b o, h3.get? b = some o → b ≠ 37 → h.get? b = some o)) ?_ ?_ ?_ ?_)
  · intro h hk
    exact ⟨fun k f' e => by simp at e, .inl (hk _ _ h373), fun b o e _ => hk b o e⟩
  · rintro j ys h h' ⟨a1, a2, a3⟩ hk
    have hk37 : ∀ o, h.get? 37 = some o → h'.get? 37 = some o := fun o e => hk 37 o (Nat.ne_of_lt h37lt) (Nat.ne_of_lt (Nat.lt_succ_of_lt h37lt)) (Nat.ne_of_lt (Nat.lt_succ_of_lt (Nat.lt_succ_of_lt h37lt))) e
    have u0 : h3.objs.size < h3.objs.size + 3 := Nat.lt_add_of_pos_right (by decide)
    have u1 : h3.objs.size + 1 < h3.objs.size + 3 := Nat.add_lt_add_left (by decide) _
    have u2 : h3.objs.size + 2 < h3.objs.size + 3 := Nat.add_lt_add_left (by decide) _
    have hkge : ∀ b o, h3.objs.size + 3 ≤ b → h.get? b = some o → h'.get? b = some o := fun b o hb e => hk b o (Nat.ne_of_gt (Nat.lt_of_lt_of_le u0 hb)) (Nat.ne_of_gt (Nat.lt_of_lt_of_le u1 hb)) (Nat.ne_of_gt (Nat.lt_of_lt_of_le u2 hb)) e
    refine ⟨fun k f' e => ?_, a2.keeps hk37 hkge, fun b o e hb => hk b o (Nat.ne_of_lt (Heap.lt_size e)) (Nat.ne_of_lt (Nat.lt_succ_of_lt (Heap.lt_size e))) (Nat.ne_of_lt (Nat.lt_succ_of_lt (Nat.lt_succ_of_lt (Heap.lt_size e)))) (a3 b o e hb)⟩
    obtain ⟨f, r, b1, b2, b3⟩ := a1 k f' e
    exact ⟨f, r, b1, b2, b3.keepsGe hkge⟩
  · rintro j ys h₂ tk₂ tj m₂ E' hj hys ⟨a1, a2, a3⟩ hns hm
    have hz2 : h3.objs.size + 2 < h₂.objs.size := hns.lt
    have hne37 : ∀ q ∈ [(L + 1 + 1 + 1, oE), (L + 1 + 1, oR), (R, listOf Rv.toArray nR)], q.1 ≠ 37 := by
      intro q hq
      simp only [List.mem_cons, List.not_mem_nil, or_false] at hq
      rcases hq with rfl | rfl | rfl
      all_goals (show @Ne Nat _ _; omega)
    have F4 : Fr hb L h₂ m := ⟨F3.ns.at' fun o e => a3 L o e hL37, fun b o e => a3 b o (F3.keep b o e) (fun q => by rw [q, h370] at e; cases e), F3.above⟩
    have N4 : News hb L h₂ [(L + 1 + 1 + 1, oE), (L + 1 + 1, oR), (R, listOf Rv.toArray nR)] := fun q hq => ⟨a3 _ _ (N3 q hq).1 (hne37 q hq), (N3 q hq).2⟩
    have hjall : j < all.length := by rw [← hrows.length]; exact hj
    obtain ⟨r, ws, n, hpv, hr, hi, hsz3, hr0⟩ := hrows3.at (p := j) (xs := all[j]) (rest := all.drop (j + 1)) (List.drop_eq_getElem_cons hjall)
    have hpv' : Rv[((j : Nat) : Int).toNat]? = some (.ref r) := by rw [Int.toNat_natCast]; exact hpv
    clear F3 N3 hq hQ
    refine wpAny_seal fun Q2 hq2 => ?_
    k_steps
    refine item_listL (l := Rv) (x := .ref r) ⟨_, (N4 (R, listOf Rv.toArray nR) (by k_mem)).1, rfl, _, rfl⟩ (by omega) (by omega) hpv' ?_
    k_steps
    refine factory_spec (hb := hx) (k := (j : Int)) Xx Tx Cx (fun b o e => F4.keep b o ((hxg b).symm.trans e)) (by rw [hxz]; exact a2) ((hxg 37).trans h370) (by rw [hxz]; exact hz2) fun f h6 tk6 g1 g2 g3 g4 g5 => ?_
    rw [hxz] at g1 g2
    refine hq2 _ _ ⟨h6, tk6, rfl, ⟨fun k f' e => ?_, g2, fun b o e hb => g3 b o (a3 b o e hb) hb⟩, fun b o hb e => g3 b o e fun q => ?_⟩
    · by_cases hk : k < ys.length
      · rw [List.getElem?_append_left hk] at e
        obtain ⟨f1, r1, b1, b2, b3⟩ := a1 k f' e
        exact ⟨f1, r1, b1, b2, b3.keepsGe fun b o hb e => g3 b o e (Nat.ne_of_gt (Nat.lt_of_lt_of_le (Nat.lt_succ_of_lt (Nat.lt_succ_of_lt (Nat.lt_succ_of_lt h37lt))) hb))⟩
      · rw [List.getElem?_append_right (Nat.not_lt.mp hk)] at e
        have hk0 : k - ys.length = 0 := by
          false_or_by_contra
          rename_i hc
          obtain ⟨t, ht⟩ := Nat.exists_eq_succ_of_ne_zero hc
          rw [ht] at e; cases e
        rw [hk0] at e
        have hkj : k = j := by omega
        subst hkj
        cases e
        exact ⟨f, r, rfl, hpv, g1⟩
    · have h37lt' : @LT.lt Nat _ 37 h3.objs.size := h37lt
      have q' : @Eq Nat b 37 := q
      have hb' : @Eq Nat b h3.objs.size ∨ @Eq Nat b (h3.objs.size + 1) ∨ @Eq Nat b (h3.objs.size + 2) := hb
      omega
  · rintro h' tk ys hpl hlen' ⟨a1, a2, a3⟩
    obtain ⟨nr, hpl⟩ := hpl
    refine hQ _ ys nr h' tk hpl hlen' (fun k f' e => ?_) (Nat.le_succ_of_le hz3) (by rcases a2 with a2 | ⟨_, _, _, _, a2, _⟩ <;> exact ⟨_, a2⟩) fun b o e hb => a3 b o (hk3 b o e) hb
    obtain ⟨f1, r1, b1, b2, b3⟩ := a1 k f' e
    exact ⟨f1, r1, b1, b2, b3.weaken (Nat.le_trans hz0 (Nat.le_add_right _ 3))⟩
end Mine
end

section
open PySem PySem.W PyProof.Rows PySem.Spec PySem.Calls
set_option maxRecDepth 100000
set_option maxHeartbeats 1000000
namespace Mine
theorem regK8 : PySem.Challenge.rw_ak0011_01 = PySem.Challenge.rw_ak0011_01 ∧ hd.heap_39 = hd.heap_39 := by k_fill; exact ⟨rfl, rfl⟩

theorem chain_spec {prog : Program} {w : World} {p : Program} {loose : List Str} {mg mb : Str → Option Value} {hb : Heap} {s : Shared} {FL : Addr} {fs : List Value} {nF : Nat} {v : Int} {tv : Tok} {Q E : Value → Shared → Prop}
    (X : (hd.heap_39 w.params).In hb) (T : TopRead p loose mg mb hb) (st : hb.StaysIn s.heap) (hF : s.heap.get? FL = some (listOf fs.toArray nF)) (hF0 : hb.get? FL = none) (hlen : fs.length ≤ 3)
    (hQ : ∀ h₁ tks s' L aT ga tv', (∀ b o, s.heap.get? b = some o → h₁.get? b = some o) → s.heap.objs.size ≤ h₁.objs.size → Made { s with heap := h₁, toks := tks } s' L aT ga v tv' fs → Q (.ref ga) s') :
    wpAny (model prog w) bigA (call (.ref 56) [.int v tv, .ref FL]) Q E s := by
  refine wpAny_call ?_
  match fs, hlen with
  | [], _ =>
    refine enter_def (K := hd.heap_39 w.params) (binds := [(Str.ofString "start", .int v tv), (Str.ofString "factories", .ref FL)]) (news := [(FL, listOf #[] nF)]) X T st (fun q hq => by simp only [List.mem_singleton] at hq; subst hq; exact ⟨hF, hF0⟩) (by k_is) (by k_is) (by decide) (BindsTo.of_eq rfl) (locs rfl) ?_
    intro g L' h₁ sg gs ge gz F' N' l1 X' T'
    k_lt l1
    k_steps
    rename Fr _ _ _ _ => F2
    rename News _ _ _ _ => N2
    exact wpAny_call (chain_make (vs := []) X T (fun b o e => F2.keep b o (sg b o e)) (by exact Nat.le_of_ble_eq_true rfl) (fun s' L aT ga M => hQ _ _ s' L aT ga _ (fr_keep0 ge F2 (N2 (FL, listOf #[] nF) (by k_mem)).1 hF) (fr_size gz F2) M) (by exact Nat.le_of_ble_eq_true rfl))
  | [f0], _ =>
    refine enter_def (K := hd.heap_39 w.params) (binds := [(Str.ofString "start", .int v tv), (Str.ofString "factories", .ref FL)]) (news := [(FL, listOf #[f0] nF)]) X T st (fun q hq => by simp only [List.mem_singleton] at hq; subst hq; exact ⟨hF, hF0⟩) (by k_is) (by k_is) (by decide) (BindsTo.of_eq rfl) (locs rfl) ?_
    intro g L' h₁ sg gs ge gz F' N' l1 X' T'
    k_lt l1
    k_steps
    rename Fr _ _ _ _ => F2
    rename News _ _ _ _ => N2
    exact wpAny_call (chain_make (vs := [f0]) X T (fun b o e => F2.keep b o (sg b o e)) (by exact Nat.le_of_ble_eq_true rfl) (fun s' L aT ga M => hQ _ _ s' L aT ga _ (fr_keep0 ge F2 (N2 (FL, listOf #[f0] nF) (by k_mem)).1 hF) (fr_size gz F2) M) (by exact Nat.le_of_ble_eq_true rfl))
  | [f0, f1], _ =>
    refine enter_def (K := hd.heap_39 w.params) (binds := [(Str.ofString "start", .int v tv), (Str.ofString "factories", .ref FL)]) (news := [(FL, listOf #[f0, f1] nF)]) X T st (fun q hq => by simp only [List.mem_singleton] at hq; subst hq; exact ⟨hF, hF0⟩) (by k_is) (by k_is) (by decide) (BindsTo.of_eq rfl) (locs rfl) ?_
    intro g L' h₁ sg gs ge gz F' N' l1 X' T'
    k_lt l1
    k_steps
    rename Fr _ _ _ _ => F2
    rename News _ _ _ _ => N2
    exact wpAny_call (chain_make (vs := [f0, f1]) X T (fun b o e => F2.keep b o (sg b o e)) (by exact Nat.le_of_ble_eq_true rfl) (fun s' L aT ga M => hQ _ _ s' L aT ga _ (fr_keep0 ge F2 (N2 (FL, listOf #[f0, f1] nF) (by k_mem)).1 hF) (fr_size gz F2) M) (by exact Nat.le_of_ble_eq_true rfl))
  | [f0, f1, f2], _ =>
    refine enter_def (K := hd.heap_39 w.params) (binds := [(Str.ofString "start", .int v tv), (Str.ofString "factories", .ref FL)]) (news := [(FL, listOf #[f0, f1, f2] nF)]) X T st (fun q hq => by simp only [List.mem_singleton] at hq; subst hq; exact ⟨hF, hF0⟩) (by k_is) (by k_is) (by decide) (BindsTo.of_eq rfl) (locs rfl) ?_
    intro g L' h₁ sg gs ge gz F' N' l1 X' T'
    k_lt l1
    k_steps
    rename Fr _ _ _ _ => F2
    rename News _ _ _ _ => N2
    exact wpAny_call (chain_make (vs := [f0, f1, f2]) X T (fun b o e => F2.keep b o (sg b o e)) (by exact Nat.le_of_ble_eq_true rfl) (fun s' L aT ga M => hQ _ _ s' L aT ga _ (fr_keep0 ge F2 (N2 (FL, listOf #[f0, f1, f2] nF) (by k_mem)).1 hF) (fr_size gz F2) M) (by exact Nat.le_of_ble_eq_true rfl))
  | _ :: _ :: _ :: _ :: _, h => exact absurd h (by simp)
end Mine
end

section
open PySem PySem.W PyProof.Rows PySem.Spec PySem.Calls
set_option maxRecDepth 100000
set_option maxHeartbeats 1000000
namespace Mine
theorem regK9 : PySem.Challenge.rw_ak0011_01 = PySem.Challenge.rw_ak0011_01 ∧ hd.heap_39 = hd.heap_39 := by k_fill; exact ⟨rfl, rfl⟩
def lawS0 : Stmt := match lawBody with
  | x :: _ => x
  | _ => .Pass ⟨0,0,0,0⟩
def lawS1 : Stmt := match lawBody with
  | _ :: x :: _ => x
  | _ => .Pass ⟨0,0,0,0⟩
def lawS2 : Stmt := match lawBody with
  | _ :: _ :: x :: _ => x
  | _ => .Pass ⟨0,0,0,0⟩
def lawS3 : Stmt := match lawBody with
  | _ :: _ :: _ :: x :: _ => x
  | _ => .Pass ⟨0,0,0,0⟩
def lawS4 : Stmt := match lawBody with
  | _ :: _ :: _ :: _ :: x :: _ => x
  | _ => .Pass ⟨0,0,0,0⟩
def lawS5 : Stmt := match lawBody with
  | _ :: _ :: _ :: _ :: _ :: x :: _ => x
  | _ => .Pass ⟨0,0,0,0⟩
def lawS6 : Stmt := match lawBody with
  | _ :: _ :: _ :: _ :: _ :: _ :: x :: _ => x
  | _ => .Pass ⟨0,0,0,0⟩
def lawS7 : Stmt := match lawBody with
  | _ :: _ :: _ :: _ :: _ :: _ :: _ :: x :: _ => x
  | _ => .Pass ⟨0,0,0,0⟩
def lawS8 : Stmt := match lawBody with
  | _ :: _ :: _ :: _ :: _ :: _ :: _ :: _ :: x :: _ => x
  | _ => .Pass ⟨0,0,0,0⟩
def lawS9 : Stmt := match lawBody with
  | _ :: _ :: _ :: _ :: _ :: _ :: _ :: _ :: _ :: x :: _ => x
  | _ => .Pass ⟨0,0,0,0⟩
def lawS10 : Stmt := match lawBody with
  | _ :: _ :: _ :: _ :: _ :: _ :: _ :: _ :: _ :: _ :: x :: _ => x
  | _ => .Pass ⟨0,0,0,0⟩
def lawS11 : Stmt := match lawBody with
  | _ :: _ :: _ :: _ :: _ :: _ :: _ :: _ :: _ :: _ :: _ :: x :: _ => x
  | _ => .Pass ⟨0,0,0,0⟩
theorem lawBody_eq : lawBody = [lawS0, lawS1, lawS2, lawS3, lawS4, lawS5, lawS6, lawS7, lawS8, lawS9, lawS10, lawS11] := rfl

theorem wpAny_next {M : Model} {A : Around} {env : Env} {st : Stmt} {rest : List Stmt} {Q : Flow → Shared → Prop} {E : Value → Shared → Prop} {s : Shared}
    (h : ∀ QQ : Flow → Shared → Prop, (∀ s', wpAny M A (execs rest env) Q E s' → QQ .next s') → wpAny M A (exec st env) QQ E s) : wpAny M A (execs (st :: rest) env) Q E s := by
  refine wpAny_execs_cons (wpAny_mono (h (fun f s' => f = .next ∧ wpAny M A (execs rest env) Q E s') fun s' q => ⟨rfl, q⟩) (fun f s' q => ?_) fun _ _ e => e)
  obtain ⟨rfl, q⟩ := q
  exact q

theorem law_a {prog : Program} {w : World} {p : Program} {loose : List Str} {mean : ExcName → Option Value} {mg mb : Str → Option Value} {hb : Heap} {s : Shared} {L sc : Addr} {oS oR oE : Obj} {vs : List Value} {xs : List Int} {n : Nat} {Q : Flow → Shared → Prop} {E : Value → Shared → Prop} {rest : List Stmt}
    (X : (hd.heap_39 w.params).In hb) (T : Top p loose mean mg mb hb) (C : CodeHd hb 41 37) (h370 : hb.get? 37 = none) (F : Fr hb L s.heap (bindL (lawEnv L).kindOf [(Str.ofString "script", .ref sc)] fun _ => none))
    (N : News hb L s.heap [(L + 1 + 1 + 1, oE), (L + 1 + 1, oR), (L + 1, oS), (37, tabObj #[]), (sc, listOf vs.toArray n)]) (dE : oE.data = .cell none) (dR : oR.data = .cell none) (dS : oS.data = .cell none) (hi : IntsAre vs xs) (hxs : xs.length ≤ 63) (l1 : @LT.lt Nat _ 37 L ∧ @LT.lt Nat _ sc L) (hsc : @Ne Nat sc 37)
    (hQ : ∀ st ti D S ws oS' c2 tc2 n2 h5 tk5, okV st → Fr hb L h5 (fun y => if y = Str.ofString "start" then some (.int st ti) else bindL (lawEnv L).kindOf [(Str.ofString "script", .ref sc)] (fun _ => none) y) →
      News hb L h5 [(S, listOf #[.ref D, .int c2 tc2] n2), (D, listOf (List.toArray ws) 0), (L + 1 + 1 + 1, oE), (L + 1 + 1, oR), (L + 1, oS'), (37, tabObj #[]), (sc, listOf vs.toArray n)] → oS'.data = .cell (some (.ref S)) → IntsAre ws (xs.take 60) → 0 ≤ c2 →
      @LT.lt Nat _ D S ∧ @LT.lt Nat _ (L + 1 + 1 + 1) D →
      wpAny (model prog w) bigA (execs rest (lawEnv L)) Q E { s with heap := h5, toks := tk5 }) :
    wpAny (model prog w) bigA (execs (lawS0 :: lawS1 :: rest) (lawEnv L)) Q E s := by
  simp only [lawEnv, lawScope, lawDef, PySem.Challenge.pw_ak0011_01] at F
  refine wpAny_next fun QQ hq => ?_
  simp only [lawS0, lawEnv, lawScope, lawBody, lawDef, PySem.Challenge.pw_ak0011_01]
  k_steps
  rename_i D ws h1 hI hC hL lD S h2 lS h3 oS' F3 N3 dS'
  refine hq _ ?_
  clear hq QQ
  have hzs : (xs.take 60).length ≤ 1000 := Nat.le_trans hL (Nat.le_trans hxs (by decide))
  refine wpAny_next fun QQ hq => ?_
  simp only [lawS1, lawEnv, lawScope, lawBody, lawDef, PySem.Challenge.pw_ak0011_01]
  k_steps
  refine wpAny_lift (B := leafA) (next_spec (vs := ws) (xs := xs.take 60) (c := 0) X (topRead_of T) (fun b o e => F3.keep b o e) (N3 _ (.head _)).1 (N3 _ (.head _)).2.2 (N3 _ (.tail _ (.head _))).1 (N3 _ (.tail _ (.head _))).2.2 hI hzs lS.1 (Int.le_refl 0) (by decide) fun st ti c2 tc2 n2 h4 tks2 hst0 hst1 hc2 hS2 hk2 hz2 => ?_)
  have N4 := news_head N3 hS2 hk2 (by
    intro q hq
    simp only [List.mem_cons, List.not_mem_nil, or_false] at hq
    rcases hq with rfl | rfl | rfl | rfl | rfl | rfl
    all_goals (show @Ne Nat _ _; omega))
  have F4 := fr_head F3 (N3 _ (.head _)).2.1 (N3 _ (.head _)).2.2 hk2
  clear F3 N3 hS2
  dsimp only
  k_steps
  rename_i h5 F5 N5
  refine hq _ ?_
  exact hQ st ti D S ws oS' c2 tc2 n2 h5 _ ⟨hst0, hst1⟩ F5 N5 dS' hI hc2 ⟨lS.1, lD.1⟩

theorem law_b {prog : Program} {w : World} {p : Program} {loose : List Str} {mean : ExcName → Option Value} {mg mb : Str → Option Value} {hb : Heap} {s : Shared} {L sc D S : Addr} {oR oE oS' : Obj} {ws vs : List Value} {zs : List Int} {n n2 : Nat} {c2 : Int} {tc2 : Tok} {m : Str → Option Value} {Q : Flow → Shared → Prop} {E : Value → Shared → Prop} {rest : List Stmt}
    (X : (hd.heap_39 w.params).In hb) (T : Top p loose mean mg mb hb) (F5 : Fr hb L s.heap m)
    (N5 : News hb L s.heap [(S, listOf #[.ref D, .int c2 tc2] n2), (D, listOf ws.toArray 0), (L + 1 + 1 + 1, oE), (L + 1 + 1, oR), (L + 1, oS'), (37, tabObj #[]), (sc, listOf vs.toArray n)]) (dS' : oS'.data = .cell (some (.ref S))) (dR : oR.data = .cell none) (hI : IntsAre ws zs) (hzs : zs.length ≤ 1000) (hc2 : 0 ≤ c2)
    (lS : @LT.lt Nat _ D S ∧ @LT.lt Nat _ (L + 1 + 1 + 1) D) (l1 : @LT.lt Nat _ 37 L ∧ @LT.lt Nat _ sc L)
    (hQ : ∀ R ys all nR h7 tk7 c6 tc6 n6 oR' ex, Fr hb L h7 m → News hb L h7 ((S, listOf #[.ref D, .int c6 tc6] n6) :: (R, listOf (List.toArray ys) nR) :: (D, listOf ws.toArray 0) :: (L + 1 + 1 + 1, oE) :: (L + 1 + 1, oR') :: (L + 1, oS') :: (37, tabObj #[]) :: (sc, listOf vs.toArray n) :: ex) → oR'.data = .cell (some (.ref R)) →
      (∀ q ∈ ex, @Ne Nat q.1 S ∧ @Ne Nat q.1 (L + 1 + 1) ∧ @Ne Nat q.1 (L + 1 + 1 + 1) ∧ @Ne Nat q.1 37) → (∀ h, (∀ q ∈ ex, h.get? q.1 = some q.2) → RowsAre h hb.objs.size ys all) → all.length ≤ 3 → (∀ r, Value.ref r ∈ ys → r ≠ R ∧ ∃ o, (r, o) ∈ ex) → 0 ≤ c6 → @LT.lt Nat _ S R ∧ @LT.lt Nat _ (L + 1 + 1 + 1) R →
      wpAny (model prog w) bigA (execs rest (lawEnv L)) Q E { s with heap := h7, toks := tk7 }) :
    wpAny (model prog w) bigA (execs (lawS2 :: rest) (lawEnv L)) Q E s := by
  refine wpAny_next fun QQ hq => ?_
  obtain ⟨p1, p2, eS2⟩ : ∃ p1 p2, lawS2 = .Assign [.Name (Str.ofString "rows") p1] rowsComp p2 := ⟨_, _, rfl⟩
  rw [eS2]
  refine wpAny_Assign_Name ?_ rfl
  have N5' : News hb L s.heap [(S, listOf #[.ref D, .int c2 tc2] n2), (D, listOf ws.toArray 0), (L + 1, oS')] := by
    intro q hq
    simp only [List.mem_cons, List.not_mem_nil, or_false] at hq
    rcases hq with rfl | rfl | rfl <;> exact N5 _ (by k_mem)
  refine rows_comp X T F5 N5' dS' hI hzs ⟨lS.1, (by omega)⟩ hc2 fun R ys all nR h6 tks6 c6 tc6 n6 hR hrows hall hfr hRz hc6 hS6 hk6 => ?_
  have hlt5 : ∀ {a o}, s.heap.get? a = some o → @LT.lt Nat _ a R := fun e => Nat.lt_of_lt_of_le (Heap.lt_size e) hRz
  have lSR := hlt5 (N5 _ (.head _)).1
  have lER := hlt5 (N5 (L + 1 + 1 + 1, oE) (by k_mem)).1
  have lLR : @LT.lt Nat _ L R := by omega
  have hzb : hb.objs.size ≤ s.heap.objs.size := Nat.le_trans F5.above (Nat.le_of_lt F5.ns.lt)
  have F6 := fr_head F5 (N5 _ (.head _)).2.1 (N5 _ (.head _)).2.2 hk6
  have hne : ∀ q ∈ [(D, listOf ws.toArray 0), (L + 1 + 1 + 1, oE), (L + 1 + 1, oR), (L + 1, oS'), (37, tabObj #[]), (sc, listOf vs.toArray n)], q.1 ≠ S := by
    intro q hq
    simp only [List.mem_cons, List.not_mem_nil, or_false] at hq
    rcases hq with rfl | rfl | rfl | rfl | rfl | rfl
    all_goals (show @Ne Nat _ _; omega)
  have N6 := news_head N5 hS6 hk6 hne
  let ex : List (Addr × Obj) := (others hb h6 L).filter fun q => decide (@Ne Nat q.1 S ∧ @Ne Nat q.1 (L + 1 + 1) ∧ @Ne Nat q.1 (L + 1 + 1 + 1) ∧ @Ne Nat q.1 37)
  have hex : ∀ q ∈ ex, @Ne Nat q.1 S ∧ @Ne Nat q.1 (L + 1 + 1) ∧ @Ne Nat q.1 (L + 1 + 1 + 1) ∧ @Ne Nat q.1 37 := fun q hq => of_decide_eq_true (List.mem_filter.mp hq).2
  have hexN : ∀ q ∈ ex, h6.get? q.1 = some q.2 ∧ q.1 ≠ L ∧ hb.get? q.1 = none := fun q hq => others_news q (List.mem_filter.mp hq).1
  have hexmem : ∀ {a o}, h6.get? a = some o → @LE.le Nat _ s.heap.objs.size a → (a, o) ∈ ex := fun {a o} e hz => by
    have lS5 := Heap.lt_size (N5 _ (.head _)).1
    have lE5 := Heap.lt_size (N5 (L + 1 + 1 + 1, oE) (by k_mem)).1
    have lS5' : @LT.lt Nat _ S s.heap.objs.size := lS5
    have lE5' : @LT.lt Nat _ (L + 1 + 1 + 1) s.heap.objs.size := lE5
    refine List.mem_filter.mpr ⟨others_mem e (fun q => ?_) (Heap.get?_none_of_le (Nat.le_trans hzb hz)), decide_eq_true ?_⟩
    · have q' : @Eq Nat a L := q
      omega
    · show @Ne Nat a S ∧ @Ne Nat a (L + 1 + 1) ∧ @Ne Nat a (L + 1 + 1 + 1) ∧ @Ne Nat a 37
      omega
  have hRn : R ≠ L ∧ hb.get? R = none := ⟨Nat.ne_of_gt lLR, Heap.get?_none_of_le (Nat.le_trans hzb hRz)⟩
  refine wpAny_storeName_cell (env := lawEnv L) (c := L + 1 + 1) rfl rfl rfl ⟨oR, (N6 (L + 1 + 1, oR) (by k_mem)).1, dR⟩ fun h7 hv7 hs7 => ?_
  obtain ⟨oR', hoR', dR'⟩ := hv7
  refine hq _ ?_
  have hk7 : ∀ b o, h6.get? b = some o → b ≠ L + 1 + 1 → h7.get? b = some o := fun b o e hb => hs7.extBut b o hb e
  have F7 := fr_head F6 (N6 (L + 1 + 1, oR) (by k_mem)).2.1 (N6 (L + 1 + 1, oR) (by k_mem)).2.2 hk7
  refine hQ R ys all nR h7 tks6 c6 tc6 n6 oR' ex F7 ?_ dR' hex (fun h hh => ?_) hall (fun r hr => ⟨(hfr r hr).2, ?_⟩) hc6 ⟨lSR, lER⟩
  · have key : ∀ {a o}, h6.get? a = some o → (a ≠ L ∧ hb.get? a = none) → @Ne Nat a (L + 1 + 1) → h7.get? a = some o ∧ a ≠ L ∧ hb.get? a = none := fun e1 e2 e3 => ⟨hk7 _ _ e1 e3, e2⟩
    intro q hq
    rcases List.mem_cons.mp hq with rfl | hq
    · exact key (N6 _ (.head _)).1 (N6 _ (.head _)).2 (by show @Ne Nat S _; omega)
    rcases List.mem_cons.mp hq with rfl | hq
    · exact key hR hRn (by show @Ne Nat R _; omega)
    rcases List.mem_cons.mp hq with rfl | hq
    · exact key (N6 (D, listOf ws.toArray 0) (by k_mem)).1 (N6 (D, listOf ws.toArray 0) (by k_mem)).2 (by show @Ne Nat D _; omega)
    rcases List.mem_cons.mp hq with rfl | hq
    · exact key (N6 (L + 1 + 1 + 1, oE) (by k_mem)).1 (N6 (L + 1 + 1 + 1, oE) (by k_mem)).2 (by show @Ne Nat (L + 1 + 1 + 1) _; omega)
    rcases List.mem_cons.mp hq with rfl | hq
    · exact ⟨hoR', (N6 (L + 1 + 1, oR) (by k_mem)).2⟩
    rcases List.mem_cons.mp hq with rfl | hq
    · exact key (N6 (L + 1, oS') (by k_mem)).1 (N6 (L + 1, oS') (by k_mem)).2 (by show @Ne Nat (L + 1) _; omega)
    rcases List.mem_cons.mp hq with rfl | hq
    · exact key (N6 (37, tabObj #[]) (by k_mem)).1 (N6 (37, tabObj #[]) (by k_mem)).2 (by show @Ne Nat 37 _; omega)
    rcases List.mem_cons.mp hq with rfl | hq
    · exact key (N6 (sc, listOf vs.toArray n) (by k_mem)).1 (N6 (sc, listOf vs.toArray n) (by k_mem)).2 (by show @Ne Nat sc _; omega)
    · exact key (hexN q hq).1 (hexN q hq).2 (hex q hq).2.1
  · exact hrows7' hrows fun r ws' n' e hm => hh (r, _) (hexmem e (hfr r hm).1)
  · obtain ⟨n', ws', e⟩ := rowsAre_mem hrows hr
    exact ⟨_, hexmem e (hfr r hr).1⟩
end Mine
end

section
open PySem PySem.W PyProof.Rows PySem.Spec PySem.Calls
set_option maxRecDepth 100000
set_option maxHeartbeats 1000000
namespace Mine
theorem regK10 : PySem.Challenge.rw_ak0011_01 = PySem.Challenge.rw_ak0011_01 ∧ hd.heap_39 = hd.heap_39 := by k_fill; exact ⟨rfl, rfl⟩

abbrev m0 (L sc : Addr) : Str → Option Value := bindL (lawEnv L).kindOf [(Str.ofString "script", .ref sc)] fun _ => none
abbrev m1 (L sc : Addr) (st : Int) (ti : Tok) : Str → Option Value := fun y => if y = Str.ofString "start" then some (.int st ti) else m0 L sc y
abbrev m2 (L sc : Addr) (st : Int) (ti : Tok) (bd : Int) (tb : Tok) : Str → Option Value := fun y => if y = Str.ofString "bound" then some (.int bd tb) else m1 L sc st ti y
abbrev m3 (L sc : Addr) (st : Int) (ti : Tok) (bd : Int) (tb : Tok) (du : Addr) : Str → Option Value := fun y => if y = Str.ofString "due" then some (.ref du) else m2 L sc st ti bd tb y
abbrev m4 (L sc : Addr) (st : Int) (ti : Tok) (bd : Int) (tb : Tok) (du : Addr) (tt : Tok) : Str → Option Value := fun y => if y = Str.ofString "taken" then some (.int 0 tt) else m3 L sc st ti bd tb du y

theorem allLt_to {d : Addr} : ∀ {l : List (Addr × Obj)}, AllLt d l → ∀ q ∈ l, q.1 < d
  | [], _, _, h => nomatch h
  | _ :: _, h, q, hq => by
    rcases List.mem_cons.mp hq with rfl | hq
    · exact h.1
    · exact allLt_to h.2 q hq

theorem flatMap_len {α β : Type} {f : α → List β} {b : Nat} : ∀ (l : List α), (∀ x ∈ l, (f x).length ≤ b) → (l.flatMap f).length ≤ l.length * b
  | [], _ => by simp
  | x :: l, h => by
    rw [List.flatMap_cons, List.length_append, List.length_cons, Nat.succ_mul]
    have h1 := h x (.head _)
    have h2 := flatMap_len l fun y hy => h y (.tail _ hy)
    omega
theorem dueR_len : ∀ (rows : List (List Int)) (p : Nat) (v : Int), (∀ xs ∈ rows, xs.length ≤ 3) → (dueR rows p v).length ≤ 4 ^ rows.length
  | [], _, _, _ => Nat.le_refl _
  | xs :: rows, p, v, h => by
    have h1 := flatMap_len (f := dueR rows (p + 1)) (b := 4 ^ rows.length) (nextsOf xs v) fun y _ => dueR_len rows (p + 1) y fun xs hx => h xs (.tail _ hx)
    have h2 : (nextsOf xs v).length ≤ 3 := by
      unfold nextsOf
      rw [List.length_map, List.length_take]
      exact Nat.le_trans (Nat.min_le_right _ _) (h xs (.head _))
    have h3 : (nextsOf xs v).length * 4 ^ rows.length ≤ 3 * 4 ^ rows.length := Nat.mul_le_mul_right _ h2
    have h4 : 1 ≤ 4 ^ rows.length := Nat.one_le_pow _ _ (by decide)
    simp only [dueR, List.length_cons, Nat.pow_succ]
    omega
theorem rowsAre_small {h : Heap} {n₀ : Nat} : ∀ {vs rows}, RowsAre h n₀ vs rows → ∀ xs ∈ rows, xs.length ≤ 3
  | _, _, .cons _ _ c _ t, xs, hx => by
    rcases List.mem_cons.mp hx with rfl | hx
    · exact c
    · exact rowsAre_small t xs hx

theorem law_c1 {prog : Program} {w : World} {p : Program} {loose : List Str} {mean : ExcName → Option Value} {mg mb : Str → Option Value} {hb : Heap} {s : Shared} {L sc D S R : Addr} {oR oE oS : Obj} {ws vs ys : List Value} {zs : List Int} {n n6 nR : Nat} {c6 : Int} {tc6 : Tok} {st : Int} {ti : Tok} {ex : List (Addr × Obj)} {Q : Flow → Shared → Prop} {E : Value → Shared → Prop} {rest : List Stmt}
    (X : (hd.heap_39 w.params).In hb) (T : Top p loose mean mg mb hb) (F : Fr hb L s.heap (m1 L sc st ti))
    (N : News hb L s.heap ((S, listOf #[.ref D, .int c6 tc6] n6) :: (R, listOf ys.toArray nR) :: (D, listOf ws.toArray 0) :: (L + 1 + 1 + 1, oE) :: (L + 1 + 1, oR) :: (L + 1, oS) :: (37, tabObj #[]) :: (sc, listOf vs.toArray n) :: ex)) (dS : oS.data = .cell (some (.ref S))) (hI : IntsAre ws zs) (hzs : zs.length ≤ 1000) (hc : 0 ≤ c6)
    (hex : ∀ q ∈ ex, @Ne Nat q.1 S) (lS : @LT.lt Nat _ D S ∧ @LT.lt Nat _ (L + 1 + 1 + 1) D) (l1 : @LT.lt Nat _ 37 L ∧ @LT.lt Nat _ sc L) (lR : @LT.lt Nat _ S R)
    (hQ : ∀ bd tb du h tk c7 tc7 n7, 1 ≤ bd → bd ≤ 30 → Fr hb L h (m3 L sc st ti bd tb du) → News hb L h ((du, listOf #[] 0) :: (S, listOf #[.ref D, .int c7 tc7] n7) :: (R, listOf ys.toArray nR) :: (D, listOf ws.toArray 0) :: (L + 1 + 1 + 1, oE) :: (L + 1 + 1, oR) :: (L + 1, oS) :: (37, tabObj #[]) :: (sc, listOf vs.toArray n) :: ex) →
      (∀ q ∈ ex, q.1 < du) → @LT.lt Nat _ R du →
      wpAny (model prog w) bigA (execs rest (lawEnv L)) Q E { s with heap := h, toks := tk }) :
    wpAny (model prog w) bigA (execs (lawS3 :: lawS4 :: rest) (lawEnv L)) Q E s := by
  delta m1 m0 at F
  simp only [lawEnv, lawScope, lawDef, PySem.Challenge.pw_ak0011_01] at F
  refine wpAny_next fun QQ hq => ?_
  simp only [lawS3, lawEnv, lawScope, lawBody, lawDef, PySem.Challenge.pw_ak0011_01]
  k_steps
  refine wpAny_lift (B := leafA) (next_spec (vs := ws) (xs := zs) (c := c6) X (topRead_of T) (fun b o e => F.keep b o e) (N _ (.head _)).1 (N _ (.head _)).2.2 (N (D, listOf ws.toArray 0) (by k_mem)).1 (N (D, listOf ws.toArray 0) (by k_mem)).2.2 hI hzs lS.1 hc (by decide) fun b0 tb0 c7 tc7 n7 h4 tks2 hb0 hb1 hc7 hS2 hk2 hz2 => ?_)
  have N4 := news_head N hS2 hk2 (by
    intro q hq
    simp only [List.mem_cons] at hq
    rcases hq with rfl | rfl | rfl | rfl | rfl | rfl | rfl | hq
    · show @Ne Nat _ _; omega
    · show @Ne Nat _ _; omega
    · show @Ne Nat _ _; omega
    · show @Ne Nat _ _; omega
    · show @Ne Nat _ _; omega
    · show @Ne Nat _ _; omega
    · show @Ne Nat _ _; omega
    · exact hex q hq)
  have F4 := fr_head F (N _ (.head _)).2.1 (N _ (.head _)).2.2 hk2
  clear F N hS2
  dsimp only
  k_steps
  rename Fr _ _ _ _ => F5
  rename News _ _ _ _ => N5
  refine hq _ ?_
  clear hq QQ
  refine wpAny_next fun QQ hq => ?_
  simp only [lawS4, lawEnv, lawScope, lawBody, lawDef, PySem.Challenge.pw_ak0011_01]
  k_steps
  rename Fr _ _ _ _ => F6
  rename News _ _ _ _ => N6
  refine hq _ ?_
  rename_i du h9 l9 h10
  exact hQ (1 + b0) _ du h10 _ c7 tc7 n7 (by omega) (by omega) F6 N6 (allLt_to l9.2.2.2.2.2.2.2.2) l9.2.1

theorem tup_list {vs n} : ¬ TupO (listOf vs n) := by
  rintro ⟨_, _, q⟩
  have q3 : Value.type "list" = Value.type "tuple" := congrArg Obj.cls q
  injection q3 with q4
  exact absurd q4 (by decide)

theorem law_c2 {prog : Program} {w : World} {p : Program} {loose : List Str} {mean : ExcName → Option Value} {mg mb : Str → Option Value} {hb : Heap} {s : Shared} {L sc S D R du : Addr} {oR oE oS : Obj} {ws vs ys : List Value} {all : List (List Int)} {n n7 nR : Nat} {c7 : Int} {tc7 : Tok} {st : Int} {ti : Tok} {bd : Int} {tb : Tok} {ex : List (Addr × Obj)} {Q : Flow → Shared → Prop} {E : Value → Shared → Prop} {rest : List Stmt}
    (X : (hd.heap_39 w.params).In hb) (T : Top p loose mean mg mb hb) (hst : okV st) (F : Fr hb L s.heap (m3 L sc st ti bd tb du))
    (N : News hb L s.heap ((du, listOf #[] 0) :: (S, listOf #[.ref D, .int c7 tc7] n7) :: (R, listOf ys.toArray nR) :: (D, listOf ws.toArray 0) :: (L + 1 + 1 + 1, oE) :: (L + 1 + 1, oR) :: (L + 1, oS) :: (37, tabObj #[]) :: (sc, listOf vs.toArray n) :: ex)) (dR : oR.data = .cell (some (.ref R))) (dE : oE.data = .cell none)
    (hrows : ∀ h, (∀ q ∈ ex, h.get? q.1 = some q.2) → RowsAre h hb.objs.size ys all) (hall : all.length ≤ 3) (hRr : ∀ r, Value.ref r ∈ ys → r ≠ R ∧ ∃ o, (r, o) ∈ ex) (hexd : ∀ q ∈ ex, q.1 < du) (l1 : @LT.lt Nat _ 37 L ∧ @LT.lt Nat _ sc L) (lR : @LT.lt Nat _ (L + 1 + 1 + 1) R ∧ @LT.lt Nat _ R du)
    (hQ : ∀ more kd h tk ex2, Fr hb L h (m3 L sc st ti bd tb du) → News hb L h ((L + 1 + 1 + 1, oE) :: (L + 1 + 1, oR) :: (R, listOf ys.toArray nR) :: (du, listOf (List.toArray more) kd) :: (37, tabObj #[]) :: (sc, listOf vs.toArray n) :: ex2) →
      (∀ q ∈ ex2, @Ne Nat q.1 (L + 1 + 1 + 1) ∧ @Ne Nat q.1 37) → (∀ h', hb.StaysIn h' → (∀ q ∈ ex2, h'.get? q.1 = some q.2) → RowsAre h' hb.objs.size ys all ∧ EvsAre h' more (dueR all 0 st)) →
      wpAny (model prog w) bigA (execs rest (lawEnv L)) Q E { s with heap := h, toks := tk }) :
    wpAny (model prog w) bigA (execs (lawS5 :: rest) (lawEnv L)) Q E s := by
  have F0 := F
  delta m3 m2 m1 m0 at F
  simp only [lawEnv, lawScope, lawDef, PySem.Challenge.pw_ak0011_01] at F
  refine wpAny_next fun QQ hq => ?_
  simp only [lawS5, lawEnv, lawScope, lawBody, lawDef, PySem.Challenge.pw_ak0011_01]
  have hrw : RowsAre s.heap hb.objs.size ys all := hrows _ fun q hq => (N q (by
    refine List.mem_append_right [(du, listOf #[] 0), (S, listOf #[.ref D, .int c7 tc7] n7), (R, listOf ys.toArray nR), (D, listOf ws.toArray 0), (L + 1 + 1 + 1, oE), (L + 1 + 1, oR), (L + 1, oS), (37, tabObj #[]), (sc, listOf vs.toArray n)] hq)).1
  have hzb : hb.objs.size ≤ L := F.above
  k_steps
  have hRL : @LT.lt Nat _ L R := by omega
  have hR0 : hb.objs.size ≤ R := Nat.le_trans hzb (Nat.le_of_lt hRL)
  have hdu0 : hb.objs.size ≤ du := Nat.le_trans hR0 (Nat.le_of_lt lR.2)
  have hyl := hrw.length
  have hsmall := rowsAre_small hrw
  have hdl := dueR_len all 0 st hsmall
  have h4 : 4 ^ all.length ≤ 64 := by
    have : 4 ^ all.length ≤ 4 ^ 3 := Nat.pow_le_pow_right (by decide) hall
    exact this
  have hduS : s.heap.get? du = some (listOf #[] 0) := (N _ (.head _)).1
  refine walk_spec (mean := mean) (all := all) (Rv := ys) (nR := nR) X (topRead_of T) hR0 hdu0 (by omega) (by omega) all 0 900 9000 { s with toks := s.toks + 1 } st ti s.toks 0 #[] (fun _ => QQ Flow.next) E rfl (Nat.zero_le _) (by omega) (by omega) hst (fun b o e => F.keep b o e) (N (R, listOf ys.toArray nR) (by k_mem)).1 hrw (fun r ws' n' e hm q => ?_) hduS (by show 0 + _ ≤ _; omega) fun h8 tk8 more k8 hk8 hz8 hdu8 hevs => ?_
  · obtain ⟨o, ho⟩ := (hRr r hm).2
    exact absurd (hexd _ ho) (q ▸ Nat.lt_irrefl _)
  have hk8 : ∀ b o, s.heap.get? b = some o → b ≠ du → h8.get? b = some o := hk8
  refine hq _ ?_
  have F8 := fr_head F0 (N _ (.head _)).2.1 (N _ (.head _)).2.2 hk8
  let ex2 : List (Addr × Obj) := (others hb h8 L).filter fun q => decide (@Ne Nat q.1 (L + 1 + 1 + 1) ∧ @Ne Nat q.1 37)
  have hex2 : ∀ q ∈ ex2, @Ne Nat q.1 (L + 1 + 1 + 1) ∧ @Ne Nat q.1 37 := fun q hq => of_decide_eq_true (List.mem_filter.mp hq).2
  have hex2N : ∀ q ∈ ex2, h8.get? q.1 = some q.2 ∧ q.1 ≠ L ∧ hb.get? q.1 = none := fun q hq => others_news q (List.mem_filter.mp hq).1
  have hkeep : ∀ h', hb.StaysIn h' → (∀ q ∈ ex2, h'.get? q.1 = some q.2) → ∀ b o, h8.get? b = some o → b ≠ L → @Ne Nat b (L + 1 + 1 + 1) → @Ne Nat b 37 → h'.get? b = some o := fun h' hs hh b o e b1 b2 b3 => by
    cases e0 : hb.get? b with
    | some o' =>
      have := F8.keep b o' e0
      rw [e] at this; cases this
      exact hs b _ e0
    | none => exact hh (b, o) (List.mem_filter.mpr ⟨others_mem e b1 e0, decide_eq_true ⟨b2, b3⟩⟩)
  have hne : ∀ {a o}, (a, o) ∈ [(L + 1 + 1 + 1, oE), (L + 1 + 1, oR), (R, listOf ys.toArray nR), (37, tabObj #[]), (sc, listOf vs.toArray n)] → a ≠ du := fun {a o} hq => by
    simp only [List.mem_cons, List.not_mem_nil, or_false, Prod.mk.injEq] at hq
    rcases hq with ⟨rfl, _⟩ | ⟨rfl, _⟩ | ⟨rfl, _⟩ | ⟨rfl, _⟩ | ⟨rfl, _⟩
    all_goals (show @Ne Nat _ _; omega)
  refine hQ more k8 h8 tk8 ex2 F8 ?_ hex2 fun h' hs hh => ⟨?_, ?_⟩
  · intro q hq
    rcases List.mem_cons.mp hq with rfl | hq
    · have := N (L + 1 + 1 + 1, oE) (by k_mem); exact ⟨hk8 _ _ this.1 (hne (o := oE) (by simp)), this.2⟩
    rcases List.mem_cons.mp hq with rfl | hq
    · have := N (L + 1 + 1, oR) (by k_mem); exact ⟨hk8 _ _ this.1 (hne (o := oR) (by simp)), this.2⟩
    rcases List.mem_cons.mp hq with rfl | hq
    · have := N (R, listOf ys.toArray nR) (by k_mem); exact ⟨hk8 _ _ this.1 (hne (o := listOf ys.toArray nR) (by simp)), this.2⟩
    rcases List.mem_cons.mp hq with rfl | hq
    · exact ⟨by simpa using hdu8, (N _ (.head _)).2⟩
    rcases List.mem_cons.mp hq with rfl | hq
    · have := N (37, tabObj #[]) (by k_mem); exact ⟨hk8 _ _ this.1 (hne (o := tabObj #[]) (by simp)), this.2⟩
    rcases List.mem_cons.mp hq with rfl | hq
    · have := N (sc, listOf vs.toArray n) (by k_mem); exact ⟨hk8 _ _ this.1 (hne (o := listOf vs.toArray n) (by simp)), this.2⟩
    · exact hex2N q hq
  · refine hrows7' hrw fun r ws' n' e hm => ?_
    obtain ⟨o, ho⟩ := (hRr r hm).2
    have hNr := N (r, o) (List.mem_append_right [(du, listOf #[] 0), (S, listOf #[.ref D, .int c7 tc7] n7), (R, listOf ys.toArray nR), (D, listOf ws.toArray 0), (L + 1 + 1 + 1, oE), (L + 1 + 1, oR), (L + 1, oS), (37, tabObj #[]), (sc, listOf vs.toArray n)] ho)
    have hrd : r ≠ du := fun q => absurd (hexd _ ho) (q ▸ Nat.lt_irrefl _)
    refine hkeep h' hs hh r _ (hk8 _ _ e hrd) hNr.2.1 (fun q => ?_) (fun q => ?_)
    · have q' : r = L + 1 + 1 + 1 := q
      have := (N (L + 1 + 1 + 1, oE) (by k_mem)).1
      rw [← q', e] at this; cases this; cases dE
    · have q' : r = 37 := q
      have := (N (37, tabObj #[]) (by k_mem)).1
      rw [← q', e] at this; cases this
  · refine hevs.stay fun b o e ht => hkeep h' hs hh b o e (fun q => ?_) (fun q => ?_) (fun q => ?_)
    · subst q; exact ns_not_tup F8.ns o e ht
    · have q' : b = L + 1 + 1 + 1 := q
      have := hk8 _ _ (N (L + 1 + 1 + 1, oE) (by k_mem)).1 (hne (o := oE) (by simp))
      rw [← q', e] at this; cases this
      obtain ⟨_, _, rfl⟩ := ht; cases dE
    · have q' : b = 37 := q
      have := hk8 _ _ (N (37, tabObj #[]) (by k_mem)).1 (hne (o := tabObj #[]) (by simp))
      rw [← q', e] at this; cases this
      obtain ⟨_, _, q2⟩ := ht; cases q2
end Mine
end

section
open PySem PySem.W PyProof.Rows PySem.Spec PySem.Calls
set_option maxRecDepth 100000
set_option maxHeartbeats 1000000
namespace Mine
theorem regK11 : PySem.Challenge.rw_ak0011_01 = PySem.Challenge.rw_ak0011_01 ∧ hd.heap_39 = hd.heap_39 := by k_fill; exact ⟨rfl, rfl⟩

theorem law_c3 {prog : Program} {w : World} {p : Program} {loose : List Str} {mean : ExcName → Option Value} {mg mb : Str → Option Value} {hb : Heap} {s : Shared} {L sc R du : Addr} {oR oE : Obj} {vs ys more : List Value} {n nR kd : Nat} {st : Int} {ti : Tok} {bd : Int} {tb : Tok} {ex : List (Addr × Obj)} {Q : Flow → Shared → Prop} {E : Value → Shared → Prop} {rest : List Stmt}
    (X : (hd.heap_39 w.params).In hb) (T : Top p loose mean mg mb hb) (F : Fr hb L s.heap (m3 L sc st ti bd tb du))
    (N : News hb L s.heap ((L + 1 + 1 + 1, oE) :: (L + 1 + 1, oR) :: (R, listOf ys.toArray nR) :: (du, listOf more.toArray kd) :: (37, tabObj #[]) :: (sc, listOf vs.toArray n) :: ex)) (dE : oE.data = .cell none) (hex : ∀ q ∈ ex, @Ne Nat q.1 (L + 1 + 1 + 1))
    (l1 : @LT.lt Nat _ 37 L ∧ @LT.lt Nat _ sc L) (lR : @LT.lt Nat _ (L + 1 + 1 + 1) R ∧ @LT.lt Nat _ R du)
    (hQ : ∀ ev tt h tk oE', Fr hb L h (m4 L sc st ti bd tb du tt) → News hb L h ((ev, listOf #[] 0) :: (L + 1 + 1 + 1, oE') :: (L + 1 + 1, oR) :: (R, listOf ys.toArray nR) :: (du, listOf more.toArray kd) :: (37, tabObj #[]) :: (sc, listOf vs.toArray n) :: ex) → oE'.data = .cell (some (.ref ev)) →
      (∀ q ∈ ex, q.1 < ev) → @LT.lt Nat _ du ev →
      wpAny (model prog w) bigA (execs rest (lawEnv L)) Q E { s with heap := h, toks := tk }) :
    wpAny (model prog w) bigA (execs (lawS6 :: lawS7 :: rest) (lawEnv L)) Q E s := by
  have F0 := F
  delta m3 m2 m1 m0 at F
  simp only [lawEnv, lawScope, lawDef, PySem.Challenge.pw_ak0011_01] at F
  refine wpAny_next fun QQ hq => ?_
  simp only [lawS6, lawEnv, lawScope, lawBody, lawDef, PySem.Challenge.pw_ak0011_01]
  k_steps
  rename_i ev h1 F1 N1 lv
  refine wpAny_storeName_cell (env := lawEnv L) (c := L + 1 + 1 + 1) rfl rfl rfl ⟨oE, (N1 (L + 1 + 1 + 1, oE) (by k_mem)).1, dE⟩ fun h2 hv2 hs2 => ?_
  obtain ⟨oE', hoE', dE'⟩ := hv2
  refine hq _ ?_
  have hk2 : ∀ b o, h1.get? b = some o → b ≠ L + 1 + 1 + 1 → h2.get? b = some o := fun b o e hb => hs2.extBut b o hb e
  have F2 := fr_head F1 (N1 (L + 1 + 1 + 1, oE) (by k_mem)).2.1 (N1 (L + 1 + 1 + 1, oE) (by k_mem)).2.2 hk2
  have key : ∀ {a o}, (a, o) ∈ ((ev, listOf #[] 0) :: (L + 1 + 1 + 1, oE) :: (L + 1 + 1, oR) :: (R, listOf ys.toArray nR) :: (du, listOf more.toArray kd) :: (37, tabObj #[]) :: (sc, listOf vs.toArray n) :: ex) → @Ne Nat a (L + 1 + 1 + 1) → h2.get? a = some o ∧ a ≠ L ∧ hb.get? a = none := fun hm hn => ⟨hk2 _ _ (N1 _ hm).1 hn, (N1 _ hm).2⟩
  have N2 : News hb L h2 ((ev, listOf #[] 0) :: (L + 1 + 1 + 1, oE') :: (L + 1 + 1, oR) :: (R, listOf ys.toArray nR) :: (du, listOf more.toArray kd) :: (37, tabObj #[]) :: (sc, listOf vs.toArray n) :: ex) := by
    intro q hq
    rcases List.mem_cons.mp hq with rfl | hq
    · exact key (by k_mem) (by omega)
    rcases List.mem_cons.mp hq with rfl | hq
    · exact ⟨hoE', (N1 (L + 1 + 1 + 1, oE) (by k_mem)).2⟩
    rcases List.mem_cons.mp hq with rfl | hq
    · exact key (by k_mem) (by omega)
    rcases List.mem_cons.mp hq with rfl | hq
    · exact key (by k_mem) (by omega)
    rcases List.mem_cons.mp hq with rfl | hq
    · exact key (by k_mem) (by omega)
    rcases List.mem_cons.mp hq with rfl | hq
    · exact key (by k_mem) (by omega)
    rcases List.mem_cons.mp hq with rfl | hq
    · exact key (by k_mem) (by omega)
    · exact key (List.mem_append_right [(ev, listOf #[] 0), (L + 1 + 1 + 1, oE), (L + 1 + 1, oR), (R, listOf ys.toArray nR), (du, listOf more.toArray kd), (37, tabObj #[]), (sc, listOf vs.toArray n)] hq) (hex q hq)
  clear hq QQ F1 N1 key
  refine wpAny_next fun QQ hq => ?_
  try delta m3 m2 m1 m0 at F2
  try simp only [lawEnv, lawScope, lawDef, PySem.Challenge.pw_ak0011_01] at F2
  simp only [lawS7, lawEnv, lawScope, lawBody, lawDef, PySem.Challenge.pw_ak0011_01]
  k_steps
  rename Fr _ _ _ _ => F4
  rename News _ _ _ _ => N4
  refine hq _ ?_
  exact hQ ev _ _ _ oE' F4 N4 dE' (allLt_to lv.2.2.2.2.2.2) lv.2.2.2.1

theorem build_facs {prog : Program} {w : World} {p : Program} {loose : List Str} {mean : ExcName → Option Value} {mg mb : Str → Option Value} {hb hg : Heap} {ev : Addr}
    (X : (hd.heap_39 w.params).In hb) (T : Top p loose mean mg mb hb) (C : CodeHd hb 41 37) (stg : hb.StaysIn hg) (hev0 : hb.objs.size ≤ ev) (hevg : hg.get? ev = none) :
    ∀ (rows : List (List Int)) (k0 : Nat) (fs rv : List Value), fs.length = rv.length → RowsAre hg hb.objs.size rv rows → (∀ (k : Nat) f', fs[k]? = some f' → ∃ f r, f' = Value.ref f ∧ rv[k]? = some (.ref r) ∧ FacAt hb.objs.size hg f r ev ((k0 + k : Nat) : Int)) →
      ∃ Fs : List Fac, Fs.map (fun F => Value.ref F.f) = fs ∧ Fs.length = rows.length ∧ (∀ F ∈ Fs, FacOk prog w hg ev F) ∧ ∀ v, due Fs v = dueR rows k0 v := by
  intro rows
  induction rows with
  | nil =>
    intro k0 fs rv hl hr hf
    cases hr
    refine ⟨[], ?_, rfl, fun F h => (nomatch h), fun v => rfl⟩
    exact (List.eq_nil_of_length_eq_zero hl).symm
  | cons xs rows ih =>
    intro k0 fs rv hl hr hf
    cases hr with
    | @cons r ws _ n rest _ a b c d t =>
      match fs, hl, hf with
      | f1 :: fs, hl, hf =>
        obtain ⟨f, r', rfl, e1, fa⟩ := hf 0 f1 rfl
        cases e1
        obtain ⟨Fs, h1, h2, h3, h4⟩ := ih (k0 + 1) fs rest (Nat.succ.inj hl) t fun k f' e => by
          obtain ⟨f, r, e1, e2, e3⟩ := hf (k + 1) f' e
          exact ⟨f, r, e1, e2, by rw [show k0 + 1 + k = k0 + (k + 1) by omega]; exact e3⟩
        refine ⟨⟨f, k0, nextsOf xs⟩ :: Fs, by rw [List.map_cons, h1], by rw [List.length_cons, List.length_cons, h2], fun F hF => ?_, fun v => ?_⟩
        · rcases List.mem_cons.mp hF with rfl | hF
          · exact fac_ok X T C stg fa a d b c hev0 hevg
          · exact h3 F hF
        · show _ :: _ = _ :: _
          congr 1
          have : due Fs = dueR rows (k0 + 1) := funext h4
          rw [this]
end Mine
end

section
open PySem PySem.W PyProof.Rows PySem.Spec PySem.Calls
set_option maxRecDepth 100000
set_option maxHeartbeats 1000000
namespace Mine
theorem regK12 : PySem.Challenge.rw_ak0011_01 = PySem.Challenge.rw_ak0011_01 ∧ hd.heap_39 = hd.heap_39 := by k_fill; exact ⟨rfl, rfl⟩

abbrev m5 (L sc : Addr) (st : Int) (ti : Tok) (bd : Int) (tb : Tok) (du : Addr) (tt : Tok) (ch : Addr) : Str → Option Value := fun y => if y = Str.ofString "chain" then some (.ref ch) else m4 L sc st ti bd tb du tt y

theorem FacAt.keepsD {n₀ : Nat} {h h' : Heap} {f r ev : Addr} {k : Int} (x : FacAt n₀ h f r ev k) (kk : ∀ b o, h.get? b = some o → (∀ es ep, o.data ≠ .dict es ep) → (∀ its n, o.data ≠ .seq its n) → h'.get? b = some o) : FacAt n₀ h' f r ev k := by
  obtain ⟨cE, cP, cR, c', doc, pm, ctv, tk, t, oE, oP, oR, oc, vs, a1, a2, a3, a4, a5, a6, a7, a8, a9, a10, b1, b2, b3, b4, b5⟩ := x
  exact ⟨cE, cP, cR, c', doc, pm, ctv, tk, t, oE, oP, oR, oc, vs, kk _ _ a1 (fun _ _ q => by cases q) (fun _ _ q => by cases q), kk _ _ a2 (fun _ _ q => by rw [a3] at q; cases q) (fun _ _ q => by rw [a3] at q; cases q), a3, a4,
    kk _ _ a5 (fun _ _ q => by rw [a6] at q; cases q) (fun _ _ q => by rw [a6] at q; cases q), a6, kk _ _ a7 (fun _ _ q => by rw [a8] at q; cases q) (fun _ _ q => by rw [a8] at q; cases q), a8, kk _ _ a9 (fun _ _ q => by rw [a10] at q; cases q) (fun _ _ q => by rw [a10] at q; cases q), a10, b1, b2, b3, b4, b5⟩

theorem law_d {prog : Program} {w : World} {p : Program} {loose : List Str} {mean : ExcName → Option Value} {mg mb : Str → Option Value} {hb : Heap} {s : Shared} {L sc R du ev : Addr} {oR oE : Obj} {vs ys more : List Value} {all : List (List Int)} {n nR kd : Nat} {st : Int} {ti tt : Tok} {bd : Int} {tb : Tok} {ex : List (Addr × Obj)} {Q : Flow → Shared → Prop} {E : Value → Shared → Prop} {rest : List Stmt}
    (X : (hd.heap_39 w.params).In hb) (T : Top p loose mean mg mb hb) (C : CodeHd hb 41 37) (h370 : hb.get? 37 = none) (F : Fr hb L s.heap (m4 L sc st ti bd tb du tt))
    (N : News hb L s.heap ((ev, listOf #[] 0) :: (L + 1 + 1 + 1, oE) :: (L + 1 + 1, oR) :: (R, listOf ys.toArray nR) :: (du, listOf more.toArray kd) :: (37, tabObj #[]) :: (sc, listOf vs.toArray n) :: ex)) (dR : oR.data = .cell (some (.ref R))) (dE : oE.data = .cell (some (.ref ev))) (hex : ∀ q ∈ ex, @Ne Nat q.1 37) (hexe : ∀ q ∈ ex, q.1 < ev)
    (hrows : ∀ h', hb.StaysIn h' → (∀ q ∈ ex, h'.get? q.1 = some q.2) → RowsAre h' hb.objs.size ys all) (hall : all.length ≤ 3)
    (l1 : @LT.lt Nat _ 37 L ∧ @LT.lt Nat _ sc L) (lR : @LT.lt Nat _ (L + 1 + 1 + 1) R ∧ @LT.lt Nat _ R du ∧ @LT.lt Nat _ du ev) (hsc : @Ne Nat sc 37)
    (hQ : ∀ h₁ tk₁ s₂ Lg aT ga tv Fs, Fr hb L h₁ (m4 L sc st ti bd tb du tt) → News hb L h₁ ((ev, listOf #[] 0) :: (L + 1 + 1 + 1, oE) :: (L + 1 + 1, oR) :: (R, listOf ys.toArray nR) :: (du, listOf more.toArray kd) :: (sc, listOf vs.toArray n) :: ex) → (∃ ps, h₁.get? 37 = some (tabObj ps)) →
      Made { s with heap := h₁, toks := tk₁ } s₂ Lg aT ga st tv (Fs.map fun F => Value.ref F.f) → Fs.length ≤ 3 → (∀ v, due Fs v = dueR all 0 v) → (∀ F ∈ Fs, FacOk prog w (hideAll h₁ [L, ev]) ev F) →
      ∀ h₃, h₃.Ns L (m5 L sc st ti bd tb du tt ga) → Heap.SameBut L s₂.heap h₃ →
      wpAny (model prog w) bigA (execs rest (lawEnv L)) Q E { s₂ with heap := h₃, toks := s₂.toks + 1 }) :
    wpAny (model prog w) bigA (execs (lawS8 :: rest) (lawEnv L)) Q E s := by
  have F0 := F
  have hev0 : hb.objs.size ≤ ev := Nat.le_trans F0.above (Nat.le_of_lt (by show @LT.lt Nat _ L ev; omega))
  have hrw : RowsAre s.heap hb.objs.size ys all := hrows _ (fun b o e => F.keep b o e) fun q hq => (N q (List.mem_append_right [(ev, listOf #[] 0), (L + 1 + 1 + 1, oE), (L + 1 + 1, oR), (R, listOf ys.toArray nR), (du, listOf more.toArray kd), (37, tabObj #[]), (sc, listOf vs.toArray n)] hq)).1
  delta m4 m3 m2 m1 m0 at F
  simp only [lawEnv, lawScope, lawDef, PySem.Challenge.pw_ak0011_01] at F
  refine wpAny_next fun QQ hq => ?_
  obtain ⟨p1, p2, p3, p4, p5, eS8⟩ : ∃ p1 p2 p3 p4 p5, lawS8 = .Assign [.Name (Str.ofString "chain") p1] (.Call (.Name (Str.ofString "_law_chain") p2) [.Name (Str.ofString "start") p3, facsComp] [] p4) p5 := ⟨_, _, _, _, _, rfl⟩
  rw [eS8]
  simp only [lawEnv, lawScope, lawDef, PySem.Challenge.pw_ak0011_01]
  iterate 7 (first | walk1 | (dsimp only; walk1))
  have h37 := (N (37, tabObj #[]) (by k_mem)).1
  have NC : News hb L s.heap [(L + 1 + 1 + 1, oE), (L + 1 + 1, oR), (R, listOf ys.toArray nR)] := by
    intro q hq
    simp only [List.mem_cons, List.not_mem_nil, or_false] at hq
    rcases hq with rfl | rfl | rfl <;> exact N _ (by k_mem)
  have hL37 : L ≠ 37 := by show @Ne Nat L 37; omega
  show wpAny _ _ (eval facsComp (lawEnv L)) _ _ _
  refine facs_comp (all := all) X T C h370 F0 NC dR dE h37 hL37 ⟨by omega, l1.1⟩ hrw hall fun FL fs nF h6 tk6 hFL hfl hfacs hFz h376 hk6 => ?_
  have hne : ∀ {a o}, (a, o) ∈ ((ev, listOf #[] 0) :: (L + 1 + 1 + 1, oE) :: (L + 1 + 1, oR) :: (R, listOf ys.toArray nR) :: (du, listOf more.toArray kd) :: (sc, listOf vs.toArray n) :: ex) → a ≠ 37 := fun {a o} hq => by
    simp only [List.mem_cons, Prod.mk.injEq] at hq
    rcases hq with ⟨rfl, _⟩ | ⟨rfl, _⟩ | ⟨rfl, _⟩ | ⟨rfl, _⟩ | ⟨rfl, _⟩ | ⟨rfl, _⟩ | hq
    · show @Ne Nat _ _; omega
    · show @Ne Nat _ _; omega
    · show @Ne Nat _ _; omega
    · show @Ne Nat _ _; omega
    · show @Ne Nat _ _; omega
    · exact hsc
    · exact hex _ hq
  have hsub : ∀ {q : Addr × Obj}, q ∈ ((ev, listOf #[] 0) :: (L + 1 + 1 + 1, oE) :: (L + 1 + 1, oR) :: (R, listOf ys.toArray nR) :: (du, listOf more.toArray kd) :: (sc, listOf vs.toArray n) :: ex) → q ∈ ((ev, listOf #[] 0) :: (L + 1 + 1 + 1, oE) :: (L + 1 + 1, oR) :: (R, listOf ys.toArray nR) :: (du, listOf more.toArray kd) :: (37, tabObj #[]) :: (sc, listOf vs.toArray n) :: ex) := fun {q} hq => by
    simp only [List.mem_cons] at hq ⊢
    rcases hq with h | h | h | h | h | h | h <;> simp [h]
  have N6 : News hb L h6 ((ev, listOf #[] 0) :: (L + 1 + 1 + 1, oE) :: (L + 1 + 1, oR) :: (R, listOf ys.toArray nR) :: (du, listOf more.toArray kd) :: (sc, listOf vs.toArray n) :: ex) := fun q hq => ⟨hk6 _ _ (N q (hsub hq)).1 (hne (a := q.1) (o := q.2) hq), (N q (hsub hq)).2⟩
  have F6 := fr_head F0 (Ne.symm hL37) h370 hk6
  have hz0 : hb.objs.size ≤ s.heap.objs.size := Nat.le_trans F0.above (Nat.le_of_lt F0.ns.lt)
  have hLFL : @LT.lt Nat _ L FL := Nat.lt_of_lt_of_le F0.ns.lt hFz
  clear F N F0 NC
  k_steps
  refine chain_spec (hb := hb) (s := { s with heap := h6, toks := tk6 }) X (topRead_of T) (fun b o e => F6.keep b o e) hFL (Heap.get?_none_of_le (Nat.le_trans hz0 hFz)) (by rw [hfl, hrw.length]; exact hall) fun h₁ tks s' Lg aT ga tv' hk1 hz1 M => ?_
  have hk1 : ∀ b o, h6.get? b = some o → h₁.get? b = some o := hk1
  have F1 : Fr hb L h₁ (m4 L sc st ti bd tb du tt) := F6.keeps hk1
  have N1 : News hb L h₁ ((ev, listOf #[] 0) :: (L + 1 + 1 + 1, oE) :: (L + 1 + 1, oR) :: (R, listOf ys.toArray nR) :: (du, listOf more.toArray kd) :: (sc, listOf vs.toArray n) :: ex) := fun q hq => ⟨hk1 _ _ (N6 q hq).1, (N6 q hq).2⟩
  have hLn : L ∉ [L, ev] → False := fun h => h (.head _)
  have hgk : ∀ b o, h₁.get? b = some o → b ≠ L → b ≠ ev → (hideAll h₁ [L, ev]).get? b = some o := fun b o e b1 b2 => hideAll_get _ e (by simp [b1, b2])
  have hevN := N1 _ (.head _)
  have stg : hb.StaysIn (hideAll h₁ [L, ev]) := fun b o e => hgk b o (F1.keep b o e) (fun q => absurd (Heap.lt_size e) (q ▸ Nat.not_lt.mpr F1.above)) (fun q => by rw [q, hevN.2.2] at e; cases e)
  obtain ⟨Fs, hFs1, hFs2, hFs3, hFs4⟩ := build_facs (prog := prog) (w := w) (hg := hideAll h₁ [L, ev]) X T C stg hev0 (hideAll_none _ (by simp)) all 0 fs ys hfl
    (hrows _ stg fun q hq => hgk _ _ (N1 q (List.mem_append_right [(ev, listOf #[] 0), (L + 1 + 1 + 1, oE), (L + 1 + 1, oR), (R, listOf ys.toArray nR), (du, listOf more.toArray kd), (sc, listOf vs.toArray n)] hq)).1 (N1 q (List.mem_append_right [(ev, listOf #[] 0), (L + 1 + 1 + 1, oE), (L + 1 + 1, oR), (R, listOf ys.toArray nR), (du, listOf more.toArray kd), (sc, listOf vs.toArray n)] hq)).2.1 (Nat.ne_of_lt (hexe q hq)))
    (fun k f' e => by
      obtain ⟨f, r, e1, e2, e3⟩ := hfacs k f' e
      refine ⟨f, r, e1, e2, ?_⟩
      rw [Nat.zero_add]
      refine e3.keepsD fun b o e d1 d2 => hgk b o (hk1 b o e) (fun q => ?_) (fun q => ?_)
      · subst q
        obtain ⟨o', es, ep, ho, hd', _⟩ := F6.ns
        rw [e] at ho; cases ho
        exact d1 _ _ hd'
      · subst q
        have := (N6 _ (.head _)).1
        rw [e] at this; cases this
        exact d2 _ _ rfl)
  rw [← hFs1] at M
  obtain ⟨ps, hps⟩ := h376
  have hnsL : s'.heap.Ns L (m4 L sc st ti bd tb du tt) := F1.ns.keeps fun b o e => M.heap b o e
  refine wpAny_storeName_local (env := lawEnv L) rfl hnsL (fun h₃ hn₃ hs₃ => ?_) rfl
  refine hq _ ?_
  exact hQ h₁ tks s' Lg aT ga tv' Fs F1 N1 ⟨ps, hk1 _ _ hps⟩ M (by rw [hFs2]; exact hall) hFs4 hFs3 h₃ hn₃ hs₃
end Mine
end

section
open PySem PySem.W PyProof.Rows PySem.Spec PySem.Calls
set_option maxRecDepth 100000
set_option maxHeartbeats 8000000
namespace Mine
theorem regK13 : PySem.Challenge.rw_ak0011_01 = PySem.Challenge.rw_ak0011_01 ∧ hd.heap_39 = hd.heap_39 := by k_fill; exact ⟨rfl, rfl⟩

theorem law_e {prog : Program} {w : World} {p : Program} {loose : List Str} {mean : ExcName → Option Value} {mg mb : Str → Option Value} {hb : Heap} {s : Shared} {L ev : Addr} {oE : Obj} {n : Nat} {ex : List (Addr × Obj)} {m : Str → Option Value} {Q : Flow → Shared → Prop} {E : Value → Shared → Prop}
    (X : (hd.heap_39 w.params).In hb) (T : Top p loose mean mg mb hb) (F : Fr hb L s.heap m)
    (N : News hb L s.heap ((ev, listOf #[] n) :: (L + 1 + 1 + 1, oE) :: ex)) (dE : oE.data = .cell (some (.ref ev)))
    (hQ : ∀ h tk, Fr hb L h m → News hb L h ((ev, listOf #[] n) :: (L + 1 + 1 + 1, oE) :: ex) → s.heap.objs.size ≤ h.objs.size → Q .next { s with heap := h, toks := tk }) :
    wpAny (model prog w) bigA (exec lawS9 (lawEnv L)) Q E s := by
  simp only [lawS9, lawEnv, lawScope, lawBody, lawDef, PySem.Challenge.pw_ak0011_01]
  iterate 5 (first | walk1 | (dsimp only; walk1))
  refine wpAny_newObj_type ?_ (by size_fits)
  have F1 := F.push { cls := .type "list", data := .seq ([] : List Value).toArray }
  have N1 := News.push F N { cls := .type "list", data := .seq ([] : List Value).toArray }
  have hz : (s.heap.push { cls := .type "list", data := .seq ([] : List Value).toArray }).objs.size = s.heap.objs.size + 1 := Heap.size_push ..
  generalize s.heap.push { cls := .type "list", data := .seq ([] : List Value).toArray } = h1 at F1 N1 hz ⊢
  clear F N
  try dsimp only
  k_steps
  exact hQ h1 _ F1 (fun q hq => N1 q (.tail _ hq)) (by rw [hz]; exact Nat.le_succ _)

def evD : Ev → PyData
  | .asked p x => .tuple [.int p, .int x]
  | .told x => .tuple [.str (Str.ofString "told"), .int x]
theorem evs_reads {h : Heap} : ∀ {vs : List Value} {es : List Ev}, EvsAre h vs es → ReadsAll h vs (es.map evD) []
  | [], [], _ => .nil
  | v :: vs, e :: es, x => by
    refine readsAll_cons_val ?_ (evs_reads x.2)
    cases e with
    | asked p y => obtain ⟨a, n, t, t', rfl, g⟩ := x.1; exact reads_tuple_at g rfl rfl (.cons (as := []) (.int _ _) (.cons (as := []) (.int _ _) .nil))
    | told y => obtain ⟨a, n, t, t', rfl, g⟩ := x.1; exact reads_tuple_at g rfl rfl (.cons (as := []) (.str _ _) (.cons (as := []) (.int _ _) .nil))
theorem evs_lay : ∀ (es : List Ev), PyData.canLayAll0 (es.map evD) = true
  | [] => rfl
  | e :: es => by
    show (PyData.canLay0 (evD e) && PyData.canLayAll0 (es.map evD)) = true
    rw [evs_lay es, Bool.and_true]
    cases e with
    | asked p x => rfl
    | told x =>
      have h : PyData.strOk (Str.ofString "told") = true := by decide +kernel
      simp [evD, PyData.canLay0, PyData.canLayAll0, h]
theorem evs_depth : ∀ (es : List Ev), PyData.depthAll (es.map evD) ≤ 1
  | [] => Nat.zero_le _
  | e :: es => by
    show max (PyData.depth (evD e)) (PyData.depthAll (es.map evD)) ≤ 1
    have := evs_depth es
    cases e <;> exact Nat.max_le.mpr ⟨Nat.le_refl 1, this⟩
theorem evs_shaped (es : List Ev) : PySem.SeqAt.shaped (.list (es.map evD)) = true := by
  unfold PySem.SeqAt.shaped
  have h1 := evs_lay es
  have h2 : PyData.depth (.list (es.map evD)) ≤ 64 := by
    show PyData.depthAll (es.map evD) + 1 ≤ 64
    have := evs_depth es
    omega
  rw [show PyData.canLay0 (.list (es.map evD)) = true from h1, decide_eq_true h2]; rfl
theorem list_eq {prog : Program} {w : World} {A : Around} {E : Value → Shared → Prop} {s : Shared} {a b : Addr} {vs vs' : List Value} {n n' : Nat} {es : List Ev} {Q : Value → Shared → Prop} (ha : s.heap.get? a = some (listOf vs.toArray n)) (hb : s.heap.get? b = some (listOf vs'.toArray n'))
    (h1 : EvsAre s.heap vs es) (h2 : EvsAre s.heap vs' es) (hu : A.units + 64 < cLine) (h : Q (.bool true) s) : wpAny (model prog w) A (compareOp .Eq (.ref a) (.ref b)) Q E s := by
  refine eq_dataH (reads_list_at ha rfl rfl (evs_reads h1)) (reads_list_at hb rfl rfl (evs_reads h2)) (evs_shaped es) (evs_shaped es) hu ?_
  rw [PySem.SeqAt.eqv_refl _ (show PyData.canLay0 (.list (es.map evD)) = true from evs_lay es)]
  exact h
theorem EvsAre.take {h : Heap} : ∀ {vs : List Value} {es : List Ev} (k : Nat), EvsAre h vs es → EvsAre h (vs.take k) (es.take k)
  | [], [], k, _ => by simp [EvsAre]
  | _ :: _, _ :: _, 0, _ => trivial
  | _ :: _, _ :: _, k + 1, x => ⟨x.1, EvsAre.take k x.2⟩

def SmallL (l : List Value) : Prop := l.length ≤ 1000
def TupIn (hb h : Heap) (ex : List (Addr × Obj)) : Prop := ∀ b o, h.get? b = some o → TupO o → hb.get? b = some o ∨ (b, o) ∈ ex

theorem law_body {prog : Program} {w : World} {p : Program} {loose : List Str} {mean : ExcName → Option Value} {mg mb : Str → Option Value} {hb : Heap} {s : Shared} {L sc ev du ga : Addr} {oE : Obj} {n kd : Nat} {st : Int} {ti tt0 : Tok} {bd : Int} {tb : Tok} {items : List Value} {more : List Value} {done all : List Ev} {x t : Int} {tx tt : Tok} {ex : List (Addr × Obj)} {Q : Flow → Shared → Prop} {E : Value → Shared → Prop}
    (X : (hd.heap_39 w.params).In hb) (T : Top p loose mean mg mb hb) (F : Fr hb L s.heap (fun y => if y = Str.ofString "one" then some (.int x tx) else if y = Str.ofString "taken" then some (.int t tt) else m5 L sc st ti bd tb du tt0 ga y))
    (N : News hb L s.heap ((ev, listOf items.toArray n) :: (L + 1 + 1 + 1, oE) :: (du, listOf more.toArray kd) :: ex)) (dE : oE.data = .cell (some (.ref ev))) (hsz : items.length ≤ 100000) (lE : @LT.lt Nat _ (L + 1 + 1 + 1) du ∧ @LT.lt Nat _ du ev) (hexe : ∀ q ∈ ex, q.1 ≠ ev) (hml : SmallL more) (htup : TupIn hb s.heap ex)
    (hev : EvsAre s.heap items done) (hdu : EvsAre s.heap more all) (hpre : all.take (done.length + 1) = done ++ [.told x])
    (hQ : ∀ fl h tk T m', (t + 1 = bd ∧ fl = .ret (.bool true) ∨ t + 1 ≠ bd ∧ fl = .next) → h.Ns L m' → (∃ t2, m' (Str.ofString "taken") = some (.int (t + 1) t2)) → (∀ y, y ≠ Str.ofString "one" → y ≠ Str.ofString "taken" → m' y = m5 L sc st ti bd tb du tt0 ga y) →
      (∃ n', h.get? ev = some (listOf (items ++ [Value.ref T]).toArray n')) → (∃ t3, h.get? T = some (tupV [.str (Str.ofString "told") t3, .int x tx])) → (∀ q ∈ ((L + 1 + 1 + 1, oE) :: (du, listOf more.toArray kd) :: ex), h.get? q.1 = some q.2) → hb.StaysIn h → s.heap.objs.size ≤ T → Q fl { s with heap := h, toks := tk }) :
    wpAny (model prog w) bigA (execs (match lawS10 with | .For _ _ b _ _ => b | _ => []) (lawEnv L)) Q E s := by
  delta m5 m4 m3 m2 m1 m0 at F
  simp only [lawEnv, lawScope, lawDef, PySem.Challenge.pw_ak0011_01] at F
  simp only [lawS10, lawEnv, lawScope, lawBody, lawDef, PySem.Challenge.pw_ak0011_01]
  iterate 13 (first | walk1 | (dsimp only; walk1))
  refine wpAny_newObj_type ?_ (by size_fits)
  have F1 := F.push { cls := .type "tuple", data := .seq ([Value.str (Str.ofString "told") s.toks, Value.int x tx] : List Value).toArray }
  have N1 := News.push F N { cls := .type "tuple", data := .seq ([Value.str (Str.ofString "told") s.toks, Value.int x tx] : List Value).toArray }
  have hz : (s.heap.push { cls := .type "tuple", data := .seq ([Value.str (Str.ofString "told") s.toks, Value.int x tx] : List Value).toArray }).objs.size = s.heap.objs.size + 1 := Heap.size_push ..
  have hk1 : ∀ b o, s.heap.get? b = some o → (s.heap.push { cls := .type "tuple", data := .seq ([Value.str (Str.ofString "told") s.toks, Value.int x tx] : List Value).toArray }).get? b = some o := fun b o e => Heap.get?_push_of_some _ e
  have lev : @LT.lt Nat _ ev s.heap.objs.size := Heap.lt_size (N _ (.head _)).1
  generalize hT : s.heap.objs.size = T at N1 hz lev
  simp only [hT]
  generalize s.heap.push { cls := .type "tuple", data := .seq ([Value.str (Str.ofString "told") s.toks, Value.int x tx] : List Value).toArray } = h1 at F1 N1 hz hk1 ⊢
  clear F N
  try dsimp only
  k_steps
  refine wpAny_list_append_plain (items := items.toArray) ⟨n, (N1 (ev, listOf items.toArray n) (by k_mem)).1⟩ (fun h2 hl2 hs2 => ?_) (hsz := by rw [List.size_toArray]; exact Nat.le_trans hsz (by decide))
  obtain ⟨n2, hl2⟩ := hl2
  have hl2' : h2.get? ev = some (listOf (items ++ [Value.ref T]).toArray n2) := by rw [hl2]; simp
  have N2 := news_set (pre := [(T, _)]) (D := ev) N1 (fun q hq => by rw [List.mem_singleton] at hq; subst hq; exact Nat.ne_of_gt lev) (fun q hq => by
    rcases List.mem_cons.mp hq with rfl | hq
    · show @Ne Nat _ _; omega
    rcases List.mem_cons.mp hq with rfl | hq
    · show @Ne Nat _ _; omega
    · exact hexe q hq) hs2 hl2'
  have F2 := fr_head F1 (N1 (ev, listOf items.toArray n) (by k_mem)).2.1 (N1 (ev, listOf items.toArray n) (by k_mem)).2.2 (fun b o e hb => hs2.extBut b o hb e)
  have hk2 : ∀ b o, s.heap.get? b = some o → b ≠ ev → h2.get? b = some o := fun b o e hb => hs2.extBut b o hb (hk1 b o e)
  clear F1 N1
  simp only [List.cons_append, List.nil_append] at N2
  try dsimp only
  k_steps
  · rename Fr _ _ _ _ => F3
    rename News _ _ _ _ => N3
    refine len_list (items := (items ++ [Value.ref T]).toArray) ⟨_, (N3 (ev, listOf (items ++ [Value.ref T]).toArray n2) (by k_mem)).1, rfl, _, rfl⟩ (by rw [List.size_toArray, List.length_append, List.length_singleton]; omega) ?_
    rw [List.size_toArray]
    k_steps
    rename_i h9 ht
    refine slice_list F3 N3 ⟨_, (N3 (du, listOf more.toArray kd) (by k_mem)).1, rfl, _, rfl⟩ .none (.int _ _) (fun h4 F4 N4 => ?_) (hsz := by rw [List.size_toArray]; exact Nat.le_trans hml (by decide))
    rw [slicePick_upto'] at N4
    have stay : TupStay s.heap h4 := fun b o e ho => by
      rcases htup b o e ho with h | h
      · exact F4.keep b o h
      · exact (N4 (b, o) (.tail _ (.tail _ (.tail _ (.tail _ (.tail _ h)))))).1
    have hk : (items ++ [Value.ref T]).length = done.length + 1 := by rw [List.length_append, hev.length]; rfl
    have e2 : EvsAre h4 (more.toArray.toList.take (items ++ [Value.ref T]).length) (done ++ [.told x]) := by
      rw [hk, ← hpre]
      exact (hdu.stay stay).take _
    have e1 : EvsAre h4 (items ++ [Value.ref T]) (done ++ [.told x]) := (hev.stay stay).append ⟨⟨T, 0, _, _, rfl, (N4 _ (.tail _ (.head _))).1⟩, trivial⟩
    refine list_eq (N4 _ (.tail _ (.tail _ (.head _)))).1 (N4 _ (.head _)).1 e1 e2 (by exact Nat.le_of_ble_eq_true rfl) ?_
    exact hQ _ h4 _ T _ (.inl ⟨ht, rfl⟩) F4.ns ⟨_, rfl⟩ (fun y h1 h2 => by delta m5 m4; simp only [h1, h2, if_false]; rfl) ⟨n2, (N4 _ (.tail _ (.tail _ (.head _)))).1⟩ ⟨_, (N4 _ (.tail _ (.head _))).1⟩ (fun q hq => (N4 q (.tail _ (.tail _ (.tail _ hq)))).1) (fun b o e => F4.keep b o e) (Nat.le_of_eq hT)
  · rename Fr _ _ _ _ => F3
    rename News _ _ _ _ => N3
    rename_i h9 hne
    exact hQ _ _ _ T _ (.inr ⟨hne, rfl⟩) F3.ns ⟨_, rfl⟩ (fun y h1 h2 => by delta m5 m4; simp only [h1, h2, if_false]; rfl) ⟨n2, (N3 _ (.tail _ (.head _))).1⟩ ⟨_, (N3 _ (.head _)).1⟩ (fun q hq => (N3 q (.tail _ (.tail _ hq))).1) (fun b o e => F3.keep b o e) (Nat.le_of_eq hT)
end Mine
end

section
open PySem PySem.W PyProof.Rows PySem.Spec PySem.Calls
set_option maxRecDepth 100000
set_option maxHeartbeats 2000000
namespace Mine

theorem upto_eq : ∀ {es : List Ev} {x : Int} {rest : List Ev}, (upto es).2 = some (x, rest) → es = (upto es).1 ++ .told x :: rest
  | .asked p y :: es, x, rest, h => by
    have := upto_eq (es := es) h
    show _ :: es = _ :: ((upto es).1 ++ _)
    rw [← this]
  | .told y :: es, x, rest, h => by
    simp only [upto, Option.some.injEq, Prod.mk.injEq] at h
    obtain ⟨rfl, rfl⟩ := h
    rfl

def loopBody : List Stmt := match lawS10 with
  | .For _ _ b _ _ => b
  | _ => []

/-- law's loop at its head -/
structure LoopInv (prog : Program) (w : World) (POST : Result → Shared → Prop) (hg : Heap) (n : Nat) (L sc ev du ga : Addr) (st : Int) (ti tt0 : Tok) (bd : Int) (tb : Tok) (all : List Ev) (D U : Nat) (os0 : OsState) (t : Int) (done es : List Ev) (gs : GenState) (s : Shared) : Prop where
  base : hg.StaysIn s.heap
  ns : ∃ m, s.heap.Ns L m ∧ (∃ tt, m (Str.ofString "taken") = some (.int t tt)) ∧ ∀ y, y ≠ Str.ofString "one" → y ≠ Str.ofString "taken" → m y = m5 L sc st ti bd tb du tt0 ga y
  evl : ∃ items k, s.heap.get? ev = some (listOf (List.toArray items) k) ∧ EvsAre s.heap items done
  gen : GenObj s.heap ga 0 0
  gsl : s.gens[0]? = some gs
  rests : Rests prog w POST hg ev n ga 0 D U es gs s
  ok : AllOk 0 s
  osv : s.os = os0
  whole : done ++ es = all

theorem genObj_data {h : Heap} {a : Addr} {g : Nat} {z : Int} (x : GenObj h a g z) {h' : Heap} (k : ∀ b o, h.get? b = some o → (∀ es ep, o.data ≠ .dict es ep) → (∀ its n, o.data ≠ .seq its n) → h'.get? b = some o) : GenObj h' a g z := by
  obtain ⟨o, nm, qn, ho, hc, hd, r⟩ := x
  exact ⟨o, nm, qn, k a o ho (fun _ _ q => by rw [hd] at q; cases q) (fun _ _ q => by rw [hd] at q; cases q), hc, hd, r⟩

theorem law_loop {prog : Program} {w : World} {POST : Result → Shared → Prop} {p : Program} {loose : List Str} {mean : ExcName → Option Value} {mg mb : Str → Option Value} {hb hg : Heap} {n : Nat} {L sc ev du ga : Addr} {oE : Obj} {kd : Nat} {st : Int} {ti tt0 : Tok} {bd : Int} {tb : Tok} {more : List Value} {all : List Ev} {D U : Nat} {os0 : OsState} {c : Code} {stk : List Frame} {px : Pos} {E : Value → Shared → Prop}
    (X : (hd.heap_39 w.params).In hb) (T : Top p loose mean mg mb hb) (stg : hb.StaysIn hg) (hbL : hb.objs.size ≤ L) (hgn : hg.objs.size ≤ n) (hgL : hg.get? L = none) (hge : hg.get? ev = none) (hev0 : hb.get? ev = none) (hcell : hg.get? (L + 1 + 1 + 1) = some oE) (dE : oE.data = .cell (some (.ref ev))) (hdu : hg.get? du = some (listOf more.toArray kd)) (hmore : EvsAre hg more all) (hal : all.length ≤ 1000)
    (lE : @LT.lt Nat _ (L + 1 + 1 + 1) du ∧ @LT.lt Nat _ du ev) (Ln : @LT.lt Nat _ L n ∧ @LT.lt Nat _ ev n ∧ @LE.le Nat _ n ga)
    (hstk : StOk stk 800 8000) (hw : c.weight ≤ 1) (hu : c.cUnits ≤ 3) (hD : D = 801) (hU : U = 8003) :
    ∀ (k : Nat) (es done : List Ev) (t : Int) (gs : GenState) (s : Shared), es.length ≤ k → LoopInv prog w POST hg n L sc ev du ga st ti tt0 bd tb all D U os0 t done es gs s →
      RunCode prog w POST c stk (.forLoop (.Name (Str.ofString "one") px) (.ref ga) loopBody [] (lawEnv L)) none (fun r s' => match r with
        | .ok .next => hg.StaysIn s'.heap ∧ (∃ m, s'.heap.Ns L m ∧ ∀ y, y ≠ Str.ofString "one" → y ≠ Str.ofString "taken" → m y = m5 L sc st ti bd tb du tt0 ga y) ∧ (∃ items k, s'.heap.get? ev = some (listOf (List.toArray items) k) ∧ EvsAre s'.heap items all) ∧ AllOk 0 s' ∧ s'.os = os0
        | .ok (.ret v) => v = .bool true ∧ hg.StaysIn s'.heap ∧ AllOk 0 s' ∧ s'.os = os0
        | _ => False) s := by
  intro k
  induction k using Nat.strongRecOn with
  | ind k ih =>
  intro es done t gs s hk I
  obtain ⟨items, ke, hevs, hevd⟩ := I.evl
  have hroomE : EvRoom s.heap ev (es.length + 1) := ⟨_, _, hevs, by
    have h1 := hevd.length
    have h2 := congrArg List.length I.whole
    rw [List.length_append] at h2
    rw [List.size_toArray]; omega⟩
  refine runCode_tree fun F hF => ?_
  obtain ⟨kF, gF, lF, pF, rfl⟩ := hF
  have hst1 : StOk (.ret kF none gF lF c pF [] :: stk) D U := by rw [hD, hU]; exact hstk.ret (by omega) (by omega)
  have hcw : (Code.forLoop (.Name (Str.ofString "one") px) (.ref ga) loopBody [] (lawEnv L)).weight = 0 := rfl
  have hlim : s.heap.NoLimit := T.nolimit.keeps fun b o e => I.base b o (stg b o e)
  have hwake := wake_of_rests I.rests I.gsl (Env'.refl I.base) hroomE
  have hin2 : (Ctx.of (Code.forLoop (.Name (Str.ofString "one") px) (.ref ga) loopBody [] (lawEnv L)) (.ret kF none gF lF c pF [] :: stk)).In bigA := hst1.in _ (by rw [hD]; show 801 + 0 ≤ 900; omega) (by rw [hU]; show 8003 + 0 ≤ 9000; omega)
  show Run _ _ _ _ _ ((forTurn (.Name (Str.ofString "one") px) (.ref ga) loopBody [] (lawEnv L)).onRaise (fun x => do noteFrame x (lawEnv L); theTreesLotGoes x)) _ _ s
  refine run_onRaise (run_mono (E := fun _ _ => False) ?_ (fun _ _ q => q) fun _ _ f => f.elim)
  unfold forTurn
  refine run_bind (run_at ?_)
  have hLev : L ≠ ev := by show @Ne Nat L ev; omega
  have hgev : ∀ b o, hg.get? b = some o → b ≠ ev := fun b o e q => by rw [q, hge] at e; cases e
  have hgbn : ∀ b o, hg.get? b = some o → b < n := fun b o e => Nat.lt_of_lt_of_le (Heap.lt_size e) hgn
  obtain ⟨m, hm, ⟨tt, hmt⟩, hmy⟩ := I.ns
  refine run_bind (run_onRaise (run_mono (E := fun _ _ => False) (run_pyNext_gen hst1 hcw hlim (by rw [hD]; decide) I.gen I.gsl (rests_status I.rests) hwake
    (Q := fun r s' => match r with
      | some v => ∃ gs' s₁, s' = s₁.setGen 0 gs' ∧ ToldTo prog w POST hg ev n ga 0 D U es (s.setGen 0 .running) [] v gs' s₁
      | none => ∃ s₁ h', s' = { s₁.setGen 0 .finished with heap := h' } ∧ DoneTo ev n ga 0 es (s.setGen 0 .running) [] s₁ ∧ (∀ b o, s₁.heap.get? b = some o → h'.get? b = some o))
    (fun v s' q => q) (fun s' q h' kk hz => by obtain ⟨s₁, rfl, q⟩ := q; exact ⟨s₁, h', rfl, q, kk⟩)) (fun r s' q => ?_) fun _ _ f => f.elim))
  cases r with
  | none =>
    obtain ⟨s₁, h', rfl, hd, hkk⟩ := q
    unfold DoneTo at hd
    cases hup : (upto es).2 with
    | some y => rw [hup] at hd; exact hd.elim
    | none =>
      rw [hup] at hd
      obtain ⟨hr, hfin⟩ := hd
      rw [List.nil_append, (upto_none hup).1] at hr
      refine run_pure ⟨rfl, again_code (runCode_of (A := bigA) (hstk.in c (by omega) (by omega)) (codeAny_block (wpAny_pure ?_)))⟩
      obtain ⟨more', m', e1, a1⟩ := hr.list _ _ hevs
      refine ⟨fun b o e => hkk b o (hr.keep b o (I.base b o e) (.inl (hgbn b o e)) (hgev b o e)), ⟨m, hm.at' fun o e => hkk L o (hr.keep L o e (.inl Ln.1) hLev), hmy⟩, ⟨items ++ more', m', ?_, ?_⟩, ?_, ?_⟩
      · have := hkk _ _ e1
        show h'.get? ev = _
        rw [this]; simp
      · rw [← I.whole]
        exact ((hevd.stay hr.tup).append a1).stay fun b o e _ => hkk b o e
      · intro i z hi e
        have := hfin i z hi e
        rw [this]; trivial
      · exact hr.os.trans I.osv
  | some v =>
    obtain ⟨gs', s₁, rfl, hT⟩ := q
    unfold ToldTo at hT
    cases hup : (upto es).2 with
    | none => rw [hup] at hT; exact hT.elim
    | some y =>
      obtain ⟨x, rest⟩ := y
      rw [hup] at hT
      obtain ⟨⟨tx, rfl⟩, hr, hok, k₀, l₀, c₀, p₀, fs₀, cl, rfl, hcont⟩ := hT
      rw [List.nil_append] at hr
      have heq := upto_eq hup
      have hk1 : ∀ b o, s.heap.get? b = some o → b < n ∨ b = ga → b ≠ ev → s₁.heap.get? b = some o := hr.keep
      obtain ⟨more', m', e1, a1⟩ := hr.list _ _ hevs
      have hev1 : s₁.heap.get? ev = some (listOf (items ++ more').toArray m') := by rw [e1]; simp
      have hb1 : hg.StaysIn s₁.heap := fun b o e => hk1 b o (I.base b o e) (.inl (hgbn b o e)) (hgev b o e)
      have hm1 : s₁.heap.Ns L m := hm.at' fun o e => hk1 L o e (.inl Ln.1) hLev
      have hgL' : ∀ b o, hg.get? b = some o → b ≠ L := fun b o e q => by rw [q, hgL] at e; cases e
      refine run_of hin2 ?_
      refine wpAny_bind (wpAny_of_eq (a := ()) rfl ?_)
      refine wpAny_bind (wpAny_assign_Name (wpAny_storeName_local (m := m) rfl hm1 (fun h2 hn2 hs2 => ?_) rfl))
      have hk2 : ∀ b o, s₁.heap.get? b = some o → b ≠ L → h2.get? b = some o := fun b o e hb => hs2.extBut b o hb e
      have hb2 : hg.StaysIn h2 := fun b o e => hk2 b o (hb1 b o e) (hgL' b o e)
      have hn2' : h2.Ns L (fun y => if y = Str.ofString "one" then some (.int x tx) else if y = Str.ofString "taken" then some (.int t tt) else m5 L sc st ti bd tb du tt0 ga y) := by
        have e : (fun y => if y = Str.ofString "one" then some (Value.int x tx) else m y) = fun y => if y = Str.ofString "one" then some (.int x tx) else if y = Str.ofString "taken" then some (.int t tt) else m5 L sc st ti bd tb du tt0 ga y := by
          funext y
          by_cases h1 : y = Str.ofString "one"
          · simp only [h1, if_true]
          · by_cases h2 : y = Str.ofString "taken"
            · subst h2; simp only [h1, if_false, if_true]; exact hmt
            · simp only [h1, h2, if_false]; exact hmy y h1 h2
        rw [← e]; exact hn2
      have F2 : Fr hb L h2 (fun y => if y = Str.ofString "one" then some (.int x tx) else if y = Str.ofString "taken" then some (.int t tt) else m5 L sc st ti bd tb du tt0 ga y) := ⟨hn2', fun b o e => hb2 b o (stg b o e), hbL⟩
      let ex : List (Addr × Obj) := (others hb h2 L).filter fun q => decide (@Ne Nat q.1 ev)
      have hexN : ∀ q ∈ ex, h2.get? q.1 = some q.2 ∧ q.1 ≠ L ∧ hb.get? q.1 = none := fun q hq => others_news q (List.mem_filter.mp hq).1
      have hexe : ∀ q ∈ ex, q.1 ≠ ev := fun q hq => (of_decide_eq_true (List.mem_filter.mp hq).2 : @Ne Nat q.1 ev)
      have hexm : ∀ {b o}, h2.get? b = some o → b ≠ L → b ≠ ev → hb.get? b = none → (b, o) ∈ ex := fun e b1 b2 b3 => List.mem_filter.mpr ⟨others_mem e b1 b3, decide_eq_true b2⟩
      have hnb : ∀ {a}, @LT.lt Nat _ L a → hb.get? a = none := fun h => Heap.get?_none_of_le (Nat.le_trans hbL (Nat.le_of_lt h))
      have hev2 : h2.get? ev = some (listOf (items ++ more').toArray m') := hk2 _ _ hev1 (Ne.symm hLev)
      have N2 : News hb L h2 ((ev, listOf (items ++ more').toArray m') :: (L + 1 + 1 + 1, oE) :: (du, listOf more.toArray kd) :: ex) := by
        intro q hq
        rcases List.mem_cons.mp hq with rfl | hq
        · exact ⟨hev2, Ne.symm hLev, hnb (by show @LT.lt Nat _ L ev; omega)⟩
        rcases List.mem_cons.mp hq with rfl | hq
        · exact ⟨hb2 _ _ hcell, (by show @Ne Nat _ _; omega), hnb (by show @LT.lt Nat _ L _; omega)⟩
        rcases List.mem_cons.mp hq with rfl | hq
        · exact ⟨hb2 _ _ hdu, (by show @Ne Nat _ _; omega), hnb (by show @LT.lt Nat _ L _; omega)⟩
        · exact hexN q hq
      have hst12 : TupStay s₁.heap h2 := fun b o e ho => hk2 b o e fun q => by subst q; exact ns_not_tup hm1 o e ho
      have hevd2 : EvsAre h2 (items ++ more') (done ++ (upto es).1) := ((hevd.stay hr.tup).append a1).stay hst12
      have hwh : (done ++ (upto es).1) ++ .told x :: rest = all := by rw [List.append_assoc, ← heq]; exact I.whole
      have hlen := congrArg List.length hwh
      rw [List.length_append, List.length_cons] at hlen
      have hle := hevd2.length
      have hpre : all.take ((done ++ (upto es).1).length + 1) = (done ++ (upto es).1) ++ [.told x] := by
        rw [← hwh, show (done ++ (upto es).1) ++ Ev.told x :: rest = ((done ++ (upto es).1) ++ [.told x]) ++ rest by simp, List.take_append_of_le_length (by simp only [List.length_append, List.length_singleton]; omega), List.take_of_length_le (by simp only [List.length_append, List.length_singleton]; omega)]
      refine wpAny_bind ?_
      refine law_body (s := { s₁.setGen 0 (.suspended k₀ l₀ c₀ p₀ fs₀ cl) with heap := h2, toks := (s₁.setGen 0 (.suspended k₀ l₀ c₀ p₀ fs₀ cl)).toks + 1 }) X T F2 N2 dE (by omega) lE hexe (by show more.length ≤ 1000; have := hmore.length; omega) (fun b o e ho => ?_) hevd2 (hmore.stay fun b o e _ => hb2 b o e) hpre ?_
      · have b1 : b ≠ L := fun q => by subst q; exact ns_not_tup hn2' o e ho
        have b2 : b ≠ ev := fun q => by
          rw [q] at e
          have := e.symm.trans hev2
          cases this
          exact tup_list ho
        cases e0 : hb.get? b with
        | some o' =>
          have := F2.keep b o' e0
          rw [show ({ s₁.setGen 0 (.suspended k₀ l₀ c₀ p₀ fs₀ cl) with heap := h2, toks := (s₁.setGen 0 (.suspended k₀ l₀ c₀ p₀ fs₀ cl)).toks + 1 } : Shared).heap.get? b = some o from e] at this
          cases this; exact .inl rfl
        | none => exact .inr (hexm e b1 b2 e0)
      · intro fl h tk T m2' hfl hns3 htk3 hmy3 hev3 hT3 hkeep3 hbs3 hTz
        have k3 : ∀ b o, h2.get? b = some o → b ≠ L → b ≠ ev → h.get? b = some o := fun b o e b1 b2 => by
          cases e0 : hb.get? b with
          | some o' =>
            have := F2.keep b o' e0
            rw [e] at this; cases this
            exact hbs3 b _ e0
          | none => exact hkeep3 (b, o) (.tail _ (.tail _ (hexm e b1 b2 e0)))
        have k13 : ∀ b o, s₁.heap.get? b = some o → b ≠ L → b ≠ ev → h.get? b = some o := fun b o e b1 b2 => k3 b o (hk2 b o e b1) b1 b2
        have hbase3 : hg.StaysIn h := fun b o e => k13 b o (hb1 b o e) (hgL' b o e) (hgev b o e)
        have hgk : ∀ {a g z}, GenObj s₁.heap a g z → GenObj h a g z := fun y => genObj_data y fun b o e d1 d2 => k13 b o e (fun q => by
          subst q
          obtain ⟨o', es', ep, ho, hd', _⟩ := hm1
          rw [e] at ho; cases ho
          exact d1 _ _ hd') (fun q => by
          subst q
          rw [e] at hev1
          cases hev1
          exact d2 _ _ rfl)
        have hok3 : ∀ i z, s₁.gens.size = s₁.gens.size → (s₁.setGen 0 (.suspended k₀ l₀ c₀ p₀ fs₀ cl)).gens[i]? = some z → okRest h z := fun i z _ e => okRest_mono (fun a g z y => ⟨z, hgk y⟩) (hok i z (Nat.zero_le _) e)
        have hos3 : s₁.os = os0 := hr.os.trans I.osv
        rcases hfl with ⟨_, rfl⟩ | ⟨hnb, rfl⟩
        · exact wpAny_pure ⟨rfl, hbase3, fun i z _ e => hok3 i z rfl e, hos3⟩
        · obtain ⟨t3, hT3⟩ := hT3
          have hsz : 0 < s₁.gens.size := by
            have h1 := gens_lt I.gsl
            have h2 := hr.gsize
            rw [setGen_size] at h2
            exact Nat.lt_of_lt_of_le h1 h2
          have env3 : Env' hg n ga 0 (s₁.setGen 0 (.suspended k₀ l₀ c₀ p₀ fs₀ cl)) { s₁.setGen 0 (.suspended k₀ l₀ c₀ p₀ fs₀ cl) with heap := h, toks := tk } := ⟨fun b o e b1 b2 => k13 b o e (fun q => by subst q; exact absurd b1 (Nat.not_le.mpr Ln.1)) (fun q => by subst q; exact absurd b1 (Nat.not_le.mpr Ln.2.1)), hbase3, fun _ _ => rfl, by
            have e1 : h2.objs.size = s₁.heap.objs.size := hs2.1
            have e2 : h2.objs.size ≤ T := hTz
            show s₁.heap.objs.size ≤ h.objs.size
            rw [← e1]; exact Nat.le_trans e2 (Nat.le_of_lt (Heap.lt_size hT3))⟩
          obtain ⟨n3, hev3⟩ := hev3
          have hst3 : TupStay h2 h := fun b o e ho => k3 b o e (fun q => by subst q; exact ns_not_tup hn2' o e ho) (fun q => by subst q; rw [hev2] at e; cases e; exact tup_list ho)
          have hrl : rest.length < k := Nat.lt_of_lt_of_le (upto_some hup).1 hk
          refine wpAny_pure ⟨rfl, again_code (ih rest.length hrl rest (done ++ (upto es).1 ++ [.told x]) (t + 1) (.suspended k₀ l₀ c₀ p₀ fs₀ cl) { s₁.setGen 0 (.suspended k₀ l₀ c₀ p₀ fs₀ cl) with heap := h, toks := tk } (Nat.le_refl _) ?_)⟩
          exact {
            base := hbase3
            ns := ⟨m2', hns3, htk3, hmy3⟩
            evl := ⟨_, n3, hev3, (hevd2.stay hst3).append ⟨⟨T, 0, t3, tx, rfl, hT3⟩, trivial⟩⟩
            gen := hgk (I.gen.at fun o e => hk1 ga o e (.inr rfl) (by show @Ne Nat ga ev; omega))
            gsl := setGen_at hsz
            rests := .inr ⟨k₀, l₀, c₀, p₀, fs₀, cl, rfl, fun s'' he hv => hcont s'' (env3.trans he) hv⟩
            ok := fun i z _ e => hok3 i z rfl e
            osv := hos3
            whole := by rw [← hwh]; simp }
end Mine
end

section
open PySem PySem.W PyProof.Rows PySem.Spec PySem.Calls
set_option maxRecDepth 100000
set_option maxHeartbeats 2000000
namespace Mine

theorem execs_append (env : Env) : ∀ (a b : List Stmt), execs (a ++ b) env = execs a env >>= fun f => match f with | .next => execs b env | f => pure f
  | [], b => rfl
  | x :: a, b => by
    show execs (x :: (a ++ b)) env = _
    rw [execs_cons, execs_cons]
    show (exec x env).bind _ = ((exec x env).bind _).bind _
    rw [Sem.bind_assoc]
    congr 1
    funext f
    cases f with
    | next => exact execs_append env a b
    | _ => rfl

/-- what the loop finds, beside its own word -/
structure MidAt (prog : Program) (w : World) (POST : Result → Shared → Prop) (hb : Heap) (L sc : Addr) (vs : List Value) (nv : Nat) (os0 : OsState) (hg : Heap) (n : Nat) (ev du ga : Addr) (oE : Obj) (kd : Nat) (st : Int) (ti tt0 : Tok) (bd : Int) (tb : Tok) (more : List Value) (all : List Ev) (gs : GenState) (s : Shared) : Prop where
  stg : hb.StaysIn hg
  hgn : hg.objs.size ≤ n
  hgL : hg.get? L = none
  hge : hg.get? ev = none
  hev0 : hb.get? ev = none
  hcell : hg.get? (L + 1 + 1 + 1) = some oE
  dE : oE.data = .cell (some (.ref ev))
  hdu : hg.get? du = some (listOf more.toArray kd)
  hmore : EvsAre hg more all
  hal : all.length ≤ 1000
  lE : @LT.lt Nat _ (L + 1 + 1 + 1) du ∧ @LT.lt Nat _ du ev
  Ln : @LT.lt Nat _ L n ∧ @LT.lt Nat _ ev n ∧ @LE.le Nat _ n ga
  inv : LoopInv prog w POST hg n L sc ev du ga st ti tt0 bd tb all 801 8003 os0 0 [] all gs s
  sc : hg.get? sc = some (listOf vs.toArray nv)
  tab : ∃ ps, hg.get? 37 = some (tabObj ps)
  isg : s.heap.IsGen ga 0

theorem law_prefix {prog : Program} {w : World} {POST : Result → Shared → Prop} {p : Program} {loose : List Str} {mean : ExcName → Option Value} {mg mb : Str → Option Value} {hb : Heap} {s : Shared} {L sc : Addr} {oS oR oE : Obj} {vs : List Value} {xs : List Int} {nv : Nat} {E : Value → Shared → Prop}
    (X : (hd.heap_39 w.params).In hb) (T : Top p loose mean mg mb hb) (C : CodeHd hb 41 37) (h370 : hb.get? 37 = none) (F : Fr hb L s.heap (bindL (lawEnv L).kindOf [(Str.ofString "script", .ref sc)] fun _ => none))
    (N : News hb L s.heap [(L + 1 + 1 + 1, oE), (L + 1 + 1, oR), (L + 1, oS), (37, tabObj #[]), (sc, listOf vs.toArray nv)]) (dE : oE.data = .cell none) (dR : oR.data = .cell none) (dS : oS.data = .cell none) (hi : IntsAre vs xs) (hxs : xs.length ≤ 63) (l1 : @LT.lt Nat _ 37 L ∧ @LT.lt Nat _ sc L) (hsc : @Ne Nat sc 37) (hgs : s.gens = #[]) :
    wpAny (model prog w) bigA (execs [lawS0, lawS1, lawS2, lawS3, lawS4, lawS5, lawS6, lawS7, lawS8, lawS9] (lawEnv L)) (fun fl s' => fl = .next ∧ ∃ hg n ev du ga oE kd st ti tt0 bd tb more all gs, MidAt prog w POST hb L sc vs nv s.os hg n ev du ga oE kd st ti tt0 bd tb more all gs s') E s := by
  refine law_a X T C h370 F N dE dR dS hi hxs l1 hsc fun st ti D S ws oS' c2 tc2 n2 h5 tk5 hst F5 N5 dS' hI hc2 lD => ?_
  have hzs : (xs.take 60).length ≤ 1000 := by rw [List.length_take]; omega
  refine law_b X T F5 N5 dS' dR hI hzs hc2 lD l1 fun R ys all nR h7 tk7 c6 tc6 n6 oR' ex F7 N7 dR' hex hrows hall hRr hc6 lR => ?_
  refine law_c1 X T F7 N7 dS' hI hzs hc6 (fun q hq => (hex q hq).1) lD l1 lR.1 fun bd tb du h tk c7 tc7 n7 hb1 hb2 F8 N8 hexd lRd => ?_
  refine law_c2 X T hst F8 N8 dR' dE hrows hall hRr hexd l1 ⟨lR.2, lRd⟩ fun more kd h8 tk8 ex2 F9 N9 hex2 hrw2 => ?_
  refine law_c3 X T F9 N9 dE (fun q hq => (hex2 q hq).1) l1 ⟨lR.2, lRd⟩ fun ev tt h9 tk9 oE' F10 N10 dE' hexe lduev => ?_
  refine law_d X T C h370 F10 N10 dR' dE' (fun q hq => (hex2 q hq).2) hexe (fun h' hs hh => (hrw2 h' hs hh).1) hall l1 ⟨lR.2, lRd, lduev⟩ hsc fun h₁ tk₁ s₂ Lg aT ga tv Fs F11 N11 h37 M hFl hdue hFs h₃ hn₃ hs₃ => ?_
  have hLev : @LT.lt Nat _ L ev := by omega
  have hdu1 := F11.ns.lt
  have hz1 : h₁.objs.size ≤ s₂.heap.objs.size := Nat.le_trans M.nT (Nat.le_of_lt (Heap.lt_size M.tup))
  have hk3 : ∀ b o, s₂.heap.get? b = some o → b ≠ L → h₃.get? b = some o := fun b o e hb => hs₃.extBut b o hb e
  have hk13 : ∀ b o, h₁.get? b = some o → b ≠ L → h₃.get? b = some o := fun b o e hb => hk3 b o (M.heap b o e) hb
  have hb3 : hb.StaysIn h₃ := fun b o e => hk13 b o (F11.keep b o e) fun q => absurd (Heap.lt_size e) (q ▸ Nat.not_lt.mpr F11.above)
  have F12 : Fr hb L h₃ (m5 L sc st ti bd tb du tt ga) := ⟨hn₃, fun b o e => hb3 b o e, F11.above⟩
  have hev11 := N11 _ (.head _)
  have hce11 := N11 (L + 1 + 1 + 1, oE') (by k_mem)
  have N12 : News hb L h₃ ((ev, listOf #[] 0) :: (L + 1 + 1 + 1, oE') :: others hb h₃ L) := by
    intro q hq
    rcases List.mem_cons.mp hq with rfl | hq
    · exact ⟨hk13 _ _ hev11.1 hev11.2.1, hev11.2⟩
    rcases List.mem_cons.mp hq with rfl | hq
    · exact ⟨hk13 _ _ hce11.1 hce11.2.1, hce11.2⟩
    · exact others_news q hq
  refine wpAny_next fun QQ hq => ?_
  refine law_e (s := { s₂ with heap := h₃, toks := s₂.toks + 1 }) X T F12 N12 dE' fun h tk F13 N13 hz => hq _ (wpAny_pure ⟨rfl, ?_⟩)
  have hkk : ∀ b o, h₃.get? b = some o → b ≠ L → h.get? b = some o := others_keep F13 (fun q hq => (N13 q (.tail _ (.tail _ hq))).1) hb3
  have hk2h : ∀ b o, s₂.heap.get? b = some o → b ≠ L → h.get? b = some o := fun b o e hb => hkk b o (hk3 b o e hb) hb
  have hk1h : ∀ b o, h₁.get? b = some o → b ≠ L → h.get? b = some o := fun b o e hb => hkk b o (hk13 b o e hb) hb
  have hgget : ∀ b o, h₁.get? b = some o → b ≠ L → b ≠ ev → (hideAll h₁ [L, ev]).get? b = some o := fun b o e b1 b2 => hideAll_get _ e (by simp [b1, b2])
  have hgL : (hideAll h₁ [L, ev]).get? L = none := hideAll_none _ (by simp)
  have hge : (hideAll h₁ [L, ev]).get? ev = none := hideAll_none _ (by simp)
  have stg : hb.StaysIn (hideAll h₁ [L, ev]) := fun b o e => hgget b o (F11.keep b o e) (fun q => absurd (Heap.lt_size e) (q ▸ Nat.not_lt.mpr F11.above)) (fun q => by rw [q, hev11.2.2] at e; cases e)
  have hgh : (hideAll h₁ [L, ev]).StaysIn h := fun b o e => hk1h b o (of_hideAll _ e) (fun q => by rw [q, hgL] at e; cases e)
  have hdu11 := N11 (du, listOf more.toArray kd) (by k_mem)
  have hsc11 := N11 (sc, listOf vs.toArray nv) (by k_mem)
  have hex11 : ∀ q ∈ ex2, (hideAll h₁ [L, ev]).get? q.1 = some q.2 := fun q hq => by
    have := N11 q (List.mem_append_right [(ev, listOf #[] 0), (L + 1 + 1 + 1, oE'), (L + 1 + 1, oR'), (R, listOf ys.toArray nR), (du, listOf more.toArray kd), (sc, listOf vs.toArray nv)] hq)
    exact hgget _ _ this.1 this.2.1 (Nat.ne_of_lt (hexe q hq))
  obtain ⟨hrw, hmore⟩ := hrw2 _ stg hex11
  have hdl := dueR_len all 0 st (rowsAre_small hrw)
  have h64 : 4 ^ all.length ≤ 64 := by
    have : 4 ^ all.length ≤ 4 ^ 3 := Nat.pow_le_pow_right (by decide) hall
    exact this
  obtain ⟨ps, hps⟩ := h37
  have hnT : @LE.le Nat _ h₁.objs.size aT := M.nT
  have hTL : @LT.lt Nat _ aT Lg := M.TL
  have hLg : @LT.lt Nat _ Lg ga := M.Lg
  have hL1 : @LT.lt Nat _ L h₁.objs.size := hdu1
  have hev1 : @LT.lt Nat _ ev h₁.objs.size := Heap.lt_size hev11.1
  have hgens : s₂.gens = #[.fresh (.func chainBody (chainEnv Lg))] := by rw [M.gens]; show s.gens.push _ = _; rw [hgs]; rfl
  have hisg : s₂.heap.IsGen ga 0 := by have := M.gen; rw [show ({ s with heap := h₁, toks := tk₁ } : Shared).gens.size = 0 by show s.gens.size = 0; rw [hgs]; rfl] at this; exact this
  have hisg' : h.IsGen ga 0 := by obtain ⟨o, nm, qn, ho, r⟩ := hisg; exact ⟨o, nm, qn, hk2h _ _ ho (by show @Ne Nat ga L; omega), r⟩
  have hgaz : ga < h.objs.size := by obtain ⟨o, _, _, ho, _⟩ := hisg'; exact Heap.lt_size ho
  refine ⟨hideAll h₁ [L, ev], h₁.objs.size, ev, du, ga, oE', kd, st, ti, tt, bd, tb, more, dueR all 0 st, .fresh (.func chainBody (chainEnv Lg)), {
    stg := stg
    hgn := Nat.le_of_eq (hideAll_size _ _)
    hgL := hgL
    hge := hge
    hev0 := hev11.2.2
    hcell := hgget _ _ hce11.1 hce11.2.1 (by show @Ne Nat _ _; omega)
    dE := dE'
    hdu := hgget _ _ hdu11.1 hdu11.2.1 (by show @Ne Nat _ _; omega)
    hmore := hmore
    hal := by omega
    lE := ⟨by omega, lduev⟩
    Ln := ⟨hL1, hev1, by omega⟩
    inv := ?_
    sc := hgget _ _ hsc11.1 hsc11.2.1 (by show @Ne Nat sc ev; omega)
    tab := ⟨ps, hgget _ _ hps (by show @Ne Nat 37 L; omega) (by show @Ne Nat 37 ev; omega)⟩
    isg := hisg' }⟩
  have hrest := gen_rests (POST := POST) (prog := prog) (hb := hideAll h₁ [L, ev]) (ev := ev) (X.keeps fun b o e => stg b o e) ((topRead_of T).keeps fun b o e => stg b o e) hge Fs hFs hFl h₁.objs.size Lg aT ga 0 801 8003 st tv { s₂ with heap := h, toks := tk } (Nat.le_of_eq (hideAll_size _ _)) hev1 hnT hTL hLg hgaz (by omega) (by omega) hst hgh
    (by obtain ⟨o, es, ep, ho, r⟩ := M.ns; exact ⟨o, es, ep, hk2h _ _ ho (by show @Ne Nat Lg L; omega), r⟩) (hk2h _ _ M.tup (by show @Ne Nat aT L; omega)) (by show 0 < s₂.gens.size; rw [hgens]; exact Nat.zero_lt_one) (fun i z h0 e => by
      have e' : s₂.gens[i]? = some z := e
      have := gens_lt (s := s₂) e'
      rw [hgens] at this
      have h2 : i < 1 := this
      omega)
  rw [hdue] at hrest
  exact {
    base := hgh
    ns := ⟨_, F13.ns, ⟨tt, rfl⟩, fun _ _ _ => rfl⟩
    evl := ⟨[], 0, (N13 _ (.head _)).1, trivial⟩
    gen := genObj_of hisg'
    gsl := by show s₂.gens[0]? = _; rw [hgens]; rfl
    rests := hrest
    ok := fun i z _ e => by
      have e' : s₂.gens[i]? = some z := e
      rw [hgens] at e'
      have : z = .fresh (.func chainBody (chainEnv Lg)) := by
        match i, e' with
        | 0, e' => exact (Option.some.inj e').symm
        | i + 1, e' => simp at e'
      rw [this]; trivial
    osv := M.os
    whole := rfl }
end Mine
end

section
open PySem PySem.W PyProof.Rows PySem.Spec PySem.Calls
set_option maxRecDepth 100000
set_option maxHeartbeats 1000000
namespace Mine

section
variable {prog : Program} {w : World} {POST : Result → Shared → Prop} {c : Code} {st : List Frame} {E : Value → Shared → Prop} {s : Shared}

/-- a `for` at its head, on my machine -/
theorem run_For {env : Env} {target iter : Expr} {body orelse : List Stmt} {pos : Pos} {A : Around} {Q : Flow → Shared → Prop} (hA : (Ctx.of c st).In A)
    (h : wpAny (model prog w) A (eval iter env) (fun x s₁ => wpAny (model prog w) A (pyIter x) (fun it s₂ =>
      RunCode prog w POST c st (.forLoop target it body orelse env) none (fun r s' => match r with | .ok f => Q f s' | .error e => False) s₂) (fun _ _ => False) s₁) (fun _ _ => False) s)
    (hs : ∀ x, foldedSetIterable iter env x = pure x := by intro _; rfl) :
    Run prog w POST c st (exec (.For target iter body orelse pos) env) Q E s := by
  rw [exec_For]
  refine run_bind (run_at ?_)
  refine run_bind (run_mono (run_of hA h) (fun x s₁ q => ?_) fun _ _ f => f.elim)
  rw [hs x]
  refine run_bind (run_pure ?_)
  refine run_bind (run_at ?_)
  refine run_bind (run_holding (run_mono (run_of hA q) (fun it s₂ q => ?_) fun _ _ f => f.elim))
  unfold runOwn
  refine run_onRaise (run_mono (E := fun _ _ => False) (run_run ?_) (fun _ _ q => q) fun _ _ f => f.elim)
  exact q

theorem run_execs_cons {env : Env} {x : Stmt} {rest : List Stmt} {Q : Flow → Shared → Prop} (h : Run prog w POST c st (exec x env) (fun f s' => match f with | .next => Run prog w POST c st (execs rest env) Q E s' | f => Q f s') E s) :
    Run prog w POST c st (execs (x :: rest) env) Q E s := by
  rw [execs_cons]
  refine run_bind (run_mono h (fun f s' q => ?_) fun _ _ q => q)
  cases f with
  | next => exact q
  | _ => exact run_pure q

/-- the body of a def, on my machine -/
theorem runCode_func {env : Env} {body : List Stmt} {R : Result → Shared → Prop}
    (h : ∀ F, (∃ k g l p, F = Frame.ret k none g l c p []) → Run prog w POST (.func body env) (F :: st) (execs body env) (fun f s' => R (.ok (.ret (match f with | .ret v => v | _ => .none))) s') (fun _ _ => False) s) :
    RunCode prog w POST c st (.func body env) none R s := by
  refine runCode_tree fun F hF => ?_
  show Run prog w POST _ _ (do point; match ← (execs body env).onRaise (leaving env) with | .ret v => ret v | _ => ret .none) _ _ s
  refine run_bind (run_point ?_)
  refine run_bind (run_onRaise (run_mono (E := fun _ _ => False) (h F hF) (fun f s' q => ?_) fun _ _ f => f.elim))
  cases f <;> exact run_pure q
end

theorem law_s11 {prog : Program} {w : World} {p : Program} {loose : List Str} {mean : ExcName → Option Value} {mg mb : Str → Option Value} {hb : Heap} {s : Shared} {L ev du : Addr} {oE : Obj} {n kd : Nat} {items more : List Value} {all : List Ev} {m : Str → Option Value} {Q : Flow → Shared → Prop} {E : Value → Shared → Prop}
    (X : (hd.heap_39 w.params).In hb) (T : Top p loose mean mg mb hb) (F : Fr hb L s.heap m) (hm : m (Str.ofString "due") = some (.ref du))
    (N : News hb L s.heap [(ev, listOf items.toArray n), (L + 1 + 1 + 1, oE), (du, listOf more.toArray kd)]) (dE : oE.data = .cell (some (.ref ev)))
    (hev : EvsAre s.heap items all) (hdu : EvsAre s.heap more all) (hQ : Q (.ret (.bool true)) s) :
    wpAny (model prog w) bigA (exec lawS11 (lawEnv L)) Q E s := by
  simp only [lawS11, lawEnv, lawScope, lawBody, lawDef, PySem.Challenge.pw_ak0011_01]
  k_steps
  refine wpAny_Name (wpAny_loadName_local rfl rfl F.ns hm ?_) (by decide)
  exact list_eq (N _ (.head _)).1 (N (du, listOf more.toArray kd) (.tail _ (.tail _ (.head _)))).1 hev hdu (by exact Nat.le_of_ble_eq_true rfl) hQ

theorem runCode_mono {prog : Program} {w : World} {POST : Result → Shared → Prop} {c : Code} {st : List Frame} {c' : Code} {hd₀ : Option Value} {R R' : Result → Shared → Prop} {s : Shared}
    (h : RunCode prog w POST c st c' hd₀ R s) (k : ∀ r s', R r s' → R' r s') : RunCode prog w POST c st c' hd₀ R' s := fun k₀ g l p kk => h k₀ g l p fun r s' q => kk r s' (k r s' q)

theorem lawS10_eq : ∃ px pc pos, lawS10 = .For (.Name (Str.ofString "one") px) (.Name (Str.ofString "chain") pc) loopBody [] pos := ⟨_, _, _, rfl⟩

/-- law's loop and what comes behind it -/
theorem law_tail {prog : Program} {w : World} {POST : Result → Shared → Prop} {p : Program} {loose : List Str} {mean : ExcName → Option Value} {mg mb : Str → Option Value} {hb : Heap} {L sc : Addr} {vs : List Value} {nv : Nat} {os0 : OsState} {hg : Heap} {n : Nat} {ev du ga : Addr} {oE : Obj} {kd : Nat} {st : Int} {ti tt0 : Tok} {bd : Int} {tb : Tok} {more : List Value} {all : List Ev} {gs : GenState} {s : Shared} {c : Code} {stk : List Frame} {E : Value → Shared → Prop}
    (X : (hd.heap_39 w.params).In hb) (T : Top p loose mean mg mb hb) (hbL : hb.objs.size ≤ L) (hstk : StOk stk 800 8000) (hw : c.weight ≤ 1) (hu : c.cUnits ≤ 3)
    (I : MidAt prog w POST hb L sc vs nv os0 hg n ev du ga oE kd st ti tt0 bd tb more all gs s) :
    Run prog w POST c stk (execs [lawS10, lawS11] (lawEnv L)) (fun fl s' => fl = .ret (.bool true) ∧ hg.StaysIn s'.heap ∧ AllOk 0 s' ∧ s'.os = os0) E s := by
  have hA : (Ctx.of c stk).In bigA := hstk.in c (by omega) (by omega)
  obtain ⟨px, pc, pos, e10⟩ := lawS10_eq
  refine run_execs_cons ?_
  rw [e10]
  obtain ⟨m, hm, ⟨tt, hmt⟩, hmy⟩ := I.inv.ns
  refine run_For hA (wpAny_Name (wpAny_loadName_local (m := m) rfl rfl hm (v := .ref ga) ?_ ?_) (by decide))
  · rw [hmy _ (by decide) (by decide)]; rfl
  refine wpAny_pyIter_gen I.isg ?_
  have hLoop := law_loop (E := E) (c := c) (stk := stk) (px := px) (D := 801) (U := 8003) X T I.stg hbL I.hgn I.hgL I.hge I.hev0 I.hcell I.dE I.hdu I.hmore I.hal I.lE I.Ln hstk hw hu rfl rfl all.length all [] 0 gs s (Nat.le_refl _) I.inv
  refine runCode_mono hLoop fun r s' q => ?_
  match r, q with
  | .ok (.ret v), q => exact ⟨by rw [q.1], q.2⟩
  | .ok .next, q =>
    obtain ⟨hg', ⟨m', hm', hmy'⟩, ⟨items, k, hev, hevs⟩, hok, hos⟩ := q
    show Run prog w POST c stk (execs [lawS11] (lawEnv L)) _ E s'
    refine run_execs_cons (run_of hA ?_)
    have hnb : ∀ {a}, @LT.lt Nat _ L a → hb.get? a = none := fun h => Heap.get?_none_of_le (Nat.le_trans hbL (Nat.le_of_lt h))
    have lE := I.lE
    refine law_s11 (du := du) (oE := oE) (ev := ev) (all := all) (n := k) (kd := kd) X T ⟨hm', fun b o e => hg' b o (I.stg b o e), hbL⟩ (by rw [hmy' _ (by decide) (by decide)]; rfl) (fun q hq => ?_) I.dE hevs (I.hmore.stay fun b o e _ => hg' b o e) ⟨rfl, hg', hok, hos⟩
    simp only [List.mem_cons, List.not_mem_nil, or_false] at hq
    rcases hq with rfl | rfl | rfl
    · exact ⟨hev, (by show @Ne Nat ev L; omega), hnb (by show @LT.lt Nat _ L ev; omega)⟩
    · exact ⟨hg' _ _ I.hcell, (by show @Ne Nat _ L; omega), hnb (by show @LT.lt Nat _ L _; omega)⟩
    · exact ⟨hg' _ _ I.hdu, (by show @Ne Nat _ L; omega), hnb (by show @LT.lt Nat _ L _; omega)⟩

/-- a def with cells, entered: the tree of its call -/
theorem enter_treeC {prog : Program} {w : World} {A : Around} {s : Shared} {E : Value → Shared → Prop} {Q : Fin → Shared → Prop} {K : Frag} {hb : Heap} {name qual : Str} {params : Arguments} {body : List Stmt} {scope : Scope}
    {dV kV doc pm cdv ct oc : Value} {an od : Option Addr} {osl : Array (Option Value)} {f : Addr} {args : Args} {binds : List (Str × Value)} {news : List (Addr × Obj)} {p : Program} {loose : List Str} {mean : ExcName → Option Value} {mg mb : Str → Option Value}
    (X : K.In hb) (T : Top p loose mean mg mb hb) (st : hb.StaysIn s.heap) (hz : hb.objs.size = s.heap.objs.size) (hN : ∀ q ∈ news, s.heap.get? q.1 = some q.2 ∧ hb.get? q.1 = none)
    (ho : K.lookup f = some ⟨oc, od, .func (fnOf name qual params body scope dV kV doc pm an cdv ct), osl⟩) (hcd : codeIn K cdv qual = true) (hroom : A.depth < recursionLimit)
    (hbind : BindsTo s (fnOf name qual params body scope dV kV doc pm an cdv ct) args binds) (hkind : (binds.all fun y => scope.names.lookup y.1 == some .local || scope.names.lookup y.1 == some .cell) = true)
    (hnd : ((cellsFrom 0 scope.names []).map (·.1)).Nodup)
    (h : ∀ L' h₁ tk cells, Fr hb L' h₁ (bindL (envOfC qual scope L' f cdv).kindOf binds fun _ => none) → News hb L' h₁ (cells ++ news) →
      CellsAre (bindC (envOfC qual scope L' f cdv).kindOf binds fun _ => none) (cellsFrom (L' + 1) scope.names []) cells → (∀ q ∈ news, q.1 < L') →
      Q (.again (.func body (envOfC qual scope L' f cdv))) { s with heap := h₁, toks := tk })
    (hco : scope.isCoroutine = false := by rfl) (hgen : scope.isGenerator = false := by rfl) (hk : scope.kind = .function := by rfl) : wpAny (model prog w) A (callAny (.ref f) args) Q E s := by
  simp only [callAny]
  refine wpAny_bind (wpAny_load ((X.keeps fun b o e => st b o e) _ _ ho) ?_)
  obtain ⟨c, oc', vs, tq, hc, hoc, hdc, hq⟩ := codeRec_of (X.keeps fun b o e => st b o e) hcd
  have hc' : cdv = .ref c := hc
  subst hc'
  simp only [callFunction, hco, hgen]
  refine wpAny_bind (m := field (.ref c) 1) (wpAny_field hoc hdc hq (wpAny_bind (wpAny_pure ?_)))
  refine wpAny_bind (hbind _ _ _ _ ?_)
  refine wpAny_bind (wpAny_newFunctionEnv_cells hk (kindsX hkind _) fun env' he s' x => ?_)
  subst he
  refine wpAny_bind (wpAny_enterFrame ((T.nolimit.keeps fun b o e => st b o e).keeps x.toInCall.keep) hroom (wpAny_pure ?_))
  obtain ⟨h₁, tk, rfl, _⟩ := x.done
  have hk₁ := x.toInCall.keep
  obtain ⟨cells, NC, Y⟩ := Cl.news (h₀ := s.heap) (Nat.le_refl _) fun n c hm => ⟨x.cell n c (lookup_of_mem_nodup (cellsFrom_names scope.names 0 (s.heap.objs.size + 1) [] [] rfl ▸ hnd) hm), x.above n c hm⟩
  refine h s.heap.objs.size h₁ tk cells ⟨x.toInCall.ns, fun b o e => hk₁ b o (st b o e), Nat.le_of_eq hz⟩ (fun p hp => ?_) Y (fun p hp => Heap.lt_size (hN p hp).1)
  rcases List.mem_append.mp hp with hp | hp
  · refine ⟨(NC p hp).1, (NC p hp).2.1, ?_⟩
    cases q : hb.get? p.1 with
    | none => rfl
    | some o => have := st _ _ q; rw [(NC p hp).2.2] at this; cases this
  · exact ⟨hk₁ _ _ (hN p hp).1, Nat.ne_of_lt (Heap.lt_size (hN p hp).1), (hN p hp).2⟩

theorem regK16 : PySem.Challenge.rw_ak0011_01 = PySem.Challenge.rw_ak0011_01 ∧ hd.heap_39 = hd.heap_39 := by k_fill; exact ⟨rfl, rfl⟩

/-- a call of law -/
theorem law_run {prog : Program} {w : World} {POST : Result → Shared → Prop} {p : Program} {loose : List Str} {mean : ExcName → Option Value} {mg mb : Str → Option Value} {hb : Heap} {sc : Addr} {vs : List Value} {xs : List Int} {nv : Nat} {s : Shared} {c : Code} {stk : List Frame}
    (X : (hd.heap_39 w.params).In hb) (T : Top p loose mean mg mb hb) (C : CodeHd hb 41 37) (h370 : hb.get? 37 = none) (st : hb.StaysIn s.heap) (hz : hb.objs.size = s.heap.objs.size)
    (h37 : s.heap.get? 37 = some (tabObj #[])) (hsc : s.heap.get? sc = some (listOf vs.toArray nv)) (hsc0 : hb.get? sc = none) (hne : @Ne Nat sc 37) (hi : IntsAre vs xs) (hxs : xs.length ≤ 63) (hgs : s.gens = #[])
    (hstk : StOk stk 400 7000) (hw : c.weight ≤ 301) (hu : c.cUnits ≤ 50) :
    RunCode prog w POST c stk (.call (.ref 61) ⟨[.ref sc], []⟩) none (fun r s' => r = .ok (.ret (.bool true)) ∧ hb.StaysIn s'.heap ∧ s'.heap.get? sc = some (listOf vs.toArray nv) ∧ (∃ ps, s'.heap.get? 37 = some (tabObj ps)) ∧ AllOk 0 s' ∧ s'.os = s.os) s := by
  refine runCode_tree fun F hF => ?_
  obtain ⟨kF, gF, lF, pF, rfl⟩ := hF
  have hst1 : StOk (.ret kF none gF lF c pF [] :: stk) 750 7050 := hstk.ret (by omega) (by omega)
  have hA : (Ctx.of (.call (.ref 61) ⟨[.ref sc], []⟩) (.ret kF none gF lF c pF [] :: stk)).In bigA := hst1.in _ (by show 750 + 0 ≤ 900; omega) (by show 7050 + 1 ≤ 9000; omega)
  refine run_mono (run_of (E := fun _ _ => False) hA (enter_treeC (K := hd.heap_39 w.params) (binds := [(Str.ofString "script", .ref sc)]) (news := [(37, tabObj #[]), (sc, listOf vs.toArray nv)]) (Q := fun fin s' => ∃ L h₁ tk cells, fin = .again (.func lawBody (lawEnv L)) ∧ s' = { s with heap := h₁, toks := tk } ∧
    Fr hb L h₁ (m0 L sc) ∧ News hb L h₁ (cells ++ [(37, tabObj #[]), (sc, listOf vs.toArray nv)]) ∧ CellsAre (bindC (lawEnv L).kindOf [(Str.ofString "script", .ref sc)] fun _ => none) (cellsFrom (L + 1) lawScope.names []) cells ∧ (∀ q ∈ [((37 : Addr), tabObj #[]), (sc, listOf vs.toArray nv)], q.1 < L)) X T st hz (fun q hq => ?_) (by k_is) (by k_is) (by decide) (BindsTo.of_eq rfl) rfl (by decide +kernel) fun L h₁ tk cells F N Y l => ⟨L, h₁, tk, cells, rfl, rfl, F, N, Y, l⟩)) (fun fin s' q => ?_) fun _ _ f => f.elim
  · simp only [List.mem_cons, List.not_mem_nil, or_false] at hq
    rcases hq with rfl | rfl
    · exact ⟨h37, h370⟩
    · exact ⟨hsc, hsc0⟩
  · obtain ⟨L, h₁, tk, cells, rfl, rfl, F, N, Y, l⟩ := q
    refine ⟨rfl, again_code (runCode_func fun F' hF' => ?_)⟩
    obtain ⟨k', g', l', p', rfl⟩ := hF'
    have hst2 : StOk (.ret k' none g' l' c p' [] :: stk) 800 8000 := hstk.ret (by omega) (by omega)
    have hw2 : (Code.func lawBody (lawEnv L)).weight = 1 := rfl
    have hu2 : (Code.func lawBody (lawEnv L)).cUnits = 3 := rfl
    have hA2 : (Ctx.of (.func lawBody (lawEnv L)) (.ret k' none g' l' c p' [] :: stk)).In bigA := hst2.in _ (by rw [hw2]; omega) (by rw [hu2]; omega)
    have el : lawBody = [lawS0, lawS1, lawS2, lawS3, lawS4, lawS5, lawS6, lawS7, lawS8, lawS9] ++ [lawS10, lawS11] := rfl
    have hl37 : @LT.lt Nat _ 37 L := l _ (.head _)
    have hlsc : @LT.lt Nat _ sc L := l _ (.tail _ (.head _))
    have hbL := F.above
    rw [show execs lawBody (lawEnv L) = execs [lawS0, lawS1, lawS2, lawS3, lawS4, lawS5, lawS6, lawS7, lawS8, lawS9] (lawEnv L) >>= fun f => match f with | .next => execs [lawS10, lawS11] (lawEnv L) | f => pure f from by rw [el]; exact execs_append _ _ _]
    k_cells Y
    simp only [List.cons_append, List.nil_append] at N
    rename_i oE oR oS dE dR dS
    refine run_bind (run_mono (run_of (E := fun _ _ => False) hA2 (law_prefix (POST := POST) X T C h370 F N dE dR dS hi hxs ⟨hl37, hlsc⟩ hne hgs)) (fun fl s' q => ?_) fun _ _ f => f.elim)
    obtain ⟨rfl, hg, n, ev, du, ga, oE', kd, st', ti, tt0, bd, tb, more, all, gs, I⟩ := q
    refine run_mono (law_tail X T hbL hst2 (by rw [hw2]; exact Nat.le_refl _) (by rw [hu2]; exact Nat.le_refl _) I) (fun fl s'' q => ?_) fun _ _ f => f
    obtain ⟨rfl, hg', hok, hos⟩ := q
    obtain ⟨ps, hps⟩ := I.tab
    exact ⟨rfl, fun b o e => hg' b o (I.stg b o e), hg' _ _ I.sc, ⟨ps, hg' _ _ hps⟩, hok, hos⟩
end Mine
end

section
open PySem PySem.W PyProof.Rows PySem.Spec PySem.Calls
set_option maxRecDepth 100000
set_option maxHeartbeats 1000000
namespace Mine

def noLists (K : Frag) : Bool := K.all fun p => match p.2.cls with
  | .type n => n != "list"
  | _ => true
theorem hide_K {K : Frag} {h : Heap} {sc : Addr} {its : Array Value} {n : Nat} (e : h.get? sc = some (listOf its n)) (X : K.In h) (hK : noLists K = true) : K.In (hideAll h [sc]) := fun a o q => by
  refine hideAll_get _ (X a o q) fun m => ?_
  rw [List.mem_singleton] at m
  subst m
  have e2 := X _ _ q
  rw [e] at e2
  cases e2
  have h2 := List.all_eq_true.mp hK _ (mem_of_lookupK q)
  exact absurd (show ("list" != "list") = true from h2) (by decide)
theorem hide_top {h : Heap} {sc : Addr} {its : Array Value} {n : Nat} {loose : List Str} {mean : ExcName → Option Value} {mg mb : Str → Option Value} (e : h.get? sc = some (listOf its n)) (T : Top topProg loose mean mg mb h) : Top topProg loose mean mg mb (hideAll h [sc]) := by
  have get : ∀ {b : Addr} {o : Obj}, h.get? b = some o → o ≠ listOf its n → (hideAll h [sc]).get? b = some o := fun {b o} e2 hn => hideAll_get _ e2 fun m => by
    rw [List.mem_singleton] at m
    subst m
    rw [e] at e2
    exact hn (Option.some.inj e2).symm
  have ns : ∀ {a : Addr} {mm : Str → Option Value}, h.Ns a mm → (hideAll h [sc]).Ns a mm := fun x =>
    let ⟨o, es, ep, e, hd, r⟩ := x; ⟨o, es, ep, get e (fun q => by rw [q] at hd; cases hd), hd, r⟩
  exact {
    g := ns T.g
    b := ns T.b
    nolimit := let ⟨mc, a, r⟩ := T.nolimit; ⟨mc, ns a, r⟩
    nodigits := let ⟨mc, a, r⟩ := T.nodigits; ⟨mc, ns a, r⟩
    fn := fun d hd => absurd (show d ∈ ([] : List DefRec) from hd) List.not_mem_nil
    own := fun o ho => absurd (show o ∈ ([] : List OwnSpec) from ho) List.not_mem_nil
    const := fun x d e => by cases (show (none : Option PyData) = some d from e)
    free := T.free
    builtins := T.builtins
    tab := fun d hd => absurd (show d ∈ ([] : List DefRec) from hd) List.not_mem_nil
    bmain := let ⟨bm, ob, a1, a2, a3, a4, r⟩ := T.bmain; ⟨bm, ob, a1, a2, get a3 (fun q => by rw [q] at a4; injection a4 with a4; exact absurd a4 (by decide)), a4, r⟩
    seer := fun e => absurd (show false = true from e) Bool.false_ne_true }
theorem regK17 : PySem.Challenge.rw_ak0011_01 = PySem.Challenge.rw_ak0011_01 ∧ hd.heap_39 = hd.heap_39 := by k_fill; exact ⟨rfl, rfl⟩
theorem no_lists {ps : Params} : noLists (hd.heap_39 ps) = true := by kernel_rfl
theorem no_tabs {ps : Params} : noTabs (hd.heap_39 ps) = true := by kernel_rfl
theorem law_at {ps : Params} : nsIn (hd.heap_39 ps) mainGlobals (Str.ofString "law") = some (some (.ref 61)) := by kernel_rfl
theorem hd_41 {ps : Params} : codeHdIn (hd.heap_39 ps) 41 37 = true := by kernel_rfl

theorem stOk_nil {D U : Nat} : StOk [] D U := ⟨rfl, Nat.zero_le _, Nat.zero_le _⟩

/-- the list laid for the script -/
theorem laid_list {P : Params} {h : Heap} {sc : Addr} {vs : List Value} {xs : List Int} (x : Well P h (.ref sc) (ofPy (.list (xs.map .int)))) (y : h.IsList sc vs.toArray) : h.get? sc = some (listOf vs.toArray 0) := by
  obtain ⟨o, ho, hc, n, hd⟩ := y
  generalize hq : ofPy (.list (xs.map PyData.int)) = d at x
  cases x with
  | list h1 h2 =>
    rw [ho] at h1
    cases h1
    injection hd with e1 e2
    rw [ho, e1]
  | _ => simp [ofPy] at hq

theorem t : PySem.Challenge.rw_ak0011_01.Holds := by
  refine hd ?_
  intro w s₀ s₁ mg mb G hY a o pm cd doc dV kV ho hdd hcd hD hmg hgs args vals as hpre hlay hrd hwl hlo
  have KX := km_in_of hY
  have h37 : s₁.heap.get? 37 = some (tabObj #[]) := km_tabs_of hY 37 (.head _)
  have C₁ : CodeHd s₁.heap 41 37 := codeHd_of_K KX hd_41
  have hT9 : TabsAt [(41, 37)] s₁.heap := fun q hq => by
    rw [List.mem_singleton] at hq
    subst hq
    exact ⟨C₁, h37⟩
  refine Ground.open G ?_
  intro T₁ B D TE TW
  have ha : a = 61 := by
    have h1 := mg_of KX T₁.g law_at
    have h2 := h1.symm.trans hmg
    cases h2; rfl
  subst ha
  clear hdd hmg hcd hD ho B D TE TW
  wrow_args hpre hlay hrd hwl hlo
  rename_i xs hs hl0 hL1 hr1 hl2 as4 as3 sc vs as0 hIL hra hW hR hI hrw hc63 hct
  have hxs : xs.length ≤ 63 := by omega
  have hsc := laid_list hW hIL
  have hne : @Ne Nat sc 37 := fun q => by
    rw [q] at hsc
    have h2 := hsc.symm.trans h37
    cases h2
  clear hs hl0 hL1 hr1 hl2 hIL hra hW hR hrw hc63 hct
  have X1 := ghost_K hT9 KX no_tabs
  have T1 := ghost_top hT9 T₁
  have hsc1 : (ghostOf s₁.heap [(41, 37)]).get? sc = some (listOf vs.toArray 0) := ghost_ne hsc (by simp only [List.map_cons, List.map_nil, List.mem_singleton]; exact hne)
  have X2 := hide_K hsc1 X1 no_lists
  have T2 := hide_top hsc1 T1
  have C2 := codeHd_of_K X2 hd_41
  have st : (hideAll (ghostOf s₁.heap [(41, 37)]) [sc]).StaysIn s₁.heap := fun b o e => of_hideAll _ (of_hideAll _ e)
  have hz : (hideAll (ghostOf s₁.heap [(41, 37)]) [sc]).objs.size = s₁.heap.objs.size := (hideAll_size _ _).trans (hideAll_size _ _)
  have h370 : (hideAll (ghostOf s₁.heap [(41, 37)]) [sc]).get? 37 = none := by
    cases q : (hideAll (ghostOf s₁.heap [(41, 37)]) [sc]).get? 37 with
    | none => rfl
    | some o =>
      have h1 := of_hideAll _ q
      have h2 : (ghostOf s₁.heap [(41, 37)]).get? 37 = none := hideAll_none _ (by simp)
      rw [h2] at h1; cases h1
  have hsc0 : (hideAll (ghostOf s₁.heap [(41, 37)]) [sc]).get? sc = none := hideAll_none _ (by simp)
  refine g_of_run (run_bind (run_call (runCode_mono (law_run X2 T2 C2 h370 st hz h37 hsc hsc0 hne hI hxs hgs stOk_nil (by decide +kernel) (by decide +kernel)) fun r s' q => ?_)))
  obtain ⟨rfl, hk, hsc', ⟨ps, hps⟩, hok, hos⟩ := q
  refine run_pure (g_end (.ok (.ret (.bool true))) ⟨⟨.inl ⟨.bool true, .bool true, [], rfl, fun _ => rfl, .bool _, ?_, fun _ => ⟨.nil, fun _ h => nomatch h⟩⟩, ⟨fun b o e => ?_, fun b o e => ?_⟩, hos, .of_eq rfl⟩, fun x hx => ?_⟩)
  · wrow_post
  · by_cases hb : b = 37
    · subst hb
      have h2 := e.symm.trans h37
      cases h2
      exact .inr (.inl ⟨(C₁.tab h37).isCodeTable, rfl, #[], ps, rfl, by rw [Array.empty_append]; exact hps⟩)
    · by_cases hb2 : b = sc
      · subst hb2
        have h2 := e.symm.trans hsc
        cases h2
        exact .inl hsc'
      · exact .inl (hk b o (hideAll_get _ (ghost_ne e (by simp only [List.map_cons, List.map_nil, List.mem_singleton]; exact hb)) (by rw [List.mem_singleton]; exact hb2)))
  · by_cases hb : b = 37
    · subst hb; exact ⟨_, hps⟩
    · by_cases hb2 : b = sc
      · subst hb2; exact ⟨_, hsc'⟩
      · exact ⟨o, hk b o (hideAll_get _ (ghost_ne e (by simp only [List.map_cons, List.map_nil, List.mem_singleton]; exact hb)) (by rw [List.mem_singleton]; exact hb2))⟩
  · obtain ⟨i, hi, rfl⟩ := Array.mem_iff_getElem.mp hx
    exact okGen_of (hok i _ (Nat.zero_le _) (Array.getElem?_eq_getElem hi))
end Mine
end

open PySem PySem.W PyProof.Rows
theorem PySem.Challenge.cw_ak0011_01_holds : PySem.Challenge.rw_ak0011_01.Holds := by
  exact Mine.t
