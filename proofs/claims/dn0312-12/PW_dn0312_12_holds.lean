import PyProof.Rows.All
import Wide.All
import OpenK.AllK
import Wide.FinOn
import Lean
import PySem.Challenge.RW_dn0312_12
set_option Elab.async false
set_option maxRecDepth 100000
set_option linter.unusedVariables false
set_option linter.unusedSimpArgs false
section
open PySem PySem.W PyProof.Rows
set_option Elab.async false
set_option maxRecDepth 100000
namespace Mine

/-- the one question to the collector that a scanner's step puts -/
noncomputable def isAsk : Code → Bool
  | .builtin "gc.ask" ⟨[.int 13 _], []⟩ => true
  | _ => false
theorem isAsk_shape {c : Code} (h : isAsk c = true) : ∃ t, c = .builtin "gc.ask" ⟨[.int 13 t], []⟩ := by
  unfold isAsk at h
  split at h
  · exact ⟨_, rfl⟩
  · cases h
noncomputable def denG (c : Code) : Sem Fin := cond (isAsk c) (ret (.bool false)) (denote table c)
noncomputable def Mg (prog : Program) (w : World) : Model := ⟨denG, prog, w⟩
theorem denG_of_not {c : Code} (h : isAsk c = false) : denG c = denote table c := by unfold denG; rw [h]; rfl

theorem entry_gc_ask : entryFor table "gc.ask" = some Builtin.«gc.ask» := entryFor_of_tree (by kernel_rfl)
theorem den_builtin (id : String) (args : Args) : denote table (.builtin id args) = (match entryFor table id with | some b => b args | none => unsupported ((withoutEnding? id "#data").getD id)) := rfl
theorem den_ask (t : Tok) : denote table (.builtin "gc.ask" ⟨[.int 13 t], []⟩) = .pure (.again (.builtin "lifetime.ask" ⟨[.int 13 t], []⟩)) := by
  rw [den_builtin, entry_gc_ask]; rfl
theorem loud_ask (t : Tok) : (Code.builtin "lifetime.ask" ⟨[.int 13 t], []⟩).quiet = false := by
  simp [Code.quiet, Thread.loud, Thread.atCollectorCode, Thread.atExit]

theorem not_runs_ask {M : Model} {Γ : Ctx} {p : Pos} {c' : Code} {fs : List Frame} {s s' : Shared} {e : End} (hq : c'.quiet = false) :
    ∀ t, t = Sem.pure (.again c') → ¬ Runs M Γ p t fs s e s' := by
  intro t ht h
  induction h <;> (try cases ht) <;> simp_all

theorem runs_den {prog : Program} {w : World} {Γ : Ctx} {p : Pos} {c : Code} {fs : List Frame} {s s' : Shared} {e : End}
    (h : Runs (model prog w) Γ p ((model prog w).den c) fs s e s') : (Mg prog w).den c = (model prog w).den c := by
  cases hc : isAsk c with
  | false => exact denG_of_not hc
  | true =>
    obtain ⟨t, rfl⟩ := isAsk_shape hc
    exact absurd h (not_runs_ask (loud_ask t) _ (den_ask t))

theorem runs_mono {prog : Program} {w : World} {Γ : Ctx} {p : Pos} {t : Sem Fin} {fs : List Frame} {s s' : Shared} {e : End}
    (h : Runs (model prog w) Γ p t fs s e s') : Runs (Mg prog w) Γ p t fs s e s' := by
  induction h with
  | done => exact .done
  | raise => exact .raise
  | again hq hr ih => exact .again hq (by rw [runs_den hr]; exact ih)
  | rule _ ih => exact .rule ih
  | «at» _ ih => exact .at ih
  | load ho _ ih => exact .load ho ih
  | update ho _ ih => exact .update ho ih
  | loadIfAlive _ ih => exact .loadIfAlive ih
  | point _ ih => exact .point ih
  | alloc _ ih => exact .alloc ih
  | fresh _ ih => exact .fresh ih
  | ask _ ih => exact .ask ih
  | choose hn _ ih => exact .choose hn ih
  | os _ ih => exact .os ih
  | handled _ ih => exact .handled ih
  | genState hg _ ih => exact .genState hg ih
  | stack _ ih => exact .stack ih
  | thread _ ih => exact .thread ih
  | newGen _ ih => exact .newGen ih
  | call h1 h2 ih1 ih2 => exact .call (by rw [runs_den h1]; exact ih1) ih2
  | callSusp h1 ih1 => exact .callSusp (by rw [runs_den h1]; exact ih1)
  | yield => exact .yield
  | resumeFresh hg h1 hq h2 ih1 ih2 => exact .resumeFresh hg (by rw [runs_den h1]; exact ih1) hq ih2
  | resumeSuspended hg h1 hq h2 ih1 ih2 => exact .resumeSuspended hg ih1 hq ih2
  | resumeJustStarted hg hv _ ih => exact .resumeJustStarted hg hv ih
  | resumeThrowFresh hg _ ih => exact .resumeThrowFresh hg ih
  | resumeRunning hg _ ih => exact .resumeRunning hg ih
  | resumeFinished hg _ ih => exact .resumeFinished hg ih
  | segRet _ _ ih1 ih2 => exact .segRet ih1 ih2
  | segGen _ _ ih1 ih2 => exact .segGen ih1 ih2
  | segSuspOut hs _ ih => exact .segSuspOut hs ih
  | segSuspGen hs _ hq _ ih1 ih2 => exact .segSuspGen hs ih1 hq ih2

theorem wpCode_mono_model {prog : Program} {w : World} {Γ : Ctx} {R R' : Result → Shared → Prop} {p : Pos} {s : Shared} (hR : ∀ r s', R r s' → R' r s')
    (h : wpCode (model prog w) Γ R p s) : wpCode (Mg prog w) Γ R' p s := by
  obtain ⟨r, s', hr, hx⟩ := h
  refine ⟨r, s', ?_, hR _ _ hx⟩
  show Runs (Mg prog w) Γ p ((Mg prog w).den Γ.code) [] s (.ret r) s'
  have hr' : Runs (model prog w) Γ p ((model prog w).den Γ.code) [] s (.ret r) s' := hr
  rw [runs_den hr']; exact runs_mono hr'

theorem wakes_mono {prog : Program} {w : World} {Γ : Ctx} {p : Pos} {g : Nat} {r : Resume} {s : Shared} {res : GenResult} {s' : Shared}
    (h : Wakes (model prog w) Γ p g r s res s') : Wakes (Mg prog w) Γ p g r s res s' := by
  unfold Wakes at h ⊢
  split at h
  · exact h
  · split at h
    · obtain ⟨e₁, s₁, h1, h2⟩ := h; exact ⟨e₁, s₁, by rw [runs_den h1]; exact runs_mono h1, h2⟩
    · exact h
    · exact h
  · obtain ⟨e₁, s₁, h1, h2⟩ := h; exact ⟨e₁, s₁, runs_mono h1, h2⟩
  · exact h
  · exact h

theorem wp_mono_model {α : Type} {prog : Program} {w : World} {Γ : Ctx} (t : Sem α) : ∀ {Q : α → Pos → Shared → Prop} {E : Value → Pos → Shared → Prop} {p : Pos} {s : Shared},
    Sem.wp (model prog w) Γ t Q E p s → Sem.wp (Mg prog w) Γ t Q E p s := by
  induction t with
  | pure a => intro Q E p s h; simpa only [Sem.wp] using h
  | raise a => intro Q E p s h; simpa only [Sem.wp] using h
  | unsupported a => intro Q E p s h; simp only [Sem.wp] at h
  | finish a => intro Q E p s h; simp only [Sem.wp] at h
  | rule _ k ih => intro Q E p s h; simp only [Sem.wp] at h ⊢; exact ih _ h
  | «at» _ k ih => intro Q E p s h; simp only [Sem.wp] at h ⊢; exact ih _ h
  | load _ _ k ih => intro Q E p s h; simp only [Sem.wp] at h ⊢; obtain ⟨o, ho, h⟩ := h; exact ⟨o, ho, ih _ h⟩
  | update _ _ _ k ih => intro Q E p s h; simp only [Sem.wp] at h ⊢; exact ⟨h.1, ih _ h.2⟩
  | alloc _ k ih => intro Q E p s h; simp only [Sem.wp] at h ⊢; exact ih _ h
  | loadIfAlive _ k ih => intro Q E p s h; simp only [Sem.wp] at h ⊢; exact ih _ h
  | point _ k ih => intro Q E p s h; simp only [Sem.wp] at h ⊢; exact ih _ h
  | register _ k ih => intro Q E p s h; simp only [Sem.wp] at h
  | fresh k ih => intro Q E p s h; simp only [Sem.wp] at h ⊢; exact ih _ h
  | ask k ih => intro Q E p s h; simp only [Sem.wp] at h ⊢; exact ih _ h
  | choose _ _ k ih => intro Q E p s h; simp only [Sem.wp] at h ⊢; exact ⟨h.1, ih _ h.2⟩
  | os _ _ k ih => intro Q E p s h; simp only [Sem.wp] at h ⊢; exact ih _ h
  | call c hd g l k ih => intro Q E p s h; simp only [Sem.wp] at h ⊢; exact wpCode_mono_model (fun r s' h' => ih _ h') h
  | handled _ k ih => intro Q E p s h; simp only [Sem.wp] at h ⊢; exact ih _ h
  | newGen _ k ih => intro Q E p s h; simp only [Sem.wp] at h ⊢; exact ih _ h
  | genState _ k ih => intro Q E p s h; simp only [Sem.wp] at h ⊢; obtain ⟨o, ho, h⟩ := h; exact ⟨o, ho, ih _ h⟩
  | resume _ _ _ k ih => intro Q E p s h; simp only [Sem.wp] at h ⊢; obtain ⟨res, s', hw, h⟩ := h; exact ⟨res, s', wakes_mono hw, ih _ h⟩
  | yield _ _ _ k ih => intro Q E p s h; simp only [Sem.wp] at h
  | stack k ih => intro Q E p s h; simp only [Sem.wp] at h ⊢; exact ih _ h
  | fork _ k ih => intro Q E p s h; simp only [Sem.wp] at h
  | thread k ih => intro Q E p s h; simp only [Sem.wp] at h ⊢; exact ih _ h
  | await _ _ _ _ k ih => intro Q E p s h; simp only [Sem.wp] at h

theorem any_mono_model {α : Type} {prog : Program} {w : World} {A : Around} {t : Sem α} {Q : α → Shared → Prop} {E : Value → Shared → Prop} {s : Shared}
    (h : wpAny (model prog w) A t Q E s) : wpAny (Mg prog w) A t Q E s := fun Γ p hΓ => wp_mono_model t (h Γ p hΓ)
end Mine

end
section
open PySem PySem.W PyProof.Rows
set_option Elab.async false
set_option maxRecDepth 100000
namespace Mine

theorem step_denG (prog : Program) (w : World) (s : Shared) (t : Thread) :
    step denG prog w s t = step (denote table) prog w s t ∨
      ∃ c s₁ pos stk, isAsk c = true ∧ step (denote table) prog w s t = .go s₁ ⟨denote table c, c, pos, stk⟩ ∧ step denG prog w s t = .go s₁ ⟨denG c, c, pos, stk⟩ := by
  obtain ⟨heap, gens, drawn, toks, os⟩ := s
  obtain ⟨cur, code, pos, stack⟩ := t
  cases cur with
  | pure a =>
    cases a with
    | done f => exact .inl rfl
    | again c =>
      cases hc : isAsk c with
      | false => left; simp only [step, denG_of_not hc]
      | true => right; exact ⟨c, _, _, _, hc, rfl, rfl⟩
  | call c h g l k =>
    cases hc : isAsk c with
    | false => left; simp only [step, denG_of_not hc]
    | true => right; exact ⟨c, _, _, _, hc, rfl, rfl⟩
  | resume g r l k =>
    simp only [step]
    cases hg : gens[g]? with
    | none => exact .inl rfl
    | some x =>
      cases x with
      | fresh c =>
        cases r with
        | throw e => exact .inl rfl
        | send v =>
          cases v with
          | none =>
            cases hc : isAsk c with
            | false => left; simp only [denG_of_not hc]
            | true => right; exact ⟨c, _, _, _, hc, rfl, rfl⟩
          | _ => exact .inl rfl
      | _ => exact .inl rfl
  | _ => exact .inl rfl

theorem watching_asleep {s : Shared} (hz : s.asleep) : s.watching = false := by
  unfold Shared.watching; rw [hz.1]; rfl

theorem ask_turn (prog : Program) (w : World) (s : Shared) (hz : s.asleep) (t : Tok) (code : Code) (pos : Pos) (stk : List Frame) :
    sstep (denote table) prog w (.single s ⟨.pure (.again (.builtin "lifetime.ask" ⟨[.int 13 t], []⟩)), code, pos, stk⟩) = .go (.single s ⟨ret (.bool false), code, pos, stk⟩) := by
  obtain ⟨hr, hc⟩ := hz
  have hw := watching_asleep ⟨hr, hc⟩
  have h1 : (Config.single s ⟨.pure (.again (.builtin "lifetime.ask" ⟨[.int 13 t], []⟩)), code, pos, stk⟩).collect? w.params = none := by
    simp [Config.collect?, Config.single, (nothing_to_collect _ _ _ s _ hr).1]
  have h2 : (Config.single s ⟨.pure (.again (.builtin "lifetime.ask" ⟨[.int 13 t], []⟩)), code, pos, stk⟩).collectable = [] := by
    simp [Config.collectable, Config.single, (nothing_to_collect w.params _ _ s _ hr).2]
  have hm : (Config.single s ⟨.pure (.again (.builtin "lifetime.ask" ⟨[.int 13 t], []⟩)), code, pos, stk⟩).moves w.params.profile = [.run 0] := by
    simp [Config.moves, Config.single, movesFrom, Thread.moves, Thread.atomic, Thread.rests, Thread.tells]
  have hp : (Config.single s ⟨.pure (.again (.builtin "lifetime.ask" ⟨[.int 13 t], []⟩)), code, pos, stk⟩).pick w = .ok (.run 0, .single s ⟨.pure (.again (.builtin "lifetime.ask" ⟨[.int 13 t], []⟩)), code, pos, stk⟩) := by
    simp only [Config.pick, h1, h2, Config.pickThread, hm]
    cases w.params.lifetimes <;> simp
  have hl : ∀ others, lifeStep (denote table) prog w others s ⟨.pure (.again (.builtin "lifetime.ask" ⟨[.int 13 t], []⟩)), code, pos, stk⟩ = .go s ⟨ret (.bool false), code, pos, stk⟩ := by
    intro others
    have e1 : collectorTurn? w.params others s ⟨.pure (.again (.builtin "lifetime.ask" ⟨[.int 13 t], []⟩)), code, pos, stk⟩ = some (askTurn w.params others s ⟨.pure (.again (.builtin "lifetime.ask" ⟨[.int 13 t], []⟩)), code, pos, stk⟩ [.int 13 t]) := rfl
    have e2 : askTurn w.params others s ⟨.pure (.again (.builtin "lifetime.ask" ⟨[.int 13 t], []⟩)), code, pos, stk⟩ [.int 13 t] = (s, ⟨ret (.bool false), code, pos, stk⟩) :=
      if_pos (c := ((!s.heap.life.gcEnabled || s.heap.life.thresholds.head? == some 0 || s.heap.life.collecting || !s.watching) = true)) (by rw [hw]; simp)
    unfold lifeStep
    rw [if_pos (by simp [Thread.special, Thread.atCollectorCode])]
    dsimp only
    rw [e1, e2]
    simp only [hc, Bool.false_and, Bool.false_eq_true, if_false]
  unfold sstep
  rw [hp]
  simp only [Config.move, Config.run, Config.single]
  simp [hl, others_single, frozenBadly, ThreadState.insideWrite, Thread.finalizes, Thread.special, Thread.atCollectorCode]

theorem sim (prog : Program) (w : World) : ∀ (n : Nat) (s : Shared) (t : Thread) (o : Outcome) (s' : Shared), s.asleep → o.ends = true → runN denG prog w n s t = .halted o s' →
    (∀ k s₁ t₁, runN denG prog w k s t = .running s₁ t₁ → t₁.calm = true) → ∃ m, schedN (denote table) prog w m (.single s t) = .halted o s' := by
  intro n
  induction n with
  | zero => intro s t o s' _ _ h; cases h
  | succ n ih =>
    intro s t o s' hz ho h hc
    have hcalm := hc 0 s t rfl
    have life : ∀ s₂ t₂, step denG prog w s t = .go s₂ t₂ → s₂.asleep := fun s₂ t₂ e => by
      simp only [Shared.asleep, step_life denG prog w s s₂ t t₂ e]; exact hz
    have later : ∀ s₂ t₂, step denG prog w s t = .go s₂ t₂ → ∀ k s₁ t₁, runN denG prog w k s₂ t₂ = .running s₁ t₁ → t₁.calm = true := fun s₂ t₂ e k s₁ t₁ hk =>
      hc (k + 1) s₁ t₁ (by simp only [runN, e]; exact hk)
    rcases step_denG prog w s t with e | ⟨c, s₁, pos, stk, hask, e1, e2⟩
    · rcases sstep_single (denote table) prog w s t hcalm hz with e' | e'
      · cases hs : step denG prog w s t with
        | go s₂ t₂ =>
          simp only [runN, hs] at h
          obtain ⟨m, hm⟩ := ih s₂ t₂ o s' (life _ _ hs) ho h (later _ _ hs)
          refine ⟨m + 1, ?_⟩
          simp only [schedN, e', ← e, hs, Step.lift]; exact hm
        | halt o₂ s₂ =>
          simp only [runN, hs] at h
          injection h with h1 h2
          subst h1 h2
          refine ⟨1, ?_⟩
          simp only [schedN, e', ← e, hs, Step.lift]
      · rw [← e] at e'
        simp only [runN, e'] at h
        injection h with h1 h2
        subst h1
        cases ho
    · simp only [runN, e2] at h
      obtain ⟨m, hm⟩ := ih _ _ o s' (life _ _ e2) ho h (later _ _ e2)
      obtain ⟨tk, rfl⟩ := isAsk_shape hask
      rcases sstep_single (denote table) prog w s t hcalm hz with e' | e'
      · refine ⟨m + 1 + 1, ?_⟩
        simp only [schedN, e', e1, Step.lift]
        rw [den_ask, ask_turn prog w s₁ (life _ _ e2)]
        exact hm
      · rw [e1] at e'; cases e'

/-- a run of the altered model, to its end, is a run of the scheduler with the real table -/
theorem halts {prog : Program} {w : World} {c : Code} {t : Sem Fin} {R : Result → Shared → Prop} {p : Pos} {s : Shared} (hreg : s.asleep)
    (h : Sem.wp (Mg prog w) ⟨c, none, none, [], none⟩ t (Sem.finPost (Mg prog w) ⟨c, none, none, [], none⟩ fun r s' => R r s' ∧ leftWithCleanup s'.gens = false)
      (fun e _ s' => R (.error e) s' ∧ leftWithCleanup s'.gens = false) p s) :
    ∃ n r s' s'', schedN (denote table) prog w n (.single s ⟨t, c, p, []⟩) = .halted (outcomeOf r) s'' ∧ s''.heap.life = s.heap.life ∧ s''.forget = s'.forget ∧ R r s' := by
  obtain ⟨n, r, s', hn, hR⟩ := (wp_iff_halts (M := Mg prog w) t R p s).mp h
  obtain ⟨s'', hr, hf, hcalm⟩ := runNI_real (Mg prog w).den (Mg prog w).prog (Mg prog w).w hn (outcomeOf_ends r)
  obtain ⟨m, hm⟩ := sim prog w n s ⟨t, c, p, []⟩ _ _ hreg (outcomeOf_ends r) hr hcalm
  exact ⟨m, r, s', s'', hm, runN_life _ _ _ hr, hf, hR⟩
end Mine

end
section
open PySem PySem.W PySem.Calls PyProof.Rows
set_option Elab.async false
set_option maxRecDepth 100000
namespace Mine

/-- the caller's own context: nothing stands below it -/
noncomputable abbrev callerG : Ctx := ⟨.builtin "claim.caller" {}, none, none, [], none⟩

theorem callFromG {c : ClaimW} {tree : List Value → Sem Fin} {w : World} {s : Shared} {free : Addr → Prop} {gens : Prop} {kept : Heap → Prop} (hz : s.asleep) (hgens : s.gens = #[])
    (hspec : ∀ args, c.pre args = true → WData.layableAll args = true → ∀ ord : List DictEntry → List DictEntry, (∀ l, (ord l).Perm l) →
      ∃ vs s₁, layAllW c.records (classAt s.heap) w.params ord args s = some (vs, s₁) ∧
        Sem.wp (Mg c.prog w) callerG (tree vs) (fun fin _ s' => ∃ f, fin = .done f ∧ (c.Ends s args vs s₁ (.ok f) s' ∧ s'.os = s.os ∧ AllBare s'.gens ∧ kept s'.heap)) (fun _ _ _ => False) default s₁) :
    c.CallFrom (fun vs => ⟨tree vs, .builtin "claim.caller" {}, default, []⟩) w free gens kept s := by
  intro args hpre hlay ord hord
  obtain ⟨vs, s₁, hlaid, hcode⟩ := hspec args hpre hlay ord hord
  have hal := layAllW_rest _ _ _ hlaid
  obtain ⟨k, r, s', s'', hsched, hlf, hfo, hcase, hos, hkp⟩ := halts (prog := c.prog) (w := w) (t := tree vs) (s := s₁)
    (R := fun r s' => c.Ends s args vs s₁ r s' ∧ s'.os = s.os ∧ kept s'.heap) (Shared.asleep_of_life hal.2.2.2 hz)
    (Sem.wp_mono _ _ _ (fun fin p' s' h' => by
      obtain ⟨f, rfl, h1, h2, h3, h4⟩ := h'
      exact ⟨⟨h1, h2, h4⟩, leftWithCleanup_false_of_bare h3⟩) (fun _ _ _ h' => h'.elim) _ _ hcode)
  obtain ⟨eh, _, _, eo, _⟩ := Shared.forget_eq hfo
  have hcase := hcase.congr eh
  rw [← eh] at hkp
  rw [← eo] at hos
  have hlife : s''.heap.life = s.heap.life := hlf.trans hal.2.2.2
  refine ⟨vs, s₁, hlaid, k, _, s'', hsched, ?_, (fun _ i x hx => by rw [hgens] at hx; simp at hx), hkp, by rw [hlife], Shared.rest_eq hos⟩
  rcases hcase with ⟨v, rfl, d1, d2, d3, d4, d5⟩ | ⟨e, ob, cls, rfl, d1, d2, d3, d4, d5⟩
  · exact .inl ⟨v, rfl, d1, d2, d3, fun b o y _ => d4 b o y, d5⟩
  · exact .inr ⟨e, ob, cls, rfl, d1, d2, d3, d4, fun b o y _ => d5 b o y⟩

/-! there is a token before the law is called -/
section
variable {R : WRecords} {cl : Str → Option Addr} {P : Params} {ord : List DictEntry → List DictEntry}
mutual
theorem layW_toks : ∀ (d : WData) (s : Shared) (r : Value × Shared), layW R cl P ord d s = some r → s.toks ≤ r.2.toks
  | .none, s, r, h => by rw [layW] at h; cases h; exact Nat.le_refl _
  | .bool b, s, r, h => by rw [layW] at h; cases h; exact Nat.le_refl _
  | .int i, s, r, h => by rw [layW] at h; cases h; exact Nat.le_succ _
  | .str i, s, r, h => by rw [layW] at h; cases h; exact Nat.le_succ _
  | .float i, s, r, h => by rw [layW] at h; cases h; exact Nat.le_succ _
  | .bytes i, s, r, h => by rw [layW] at h; cases h; exact Nat.le_succ _
  | .bytearray i, s, r, h => by rw [layW] at h; cases h; exact Nat.le_refl _
  | .list xs, s, r, h => by
    rw [layW] at h
    split at h
    · rename_i q hq; cases h; exact layAllW_toks xs s q hq
    · cases h
  | .tuple xs, s, r, h => by
    rw [layW] at h
    split at h
    · rename_i q hq; cases h; exact layAllW_toks xs s q hq
    · cases h
  | .dict xs, s, r, h => by
    rw [layW] at h
    split at h
    · rename_i q hq; cases h; exact layKvW_toks xs s q hq
    · cases h
  | .set xs, s, r, h => by
    rw [layW] at h
    split at h
    · rename_i q hq; cases h; exact layElemsW_toks xs s q hq
    · cases h
  | .frozenset xs, s, r, h => by
    rw [layW] at h
    split at h
    · rename_i q hq; cases h; exact layElemsW_toks xs s q hq
    · cases h
  | .obj c kvs, s, r, h => by
    rw [layW] at h
    split at h
    · split at h
      · split at h
        · split at h
          · rename_i q hq; cases h; exact layFieldsW_toks kvs s q hq
          · cases h
        · cases h
      · cases h
    · cases h
theorem layAllW_toks : ∀ (ds : List WData) (s : Shared) (r : List Value × Shared), layAllW R cl P ord ds s = some r → s.toks ≤ r.2.toks
  | [], s, r, h => by rw [layAllW] at h; cases h; exact Nat.le_refl _
  | x :: xs, s, r, h => by
    rw [layAllW] at h
    split at h
    · rename_i q hq
      split at h
      · rename_i q2 hq2; cases h; exact Nat.le_trans (layW_toks x s q hq) (layAllW_toks xs _ q2 hq2)
      · cases h
    · cases h
theorem layKvW_toks : ∀ (ds : List (WData × WData)) (s : Shared) (r : List DictEntry × Shared), layKvW R cl P ord ds s = some r → s.toks ≤ r.2.toks
  | [], s, r, h => by rw [layKvW] at h; cases h; exact Nat.le_refl _
  | (k, v) :: xs, s, r, h => by
    rw [layKvW] at h
    split at h
    · rename_i q hq
      split at h
      · rename_i q2 hq2
        split at h
        · rename_i q3 hq3; cases h; exact Nat.le_trans (Nat.le_trans (layW_toks k s q hq) (layW_toks v _ q2 hq2)) (layKvW_toks xs _ q3 hq3)
        · cases h
      · cases h
    · cases h
theorem layElemsW_toks : ∀ (ds : List WData) (s : Shared) (r : List DictEntry × Shared), layElemsW R cl P ord ds s = some r → s.toks ≤ r.2.toks
  | [], s, r, h => by rw [layElemsW] at h; cases h; exact Nat.le_refl _
  | x :: xs, s, r, h => by
    rw [layElemsW] at h
    split at h
    · rename_i q hq
      split at h
      · rename_i q2 hq2; cases h; exact Nat.le_trans (layW_toks x s q hq) (layElemsW_toks xs _ q2 hq2)
      · cases h
    · cases h
theorem layFieldsW_toks : ∀ (ds : List (Str × WData)) (s : Shared) (r : List DictEntry × Shared), layFieldsW R cl P ord ds s = some r → s.toks ≤ r.2.toks
  | [], s, r, h => by rw [layFieldsW] at h; cases h; exact Nat.le_refl _
  | (f, v) :: xs, s, r, h => by
    rw [layFieldsW] at h
    split at h
    · rename_i q hq
      split at h
      · rename_i q2 hq2; cases h; exact Nat.le_trans (Nat.le_trans (Nat.le_succ _) (layW_toks v _ q hq)) (layFieldsW_toks xs _ q2 hq2)
      · cases h
    · cases h
end
end
theorem importEnds_toks {tb : String → Option Builtin} {p : Program} {w : World} : ∀ (N : Nat) (s : Shared) (t : Thread) (s1 : Shared), importEnds tb p w N s t = some s1 → s.toks ≤ s1.toks
  | 0, _, _, _, h => by simp [importEnds] at h
  | N + 1, s, t, s1, h => by
    unfold importEnds at h
    split at h
    · cases h; exact Nat.le_refl _
    · cases h
    · split at h
      · rename_i s' t' hs
        exact Nat.le_trans (step_toks_le _ p w s s' t t' hs) (importEnds_toks N s' t' s1 h)
      · cases h
theorem topRun_toks {tb : String → Option Builtin} {p : Program} {w : World} {n₀ : Nat} {ann : Option Value} : ∀ (N : Nat) (s : Shared) (t : Thread) (s1 : Shared), topRun tb p w n₀ ann N s t = some s1 → s.toks ≤ s1.toks
  | 0, _, _, _, h => by simp [topRun] at h
  | N + 1, s, t, s1, h => by
    unfold topRun at h
    split at h
    · cases h; exact Nat.le_refl _
    · split at h
      · cases h
      · split at h
        · rename_i s' t' hs
          exact Nat.le_trans (step_toks_le _ p w s s' t t' hs) (topRun_toks N s' t' s1 h)
        · cases h
theorem fenceModule_toks {m : Str} {s s1 : Shared} (h : fenceModule? m s = some s1) : s1.toks = s.toks := by
  unfold fenceModule? at h
  repeat' split at h
  all_goals first | (cases h; done) | skip
  rw [Option.map_eq_some_iff] at h
  obtain ⟨o, _, rfl⟩ := h
  rfl
theorem fenceAll_toks : ∀ {ms : List Str} {s s1 : Shared}, fenceAll? ms s = some s1 → s1.toks = s.toks
  | [], s, s1, h => by cases h; rfl
  | m :: ms, s, s1, h => by
    rw [fenceAll?, Option.bind_eq_some_iff] at h
    obtain ⟨s2, h1, h2⟩ := h
    rw [fenceAll_toks h2, fenceModule_toks h1]
theorem copies_toks : ∀ {ms : List Str} {s s1 : Shared}, copiesAnew? ms s = some s1 → s1.toks = s.toks
  | [], s, s1, h => by cases h; rfl
  | m :: ms, s, s1, h => by
    rw [copiesAnew?, Option.bind_eq_some_iff] at h
    obtain ⟨s2, h1, h2⟩ := h
    rw [copyAnew?, Option.map_eq_some_iff] at h1
    obtain ⟨o, _, rfl⟩ := h1
    rw [copies_toks h2]
theorem openEnds_toks {tb : String → Option Builtin} {p : Program} {w : World} {N : Nat} {s : Shared} (h : openEnds tb p w N = some s) : 0 < s.toks := by
  unfold openEnds fencedOpening at h
  rw [Option.bind_eq_some_iff] at h
  obtain ⟨s0, h0, h⟩ := h
  rw [Option.bind_eq_some_iff] at h0
  obtain ⟨s', h1, h0⟩ := h0
  have t1 : 0 < s'.toks := Nat.lt_of_lt_of_le (show 0 < (start (opening p)).1.toks from Nat.one_pos) (importEnds_toks _ _ _ _ h1)
  have t2 : s0.toks = s'.toks := by
    unfold fenceModules? at h0
    rw [Option.bind_eq_some_iff] at h0
    obtain ⟨s2, h2, h0⟩ := h0
    split at h0
    · rw [copies_toks h0, fenceAll_toks h2]
    · cases h0; exact fenceAll_toks h2
  unfold topFrom at h
  split at h
  · rw [Option.bind_eq_some_iff] at h
    obtain ⟨s3, h3, h⟩ := h
    split at h
    · cases h; exact Nat.lt_of_lt_of_le (t2 ▸ t1) (topRun_toks _ _ _ _ h3)
    · cases h
  · cases h
theorem leftT {p q : Program} {loose : List Str} {Xt : Shared → Bool} {α : Type} {Yf : Shared → α} {Ya : World → α} {N : Nat} (left : LeftO p q loose Xt Yf Ya N) : LeftO p q loose Xt (fun s => (Yf s, decide (0 < s.toks))) (fun w => (Ya w, true)) N := fun w => by
  have h := left w
  rw [Option.map_eq_some_iff] at h ⊢
  obtain ⟨s, h1, h2⟩ := h
  refine ⟨s, h1, ?_⟩
  rw [Prod.mk.injEq] at h2
  rw [h2.1]
  show (_, (Yf s, decide (0 < s.toks))) = (_, (Ya w, true))
  rw [h2.2, decide_eq_true (openEnds_toks h1)]

/-- what is left to show of the law's call -/
noncomputable abbrev WalkG (q : Program) (loose : List Str) (XP : (Str → Option Value) → Heap → Prop) (YP : World → Heap → Prop) (r : RowW) (d : DefRec) (kwd : List (Str × PySem.Expr)) : Prop :=
  ∀ (w : World) (s₀ s₁ : Shared) (mg mb : Str → Option Value), Ground q loose r.records XP w s₀ mg mb s₁.heap → YP w s₁.heap → ∀ (a : Addr) (o : Obj) (pm cd doc dV kV : Value), s₁.heap.get? a = some o →
    o.data = .func { docDef d.name d.params d.body d.scope pm cd doc with defaults := dV, kwdefaults := kV } → s₁.heap.CodeRec cd d.name → Dflts mg s₁.heap d.params kwd dV kV → mg d.name = some (.ref a) → s₁.gens = #[] → 0 < s₁.toks →
    ∀ (args : List WData) (vals : List Value) (as : List Addr), r.claim.pre args = true → WData.layableAll args = true → ReadsAllW r.records (classAt s₀.heap) s₁.heap vals args as → WellAll w.params s₁.heap vals args → (∀ a ∈ as, (a == sysModules) = false) →
      Sem.wp (Mg r.prog w) callerG (PySem.call (.ref a) vals) (fun v _ s' => GoodWG r.claim (classAt s₀.heap) (ExcName.means s₀.heap) args s₁ (.ok (.ret v)) s') (fun _ _ _ => False) default s₁

theorem holdsG {r : OpenRow} {q : Program} {loose : List Str} {Xt : Shared → Bool} {XP : (Str → Option Value) → Heap → Prop} {α : Type} {Yf : Shared → α} {Ya : World → α} {YP : World → Heap → Prop} {d : DefRec} {kwd : List (Str × PySem.Expr)} {N : Nat}
    (left : LeftO r.prog q loose Xt Yf Ya N) (hY : ∀ w s, Yf s = Ya w → YP w s.heap) (hYk : ∀ w h h', YP w h → (∀ b o, h.get? b = some o → h'.get? b = some o) → YP w h')
    (hX : ∀ s, Xt s = true → XP (s.heap.nsMap mainGlobals) s.heap) (hXk : ∀ mg h h', XP mg h → (∀ b o, h.get? b = some o → h'.get? b = some o) → XP mg h')
    (hdef : defOf q r.name = some (d, kwd)) (hp : r.prog.theDef r.name = some (d.params, d.body, d.scope)) (hk : kwWritten? d.params.kwonlyargs d.params.kw_defaults = some kwd) (hRf : ∀ s, Xt s = true → RecFacts r.records s.heap) (hwr : (!r.writes || r.records.isEmpty) = true)
    (k1 : r.wellSaid = true) (ok : (chainsOk q && opensWell r.prog && (frees r.toRowW && r.within.isEmpty)) = true) (hb : r.prog.bare) (hw : r.toRowW.promised)
    (call : WalkG q loose XP YP r.toRowW d kwd) : r.Holds := by
  obtain ⟨ok, k5⟩ := Bool.and_eq_true_iff.mp ok
  obtain ⟨hch, o1⟩ := Bool.and_eq_true_iff.mp ok
  obtain ⟨k5, k6⟩ := Bool.and_eq_true_iff.mp k5
  obtain ⟨hsame, hu, ha, hap, hm⟩ := frees_parts k5
  refine ⟨k1, hw, ⟨hb, o1, by show r.makers.map _ = []; rw [hm]; rfl⟩, hw.witness, fun w => ⟨(left.behind hX hch w).1, fun s' hs' => ?_⟩⟩
  obtain ⟨s₀, hf, hg0, s, hT, hz, hgens, hg, G00, y0⟩ := ((leftT left).behind (XP := fun mg h => XP mg h ∧ RecFacts r.records h) (fun s hs => ⟨hX s hs, hRf s hs⟩) hch w).2 s' hs'
  obtain ⟨y, htk⟩ := Prod.mk.inj y0
  have htk : 0 < s.toks := of_decide_eq_true htk
  have G0 : Ground q loose [] XP w s (s.heap.nsMap mainGlobals) (s.heap.nsMap builtinsNs) s.heap := ⟨G00.T, G00.B, G00.D, G00.TE, G00.TD, G00.W, G00.X.1, G00.cls, G00.has, G00.apart, G00.once, G00.K⟩
  have RF := G00.X.2
  have hT' := hT
  refine ⟨s₀, hf, hg0, s, hT, fun n hn => ?_, RF.1, RF.2.1, ?_⟩
  · obtain rfl : n = r.name := by split at hn <;> simp_all
    exact pinned_of_view hg G0 hdef hp hk
  have hgens : s.gens = #[] := Array.eq_empty_of_size_eq_zero (beq_iff_eq.mp hgens)
  have G : Ground q loose r.records XP w s _ _ s.heap := RF.ground G0
  refine callFromG (c := r.toRowW.claim) (tree := fun vs => do match ← nsGet mainNs r.name with
      | some f => do ret (← PySem.call f vs)
      | none => unsupported "claim.caller:no-such-global") hz hgens fun args hpre hlay ord hord => ?_
  obtain ⟨⟨vs, s₁⟩, hlaid⟩ := Option.isSome_iff_exists.mp (layAllW_isSome (P := w.params) (ord := ord) G.has args r.args s (pre_splitW hpre).1)
  have keeps := layAllW_keeps _ _ _ hlaid
  have hal := layAllW_rest _ _ _ hlaid
  obtain ⟨as, hrd, hin, hold⟩ := reads_layAllW hord _ _ _ hlaid hlay s₁.heap (fun _ _ e => e)
  have L : Laid r.records w s s₁ args vs as := ⟨⟨ord, hord, hlaid⟩, hrd, hin, hold, keeps, hal.1.trans hgens, hal.2.2.1⟩
  have G₁ := G.keeps hXk keeps
  obtain ⟨a, o, pm, cd, doc, dV, kV, h1, h2, h3, h4, h5⟩ := G₁.fn hdef
  have h := call w s s₁ _ _ G₁ (hYk _ _ _ (hY w s y) keeps) a o pm cd doc dV kV h2 h3 h4 h5 (defOf_name hdef ▸ h1) L.gens (Nat.lt_of_lt_of_le htk (layAllW_toks _ _ _ hlaid)) args vs as hpre hlay L.reads L.well (L.low G.low)
  have hi := ident_freeW hu ha hap
  have hwi : r.claim.within = [] := List.isEmpty_iff.mp k6
  refine ⟨vs, s₁, hlaid, ?_⟩
  rw [Sem.wp_bind']
  have hns : s₁.heap.Ns mainNs (s.heap.nsMap mainGlobals) := G₁.T.g
  refine (Sem.wp_nsGet _ _ _ _ _ hns _ _).mpr ?_
  rw [h1]
  show Sem.wp _ _ (PySem.call (.ref a) vs >>= fun v => ret v) _ _ _ _
  rw [Sem.wp_bind']
  refine Sem.wp_mono _ _ _ (fun v p' s' g => ?_) (fun _ _ _ x => x) _ _ h
  have z := g.laid (c := r.claim) hsame hwi hi L
  exact ⟨_, rfl, z.1, z.2.1, z.2.2, fun q => ⟨namesKept_of hT' hg _ keeps g.2.1.old, noTable hwr q⟩⟩
end Mine

end
section
open PySem PySem.W PySem.Calls PyProof.Rows
set_option Elab.async false
set_option maxRecDepth 100000
namespace Mine

noncomputable def notCI : Code → Bool
  | .builtin id _ => !(id == "callable_iterator.__next__")
  | _ => true
noncomputable def CleanB (Γ : Ctx) : Prop := ∀ x ∈ Γ.below, notCI x.1 = true
noncomputable def Clean (Γ : Ctx) : Prop := notCI Γ.code = true ∧ CleanB Γ

theorem clean_enter {Γ : Ctx} (h : Clean Γ) (c : Code) (hd : Option Value) (p : Pos) : CleanB (Γ.enter c hd p) := by
  intro x hx
  rcases List.mem_cons.mp hx with rfl | hx
  · exact h.1
  · exact h.2 x hx
theorem clean_caller : Clean callerG := ⟨rfl, fun _ hx => nomatch hx⟩

/-! the count of tokens only grows -/
theorem runs_toks {M : Model} {Γ : Ctx} {p : Pos} {t : Sem Fin} {fs : List Frame} {s s' : Shared} {e : End} (h : Runs M Γ p t fs s e s') : s.toks ≤ s'.toks := by
  induction h <;> (try simp only [Shared.setGen] at *) <;> omega
theorem wakes_toks {M : Model} {Γ : Ctx} {p : Pos} {g : Nat} {r : Resume} {s s' : Shared} {res : GenResult} (h : Wakes M Γ p g r s res s') : s.toks ≤ s'.toks := by
  unfold Wakes at h
  split at h
  · exact h.elim
  · split at h
    · obtain ⟨e₁, s₁, hr, _, _, rfl⟩ := h; exact (runs_toks hr : (s.setGen g .running).toks ≤ s₁.toks)
    · rw [h.2]; exact Nat.le_refl _
    · rw [h.2]; exact Nat.le_refl _
  · obtain ⟨e₁, s₁, hr, _, _, rfl⟩ := h; exact (runs_toks hr : (s.setGen g .running).toks ≤ s₁.toks)
  · rw [h.2]; exact Nat.le_refl _
  · rw [h.2]; exact Nat.le_refl _
theorem wp_toks {α : Type} (M : Model) (Γ : Ctx) (n : Nat) (t : Sem α) : ∀ (Q : α → Pos → Shared → Prop) (E : Value → Pos → Shared → Prop) (p : Pos) (s : Shared), n ≤ s.toks → Sem.wp M Γ t Q E p s →
    Sem.wp M Γ t (fun a p' s' => n ≤ s'.toks ∧ Q a p' s') E p s := by
  induction t with
  | pure a => intro Q E p s hn h; exact ⟨hn, h⟩
  | raise e => intro Q E p s hn h; exact h
  | unsupported _ => intro Q E p s _ h; exact h
  | finish _ => intro Q E p s _ h; exact h
  | rule _ k ih => intro Q E p s hn h; exact ih () Q E p s hn h
  | «at» p' k ih => intro Q E p s hn h; exact ih () Q E p' s hn h
  | load a _ k ih => intro Q E p s hn h; obtain ⟨o, ho, h⟩ := h; exact ⟨o, ho, ih o Q E p s hn h⟩
  | update a _ f k ih => intro Q E p s hn h; exact ⟨h.1, ih () Q E p _ hn h.2⟩
  | loadIfAlive a k ih => intro Q E p s hn h; exact ih _ Q E p s hn h
  | point _ k ih => intro Q E p s hn h; exact ih () Q E p s hn h
  | register _ _ => intro Q E p s _ h; exact h
  | alloc o k ih => intro Q E p s hn h; exact ih _ Q E p _ hn h
  | fresh k ih => intro Q E p s hn h; exact ih _ Q E p { s with toks := s.toks + 1 } (Nat.le_succ_of_le hn) h
  | ask k ih => intro Q E p s hn h; exact ih _ Q E p s hn h
  | choose src m k ih => intro Q E p s hn h; exact ⟨h.1, ih _ Q E p _ hn h.2⟩
  | os q _ k ih => intro Q E p s hn h; exact ih _ Q E p _ hn h
  | call c hd _ _ k ih => intro Q E p s hn h; obtain ⟨r, s', hr, h⟩ := h; exact ⟨r, s', hr, ih r Q E p s' (Nat.le_trans hn (runs_toks hr)) h⟩
  | handled own k ih => intro Q E p s hn h; exact ih _ Q E p s hn h
  | genState g k ih => intro Q E p s hn h; obtain ⟨st, hs, h⟩ := h; exact ⟨st, hs, ih _ Q E p s hn h⟩
  | newGen c k ih => intro Q E p s hn h; exact ih _ Q E p _ hn h
  | resume g r _ k ih => intro Q E p s hn h; obtain ⟨res, s', hw, h⟩ := h; exact ⟨res, s', hw, ih res Q E p s' (Nat.le_trans hn (wakes_toks hw)) h⟩
  | yield _ _ _ _ => intro Q E p s _ h; exact h
  | stack k ih => intro Q E p s hn h; exact ih _ Q E p s hn h
  | fork _ _ => intro Q E p s _ h; exact h
  | thread k ih => intro Q E p s hn h; exact ih _ Q E p s hn h
  | await _ _ _ _ _ => intro Q E p s _ h; exact h

/-- from s the tree comes to its end without an exception, in every context that runs no callable iterator's step -/
noncomputable def W {α : Type} (prog : Program) (w : World) (A : Around) (t : Sem α) (Q : α → Shared → Prop) (s : Shared) : Prop :=
  0 < s.toks → ∀ Γ p, Γ.In A → Clean Γ → Sem.wp (Mg prog w) Γ t (fun a _ s' => Q a s') (fun _ _ _ => False) p s
noncomputable def C (prog : Program) (w : World) (A : Around) (c : Code) (R : Flow → Shared → Prop) (s : Shared) : Prop :=
  0 < s.toks → ∀ Γ p, Γ.code = c → Γ.Below A → CleanB Γ → wpCode (Mg prog w) Γ (fun r s' => match r with | .ok f => R f s' | .error _ => False) p s

section
variable {α β : Type} {prog : Program} {w : World} {A : Around} {s : Shared}

theorem W.of_any {t : Sem α} {Q : α → Shared → Prop} (h : wpAny (model prog w) A t Q (fun _ _ => False) s) : W prog w A t Q s :=
  fun _ Γ p hΓ _ => any_mono_model h Γ p hΓ
theorem W.mono {t : Sem α} {Q Q' : α → Shared → Prop} (h : W prog w A t Q s) (hQ : ∀ a s', Q a s' → Q' a s') : W prog w A t Q' s :=
  fun ht Γ p hΓ hc => Sem.wp_mono _ Γ t (fun a _ s => hQ a s) (fun _ _ _ x => x) p s (h ht Γ p hΓ hc)
theorem W.pure {a : α} {Q : α → Shared → Prop} (h : Q a s) : W prog w A (Pure.pure a) Q s := fun _ _ _ _ _ => h
theorem W.bind {m : Sem α} {f : α → Sem β} {Q : β → Shared → Prop} (h : W prog w A m (fun a s' => W prog w A (f a) Q s') s) : W prog w A (m >>= f) Q s := fun ht Γ p hΓ hc => by
  rw [Sem.wp_bind']
  exact Sem.wp_mono _ Γ m (fun a p' s' h' => h'.2 h'.1 Γ p' hΓ hc) (fun _ _ _ h' => h') p s (wp_toks _ Γ 1 m _ _ p s ht (h ht Γ p hΓ hc))
theorem W.map {m : Sem α} {f : α → β} {Q : β → Shared → Prop} (h : W prog w A m (fun a s' => Q (f a) s') s) : W prog w A (f <$> m) Q s := fun ht Γ p hΓ hc => by
  rw [Sem.wp_map]; exact h ht Γ p hΓ hc
theorem W.holding {vs : List Value} {m : Sem α} {Q : α → Shared → Prop} (h : W prog w A m Q s) : W prog w A (PySem.holding vs m) Q s :=
  fun ht Γ p hΓ hc => by rw [Sem.wp_holding]; exact h ht Γ p hΓ hc
theorem W.keep {vs : List Value} {m : Sem α} {Q : α → Shared → Prop} (h : W prog w A m Q s) : W prog w A (m.keep vs) Q s :=
  fun ht Γ p hΓ hc => by rw [Sem.wp_keep]; exact h ht Γ p hΓ hc
theorem W.standAt {pos : Pos} {Q : Unit → Shared → Prop} (h : Q () s) : W prog w A (PySem.standAt pos) Q s := fun _ _ _ _ _ => h
theorem W.rule {tag : String} {Q : Unit → Shared → Prop} (h : Q () s) : W prog w A (PySem.rule tag) Q s := fun _ _ _ _ _ => h
theorem W.point {Q : Unit → Shared → Prop} (h : Q () s) : W prog w A PySem.point Q s := fun _ _ _ _ _ => h
theorem W.onRaise {m : Sem α} {k : Value → Sem Unit} {Q : α → Shared → Prop} (h : W prog w A m Q s) : W prog w A (m.onRaise k) Q s := fun ht Γ p hΓ hc => by
  rw [Sem.wp_onRaise]
  exact Sem.wp_mono _ Γ m (fun _ _ _ h' => h') (fun _ _ _ h' => h'.elim) p s (h ht Γ p hΓ hc)
theorem W.attempt {m : Sem α} {Q : Except Value α → Shared → Prop} (h : W prog w A m (fun a => Q (.ok a)) s) : W prog w A m.attempt Q s := fun ht Γ p hΓ hc => by
  rw [Sem.wp_attempt]
  exact Sem.wp_mono _ Γ m (fun _ _ _ h' => h') (fun _ _ _ h' => h'.elim) p s (h ht Γ p hΓ hc)
theorem W.operate {vs : List Value} {m : Sem Value} {Q : Value → Shared → Prop} (h : W prog w A m Q s) : W prog w A (PySem.operate vs m) Q s := fun ht Γ p hΓ hc => by
  rw [Sem.wp_operate]; exact h ht Γ p hΓ hc
theorem W.release {vs k : List Value} {Q : Unit → Shared → Prop} (h : Q () s) : W prog w A (PySem.release vs k) Q s := fun _ Γ p _ _ => by
  rw [Sem.wp_release]; exact h
theorem W.of_eq {t t' : Sem α} {Q : α → Shared → Prop} (e : t = t') (h : W prog w A t' Q s) : W prog w A t Q s := e ▸ h
theorem W.pureQ {a : α} {Q : α → Shared → Prop} (h : Q a s) : W prog w A (Sem.pure a) Q s := fun _ _ _ _ _ => h

theorem C.mono {c : Code} {R R' : Flow → Shared → Prop} (h : C prog w A c R s) (hR : ∀ f s', R f s' → R' f s') : C prog w A c R' s :=
  fun ht Γ p hc hΓ hb => wpCode_mono (fun r s' h' => by cases r with | ok f => exact hR f s' h' | error e => exact h') (h ht Γ p hc hΓ hb)
theorem C.of_any {c : Code} {R : Flow → Shared → Prop} (h : codeAny (model prog w) A c (fun r s' => match r with | .ok f => R f s' | .error _ => False) s) : C prog w A c R s :=
  fun _ Γ p hc hΓ _ => wpCode_mono_model (fun _ _ x => x) (h Γ p hc hΓ)
theorem W.run {c : Code} {Q : Flow → Shared → Prop} (hc : C prog w A c Q s) : W prog w A (PySem.run c) Q s := fun ht Γ p hΓ hcl => by
  rw [Sem.wp_run]
  refine wpCode_mono (fun r s' h' => ?_) (hc ht _ p rfl (by have := hΓ.enter c none p (by intro x; cases x); exact this) (clean_enter hcl c none p))
  cases r with
  | ok f => exact h'
  | error e => exact h'
theorem W.runValue {c : Code} {Q : Value → Shared → Prop} (hc : C prog w A c (fun f s' => ∃ v, f = .ret v ∧ Q v s') s) : W prog w A (PySem.runValue c) Q s := by
  unfold PySem.runValue
  refine W.bind (W.mono (W.run hc) fun f s' h' => ?_)
  obtain ⟨v, rfl, hv⟩ := h'
  exact W.pure hv
theorem W.call {f : Value} {pos : List Value} {kw : List (Str × Value)} {Q : Value → Shared → Prop} (hc : C prog w A (.call f ⟨pos, kw⟩) (fun f s' => ∃ v, f = .ret v ∧ Q v s') s) :
    W prog w A (PySem.call f pos kw) Q s := W.runValue hc
theorem W.runOwn {c : Code} {env : Env} {Q : Flow → Shared → Prop} (hc : C prog w A c Q s) : W prog w A (PySem.runOwn c env) Q s := by
  unfold PySem.runOwn
  exact W.onRaise (W.run hc)

theorem C.of_tree {c : Code} {R : Flow → Shared → Prop} (hci : notCI c = true) (hask : isAsk c = false)
    (h : W prog w (A.under c) (denote table c) (fun fin s' => match fin with | .done f => R f s' | .again c' => c'.quiet = true ∧ C prog w A c' R s') s) : C prog w A c R s := fun ht Γ p hc hΓ hb => by
  rw [wpCode_iff_wp, hc]
  show Sem.wp (Mg prog w) Γ (denG c) _ _ p s
  rw [denG_of_not hask]
  refine Sem.wp_mono _ Γ _ (fun fin p' s' h' => ?_) (fun _ _ _ h' => h'.elim) p s (wp_toks _ Γ 1 _ _ _ p s ht (h ht Γ p (hc ▸ hΓ.in) ⟨by rw [hc]; exact hci, hb⟩))
  obtain ⟨ht', h'⟩ := h'
  cases fin with
  | done f => exact h'
  | again c' => exact ⟨h'.1, h'.2 ht' (Γ.goto c') p' rfl (hΓ.goto c') hb⟩

theorem C.loop {c : Code} {R : Flow → Shared → Prop} (hci : notCI c = true) (hask : isAsk c = false) (hq : c.quiet = true) (I : Nat → Shared → Prop)
    (turn : ∀ n s, I n s → W prog w (A.under c) (denote table c)
      (fun fin s' => match fin with | .done f => R f s' | .again c' => (c' = c ∧ ∃ m, m < n ∧ I m s') ∨ (c'.quiet = true ∧ C prog w A c' R s')) s)
    (n : Nat) (h : I n s) : C prog w A c R s := by
  induction n using Nat.strongRecOn generalizing s with
  | ind n ih =>
    refine C.of_tree hci hask (W.mono (turn n s h) (fun fin s' hf => ?_))
    cases fin with
    | done f => exact hf
    | again c' =>
      rcases hf with ⟨rfl, m, hm, hI⟩ | hf
      · exact ⟨hq, ih m hm hI⟩
      · exact hf

/-! the codes of the text -/
theorem C.block {stmts : List Stmt} {env : Env} {R : Flow → Shared → Prop} (h : W prog w A (execs stmts env) R s) : C prog w A (.block stmts env) R s := by
  refine C.of_tree rfl rfl ?_
  show W _ _ A (do return Fin.done (← (execs stmts env).onRaise (fun x => do noteFrame x env; theTreesLotGoes x))) _ s
  exact W.bind (W.mono (W.onRaise h) fun f s' h' => W.pure h')

theorem C.func {body : List Stmt} {env : Env} {R : Flow → Shared → Prop} (h : W prog w (A.deeper env) (execs body env) (fun f s' => R (.ret (match f with | .ret v => v | _ => .none)) s') s) : C prog w A (.func body env) R s := by
  refine C.of_tree rfl rfl ?_
  show W _ _ (A.deeper env) (do point; match ← (execs body env).onRaise (leaving env) with | .ret v => ret v | _ => ret .none) _ s
  refine W.bind (W.point (W.bind (W.mono (W.onRaise h) fun f s' h' => ?_)))
  cases f <;> exact W.pure h'

theorem C.whileLoop {test : PySem.Expr} {body : List Stmt} {env : Env} {R : Flow → Shared → Prop} (I : Nat → Shared → Prop)
    (turn : ∀ n s, I n s → W prog w A (isTrue test env (eval test env)) (fun b s₂ =>
        if b then W prog w A (execs body env) (fun f s₃ => match f with
            | .next | .cont => ∃ m, m < n ∧ I m s₃
            | .brk => R .next s₃
            | .ret v => R (.ret v) s₃) s₂
        else R .next s₂) s)
    (n : Nat) (h : I n s) : C prog w A (.whileLoop test body [] env) R s := by
  refine C.loop rfl rfl rfl I (fun n s hI => ?_) n h
  show W _ _ A ((whileTurn test body [] env).onRaise (fun x => do noteFrame x env; theTreesLotGoes x)) _ s
  refine W.onRaise ?_
  simp only [whileTurn]
  refine W.bind (W.mono (turn n s hI) fun b s₂ h₂ => ?_)
  cases b with
  | false => simp only [Bool.false_eq_true, if_false] at h₂ ⊢; exact W.bind (W.pure (W.pure h₂))
  | true =>
    simp only [if_true] at h₂ ⊢
    refine W.bind (W.mono h₂ fun f s₃ h₃ => ?_)
    cases f with
    | next => exact W.pure (Or.inl ⟨rfl, h₃⟩)
    | cont => exact W.pure (Or.inl ⟨rfl, h₃⟩)
    | brk => exact W.pure h₃
    | ret v => exact W.pure h₃

theorem C.forLoop {target : PySem.Expr} {it : Value} {body : List Stmt} {env : Env} {R : Flow → Shared → Prop} (I : Nat → Shared → Prop)
    (turn : ∀ n s, I n s → W prog w A (pyNext it) (fun r s₁ => match r with
        | none => R .next s₁
        | some v => W prog w A (letOwnedTupleGo target it v) (fun _ s₂ => W prog w A (assign target env v) (fun _ s₃ => W prog w A (execs body env) (fun f s₄ => match f with
            | .next | .cont => ∃ m, m < n ∧ I m s₄
            | .brk => R .next s₄
            | .ret v => R (.ret v) s₄) s₃) s₂) s₁) s)
    (n : Nat) (h : I n s) : C prog w A (.forLoop target it body [] env) R s := by
  refine C.loop rfl rfl rfl I (fun n s hI => ?_) n h
  show W _ _ A ((forTurn target it body [] env).onRaise (fun x => do noteFrame x env; theTreesLotGoes x)) _ s
  refine W.onRaise ?_
  simp only [forTurn]
  refine W.bind (W.standAt (W.bind (W.onRaise (W.mono (turn n s hI) fun r s₁ h₁ => ?_))))
  cases r with
  | none => exact W.pure (Or.inr ⟨rfl, C.block (W.pure h₁)⟩)
  | some v =>
    refine W.bind (W.mono h₁ fun _ s₂ h₂ => W.bind (W.mono h₂ fun _ s₃ h₃ => W.bind (W.mono h₃ fun f s₄ h₄ => ?_)))
    cases f with
    | next => exact W.pure (Or.inl ⟨rfl, h₄⟩)
    | cont => exact W.pure (Or.inl ⟨rfl, h₄⟩)
    | brk => exact W.pure h₄
    | ret v => exact W.pure h₄
end
end Mine

end
section
open PySem PySem.W PySem.Calls PyProof.Rows
set_option Elab.async false
set_option maxRecDepth 100000
namespace Mine

/-- plain data -/
inductive D where
  | none
  | bool (b : Bool)
  | int (i : Int)
  | str (l : List Nat)
  | list (xs : List D)
  | tup (xs : List D)
  | mat (t : List Nat) (b e g : Nat)
  | inst (q : List Nat)

abbrev Avd := Addr → Prop

structure Cx where
  prog : Program
  w : World
  h₁ : Heap
  mg : Str → Option Value
  mb : Str → Option Value
  hg : h₁.Ns mainGlobals mg
  hb : h₁.Ns builtinsNs mb
  lim : h₁.NoLimit
  pat : Addr
  inst : Heap → Avd → List Nat → Value → Prop
  instMono : ∀ {h h' : Heap} {Av Av' : Avd} {q : List Nat} {v : Value}, (∀ a o, ¬ Av a → h.get? a = some o → h'.get? a = some o) → (∀ a, Av' a → Av a ∨ h.get? a = Option.none) → inst h Av q v → inst h' Av' q v

noncomputable def matSpans (b e g : Nat) : List Value :=
  [rawInt b, rawInt e] ++ (List.range 3).flatMap fun k => if k + 1 = g then [rawInt b, rawInt e] else [rawInt (-1), rawInt (-1)]

structure MatAt (cx : Cx) (h : Heap) (Av : Avd) (t : List Nat) (b e g : Nat) (v : Value) (a sp : Addr) : Prop where
  val : v = .ref a
  obj : ∃ tk : Tok, h.get? a = some { cls := .type "re.Match", data := .fields #[.str ⟨t.toArray⟩ tk, .ref cx.pat, rawInt 0, rawInt t.length, rawInt g, .ref sp] }
  spans : ∃ n, h.get? sp = some { cls := .type "tuple", data := .seq (matSpans b e g).toArray n }
  ok : (∀ c ∈ t, c < 0x110000) ∧ t.length ≤ sizeLine ∧ b ≤ e ∧ e ≤ t.length ∧ 1 ≤ g ∧ g ≤ 3
  av : ¬ Av a ∧ ¬ Av sp

mutual
/-- the value v reads as the datum in the heap, and no object on the way is one of Av -/
noncomputable def Rd (cx : Cx) (h : Heap) (Av : Avd) : D → Value → Prop
  | .none, v => v = .none
  | .bool b, v => v = .bool b
  | .int i, v => ∃ t, v = .int i t
  | .str l, v => ∃ t, v = .str ⟨l.toArray⟩ t ∧ (∀ c ∈ l, c < 0x110000) ∧ l.length ≤ sizeLine
  | .list ds, v => ∃ a vs n, v = .ref a ∧ h.get? a = some { cls := .type "list", data := .seq vs n } ∧ ¬ Av a ∧ vs.size ≤ sizeLine ∧ RdAll cx h Av ds vs.toList
  | .tup ds, v => ∃ a vs n, v = .ref a ∧ h.get? a = some { cls := .type "tuple", data := .seq vs n } ∧ ¬ Av a ∧ vs.size ≤ sizeLine ∧ RdAll cx h Av ds vs.toList
  | .mat t b e g, v => ∃ a sp, MatAt cx h Av t b e g v a sp
  | .inst q, v => cx.inst h Av q v
noncomputable def RdAll (cx : Cx) (h : Heap) (Av : Avd) : List D → List Value → Prop
  | [], vs => vs = []
  | d :: ds, vs => ∃ v r, vs = v :: r ∧ Rd cx h Av d v ∧ RdAll cx h Av ds r
end

section
variable {cx : Cx} {h h' : Heap} {Av Av' : Avd}
theorem not_av {a : Addr} {o : Obj} (ha : ∀ a, Av' a → Av a ∨ h.get? a = Option.none) (hv : ¬ Av a) (ho : h.get? a = some o) : ¬ Av' a := fun x =>
  (ha a x).elim hv fun y => by rw [y] at ho; cases ho
mutual
theorem Rd.mono (hk : ∀ a o, ¬ Av a → h.get? a = some o → h'.get? a = some o) (ha : ∀ a, Av' a → Av a ∨ h.get? a = Option.none) : ∀ {d : D} {v : Value}, Rd cx h Av d v → Rd cx h' Av' d v
  | .none, _, r => by rw [Rd] at r ⊢; exact r
  | .bool _, _, r => by rw [Rd] at r ⊢; exact r
  | .int _, _, r => by rw [Rd] at r ⊢; exact r
  | .str _, _, r => by rw [Rd] at r ⊢; exact r
  | .list ds, v, r => by
    rw [Rd] at r ⊢
    obtain ⟨a, vs, n, e, ho, hv, hz, hr⟩ := r
    exact ⟨a, vs, n, e, hk a _ hv ho, not_av ha hv ho, hz, RdAll.mono hk ha hr⟩
  | .tup ds, v, r => by
    rw [Rd] at r ⊢
    obtain ⟨a, vs, n, e, ho, hv, hz, hr⟩ := r
    exact ⟨a, vs, n, e, hk a _ hv ho, not_av ha hv ho, hz, RdAll.mono hk ha hr⟩
  | .mat t b e g, v, r => by
    rw [Rd] at r ⊢
    obtain ⟨a, sp, r⟩ := r
    obtain ⟨tk, ho⟩ := r.obj
    obtain ⟨n, hs⟩ := r.spans
    exact ⟨a, sp, r.val, ⟨tk, hk _ _ r.av.1 ho⟩, ⟨n, hk _ _ r.av.2 hs⟩, r.ok, ⟨not_av ha r.av.1 ho, not_av ha r.av.2 hs⟩⟩
  | .inst q, v, r => by rw [Rd] at r ⊢; exact cx.instMono hk ha r
theorem RdAll.mono (hk : ∀ a o, ¬ Av a → h.get? a = some o → h'.get? a = some o) (ha : ∀ a, Av' a → Av a ∨ h.get? a = Option.none) : ∀ {ds : List D} {vs : List Value}, RdAll cx h Av ds vs → RdAll cx h' Av' ds vs
  | [], _, r => by rw [RdAll] at r ⊢; exact r
  | d :: ds, _, r => by
    rw [RdAll] at r ⊢
    obtain ⟨v, l, e, r1, r2⟩ := r
    exact ⟨v, l, e, Rd.mono hk ha r1, RdAll.mono hk ha r2⟩
end
theorem Rd.keep {d : D} {v : Value} (r : Rd cx h Av d v) (hk : ∀ a o, h.get? a = some o → h'.get? a = some o) : Rd cx h' Av d v := r.mono (fun a o _ e => hk a o e) fun _ x => .inl x
theorem RdAll.keep {d : List D} {v : List Value} (r : RdAll cx h Av d v) (hk : ∀ a o, h.get? a = some o → h'.get? a = some o) : RdAll cx h' Av d v := r.mono (fun a o _ e => hk a o e) fun _ x => .inl x
theorem Rd.weak {d : D} {v : Value} (r : Rd cx h Av d v) (ha : ∀ a, Av' a → Av a) : Rd cx h Av' d v := r.mono (fun _ _ _ e => e) fun a x => .inl (ha a x)
theorem RdAll.weak {d : List D} {v : List Value} (r : RdAll cx h Av d v) (ha : ∀ a, Av' a → Av a) : RdAll cx h Av' d v := r.mono (fun _ _ _ e => e) fun a x => .inl (ha a x)

theorem RdAll.length : ∀ {ds : List D} {vs : List Value}, RdAll cx h Av ds vs → vs.length = ds.length
  | [], _, r => by rw [RdAll] at r; subst r; rfl
  | d :: ds, _, r => by
    rw [RdAll] at r
    obtain ⟨v, l, rfl, r1, r2⟩ := r
    simp [RdAll.length r2]
theorem RdAll.cons {d : D} {ds : List D} {v : Value} {vs : List Value} (h1 : Rd cx h Av d v) (h2 : RdAll cx h Av ds vs) : RdAll cx h Av (d :: ds) (v :: vs) := by rw [RdAll]; exact ⟨v, vs, rfl, h1, h2⟩
theorem RdAll.nil : RdAll cx h Av [] [] := by rw [RdAll]
theorem RdAll.append : ∀ {ds es : List D} {vs us : List Value}, RdAll cx h Av ds vs → RdAll cx h Av es us → RdAll cx h Av (ds ++ es) (vs ++ us)
  | [], _, _, _, r, q => by rw [RdAll] at r; subst r; exact q
  | d :: ds, es, _, us, r, q => by
    rw [RdAll] at r
    obtain ⟨v, l, rfl, r1, r2⟩ := r
    exact RdAll.cons r1 (RdAll.append r2 q)
theorem RdAll.get : ∀ {ds : List D} {vs : List Value}, RdAll cx h Av ds vs → ∀ {i : Nat} {d : D}, ds[i]? = some d → ∃ v, vs[i]? = some v ∧ Rd cx h Av d v
  | [], _, _, _, _, e => by simp at e
  | d :: ds, _, r, i, d', e => by
    rw [RdAll] at r
    obtain ⟨v, l, rfl, r1, r2⟩ := r
    cases i with
    | zero => simp at e; subst e; exact ⟨v, rfl, r1⟩
    | succ i => simp at e; exact RdAll.get r2 e
theorem RdAll.of_get : ∀ {ds : List D} {vs : List Value}, vs.length = ds.length → (∀ (i : Nat) (d : D) (v : Value), ds[i]? = some d → vs[i]? = some v → Rd cx h Av d v) → RdAll cx h Av ds vs
  | [], vs, hl, _ => by
    cases vs with
    | nil => exact RdAll.nil
    | cons _ _ => simp at hl
  | d :: ds, vs, hl, hg => by
    cases vs with
    | nil => simp at hl
    | cons v vs => exact RdAll.cons (hg 0 d v rfl rfl) (RdAll.of_get (by simpa using hl) fun i d' v' e1 e2 => hg (i + 1) d' v' (by simpa using e1) (by simpa using e2))
theorem RdAll.take {ds : List D} {vs : List Value} (r : RdAll cx h Av ds vs) (n : Nat) : RdAll cx h Av (ds.take n) (vs.take n) := by
  refine RdAll.of_get (by simp [r.length]) fun i d v e1 e2 => ?_
  rw [List.getElem?_take] at e1 e2
  split at e1
  · rename_i hlt
    rw [if_pos hlt] at e2
    obtain ⟨v', e, q⟩ := r.get e1
    rw [e] at e2; cases e2; exact q
  · cases e1
theorem RdAll.drop {ds : List D} {vs : List Value} (r : RdAll cx h Av ds vs) (n : Nat) : RdAll cx h Av (ds.drop n) (vs.drop n) := by
  refine RdAll.of_get (by simp [r.length]) fun i d v e1 e2 => ?_
  rw [List.getElem?_drop] at e1 e2
  obtain ⟨v', e, q⟩ := r.get e1
  rw [e] at e2; cases e2; exact q
theorem RdAll.set {ds : List D} {vs : List Value} (r : RdAll cx h Av ds vs) (n : Nat) {d : D} {v : Value} (q : Rd cx h Av d v) : RdAll cx h Av (ds.set n d) (vs.set n v) := by
  refine RdAll.of_get (by simp [r.length]) fun i d' v' e1 e2 => ?_
  by_cases hn : n = i
  · subst hn
    rw [List.getElem?_set_self'] at e1 e2
    cases h1 : ds[n]? with
    | none => rw [h1] at e1; cases e1
    | some x =>
      obtain ⟨y, e, _⟩ := r.get h1
      rw [h1] at e1; rw [e] at e2
      cases e1; cases e2; exact q
  · rw [List.getElem?_set_ne hn] at e1 e2
    obtain ⟨v'', e, q'⟩ := r.get e1
    rw [e] at e2; cases e2; exact q'
theorem RdAll.reverse {ds : List D} {vs : List Value} (r : RdAll cx h Av ds vs) : RdAll cx h Av ds.reverse vs.reverse := by
  refine RdAll.of_get (by simp [r.length]) fun i d v e1 e2 => ?_
  have hi : i < ds.length := by
    rcases Nat.lt_or_ge i ds.length with hlt | hge
    · exact hlt
    · rw [List.getElem?_eq_none (by simpa using hge)] at e1; cases e1
  rw [List.getElem?_reverse (by simpa using hi)] at e1
  rw [List.getElem?_reverse (by rw [r.length]; exact hi), r.length] at e2
  obtain ⟨v', e, q⟩ := r.get e1
  rw [e] at e2; cases e2; exact q
end
end Mine

end
section
open PySem PySem.W PySem.Calls PyProof.Rows
set_option Elab.async false
set_option maxRecDepth 100000
namespace Mine

inductive Slot where
  | unb
  | val (d : D)
  | own (xs : List D)

/-- nothing that stood is changed -/
structure Ext (s s' : Shared) : Prop where
  gens : s'.gens = s.gens
  os : s'.os = s.os
  size : s.heap.objs.size ≤ s'.heap.objs.size
  keep : ∀ a o, s.heap.get? a = some o → s'.heap.get? a = some o
theorem Ext.refl (s : Shared) : Ext s s := ⟨rfl, rfl, Nat.le_refl _, fun _ _ e => e⟩
theorem Ext.trans {a b c : Shared} (x : Ext a b) (y : Ext b c) : Ext a c := ⟨y.gens.trans x.gens, y.os.trans x.os, Nat.le_trans x.size y.size, fun p o e => y.keep p o (x.keep p o e)⟩
theorem Ext.toks {s : Shared} (t : Nat) : Ext s { s with toks := t } := ⟨rfl, rfl, Nat.le_refl _, fun _ _ e => e⟩
theorem Ext.push {s : Shared} (o : Obj) (t : Nat) : Ext s { s with heap := s.heap.push o, toks := t } :=
  ⟨rfl, rfl, by show _ ≤ (s.heap.push o).objs.size; rw [Heap.size_push]; exact Nat.le_succ _, fun _ _ e => Heap.get?_push_of_some _ e⟩

noncomputable def muts (env : Env) (O : Nat → Option Addr) : Avd := fun a => (∃ j, O j = some a) ∨ a = env.locals ∨ ∃ x, env.cells.lookup x = some a
noncomputable def Av (env : Env) (P : Avd) (O : Nat → Option Addr) : Avd := fun a => P a ∨ muts env O a

/-- of what stood only the frame's own names and lists are changed -/
structure Tr (env : Env) (O : Nat → Option Addr) (s : Shared) (O' : Nat → Option Addr) (s' : Shared) : Prop where
  gens : s'.gens = s.gens
  os : s'.os = s.os
  size : s.heap.objs.size ≤ s'.heap.objs.size
  keep : ∀ a o, ¬ muts env O a → s.heap.get? a = some o → s'.heap.get? a = some o
  own : ∀ j a, O' j = some a → (∃ i, O i = some a) ∨ s.heap.objs.size ≤ a

theorem get_none {h : Heap} {a : Addr} (ha : h.objs.size ≤ a) : h.get? a = none := by
  cases e : h.get? a with
  | none => rfl
  | some o => exact absurd (Heap.lt_size e) (Nat.not_lt.mpr ha)

theorem Tr.refl (env : Env) (O : Nat → Option Addr) (s : Shared) : Tr env O s O s := ⟨rfl, rfl, Nat.le_refl _, fun _ _ _ e => e, fun j _ e => .inl ⟨j, e⟩⟩
theorem Tr.trans {env : Env} {O O' O'' : Nat → Option Addr} {s s' s'' : Shared} (x : Tr env O s O' s') (y : Tr env O' s' O'' s'') : Tr env O s O'' s'' where
  gens := y.gens.trans x.gens
  os := y.os.trans x.os
  size := Nat.le_trans x.size y.size
  keep := fun a o hn e => y.keep a o (fun m => by
    rcases m with ⟨j, hj⟩ | m
    · rcases x.own j a hj with ⟨i, hi⟩ | hge
      · exact hn (.inl ⟨i, hi⟩)
      · exact absurd (Heap.lt_size e) (Nat.not_lt.mpr hge)
    · exact hn (.inr m)) (x.keep a o hn e)
  own := fun j a hj => by
    rcases y.own j a hj with ⟨i, hi⟩ | hge
    · exact x.own i a hi
    · exact .inr (Nat.le_trans x.size hge)
theorem Ext.tr {env : Env} {O : Nat → Option Addr} {s s' : Shared} (x : Ext s s') : Tr env O s O s' := ⟨x.gens, x.os, x.size, fun a o _ e => x.keep a o e, fun j _ e => .inl ⟨j, e⟩⟩

noncomputable def SlotOk (cx : Cx) (h : Heap) (V : Avd) (O : Nat → Option Addr) (i : Nat) (v? : Option Value) : Slot → Prop
  | .unb => True
  | .val d => ∃ v, v? = some v ∧ Rd cx h V d v
  | .own xs => ∃ a vs n, O i = some a ∧ v? = some (.ref a) ∧ h.get? a = some { cls := .type "list", data := .seq vs n } ∧ vs.size ≤ sizeLine ∧ RdAll cx h V xs vs.toList

structure FrV (cx : Cx) (sc : Scope) (tab : List (Option Str)) (env : Env) (P : Avd) (O : Nat → Option Addr) (vm : Str → Option Value) (s : Shared) (ρ : List Slot) : Prop where
  scope : env.scope = sc
  kind : sc.kind = .function
  glob : env.globals = mainGlobals
  blt : env.builtins = builtinsNs
  base : ∀ a o, cx.h₁.get? a = some o → s.heap.get? a = some o
  ns : ∃ m, s.heap.Ns env.locals m ∧ ∀ x, sc.names.lookup x = some .local → m x = vm x
  cell : ∀ x c, env.cells.lookup x = some c → s.heap.IsCell c (vm x)
  apart : env.cells.Pairwise fun x y => x.2 ≠ y.2
  fresh : ∀ a, muts env O a → cx.h₁.objs.size ≤ a ∧ a < s.heap.objs.size
  nsCell : ∀ x, env.cells.lookup x ≠ some env.locals
  av : ∀ a, P a → a < s.heap.objs.size
  len : ρ.length = tab.length
  tabInj : ∀ (i j : Nat) (x : Str), tab[i]? = some (some x) → tab[j]? = some (some x) → i = j
  cellNL : ∀ x c, env.cells.lookup x = some c → sc.names.lookup x ≠ some .local
  known : ∀ (i : Nat) (x : Str), tab[i]? = some (some x) → sc.names.lookup x = some .local ∨ ((sc.names.lookup x = some .cell ∨ sc.names.lookup x = some .free) ∧ (env.cells.lookup x).isSome = true)
  slots : ∀ (i : Nat) (x : Str) (sl : Slot), tab[i]? = some (some x) → ρ[i]? = some sl → SlotOk cx s.heap (Av env P O) O i (vm x) sl
  ownInj : ∀ (i j : Nat) (a : Addr), O i = some a → O j = some a → i = j
  ownSlot : ∀ (i : Nat) (a : Addr), O i = some a → ∃ x xs, tab[i]? = some (some x) ∧ ρ[i]? = some (.own xs)
  ownApart : ∀ (j : Nat) (a : Addr), O j = some a → a ≠ env.locals ∧ ∀ x, env.cells.lookup x ≠ some a
  ownNP : ∀ (j : Nat) (a : Addr), O j = some a → ¬ P a

section
variable {cx : Cx} {sc : Scope} {tab : List (Option Str)} {env : Env} {P : Avd} {O : Nat → Option Addr} {vm : Str → Option Value} {s s' : Shared} {ρ : List Slot}

theorem FrV.avLt (F : FrV cx sc tab env P O vm s ρ) {a : Addr} (h : Av env P O a) : a < s.heap.objs.size := h.elim (F.av a) fun m => (F.fresh a m).2
theorem FrV.new (F : FrV cx sc tab env P O vm s ρ) {a : Addr} (h : s.heap.objs.size ≤ a) : ¬ Av env P O a := fun x => Nat.lt_irrefl _ (Nat.lt_of_lt_of_le (F.avLt x) h)

theorem SlotOk.keep {h h' : Heap} {V : Avd} {i : Nat} {v? : Option Value} {sl : Slot} (x : SlotOk cx h V O i v? sl) (hk : ∀ a o, h.get? a = some o → h'.get? a = some o) : SlotOk cx h' V O i v? sl := by
  cases sl with
  | unb => trivial
  | val d => obtain ⟨v, e, r⟩ := x; exact ⟨v, e, r.keep hk⟩
  | own xs => obtain ⟨a, vs, n, e1, e2, e3, e4, r⟩ := x; exact ⟨a, vs, n, e1, e2, hk _ _ e3, e4, r.keep hk⟩

theorem FrV.ext (F : FrV cx sc tab env P O vm s ρ) (x : Ext s s') : FrV cx sc tab env P O vm s' ρ where
  scope := F.scope
  kind := F.kind
  glob := F.glob
  blt := F.blt
  base := fun a o e => x.keep a o (F.base a o e)
  ns := let ⟨m, h1, h2⟩ := F.ns; ⟨m, h1.keeps x.keep, h2⟩
  cell := fun y c e => (F.cell y c e).keeps x.keep
  apart := F.apart
  fresh := fun a m => ⟨(F.fresh a m).1, Nat.lt_of_lt_of_le (F.fresh a m).2 x.size⟩
  nsCell := F.nsCell
  av := fun a h => Nat.lt_of_lt_of_le (F.av a h) x.size
  len := F.len
  tabInj := F.tabInj
  cellNL := F.cellNL
  known := F.known
  slots := fun i y sl h1 h2 => (F.slots i y sl h1 h2).keep x.keep
  ownInj := F.ownInj
  ownSlot := F.ownSlot
  ownApart := F.ownApart
  ownNP := F.ownNP

/-- a change of the avoided objects: fewer -/
theorem FrV.lessP {P' : Avd} (F : FrV cx sc tab env P O vm s ρ) (hP : ∀ a, P' a → P a) : FrV cx sc tab env P' O vm s ρ :=
  { F with
    av := fun a h => F.av a (hP a h)
    ownNP := fun j a e h => F.ownNP j a e (hP a h)
    slots := fun i y sl h1 h2 => by
      have hs := F.slots i y sl h1 h2
      have hA : ∀ a, Av env P' O a → Av env P O a := fun a h => h.imp (hP a) id
      cases sl with
      | unb => trivial
      | val d => obtain ⟨v, e, r⟩ := hs; exact ⟨v, e, r.weak hA⟩
      | own xs => obtain ⟨a, vs, n, e1, e2, e3, e4, r⟩ := hs; exact ⟨a, vs, n, e1, e2, e3, e4, r.weak hA⟩ }

theorem rd_moreP {V V' : Avd} {h : Heap} {N : Nat} (hV : ∀ a, V' a → V a ∨ N ≤ a) {h' : Heap} (hk : ∀ a o, h.get? a = some o → h'.get? a = some o) (hN : h.objs.size ≤ N) {d : D} {v : Value} (r : Rd cx h V d v) : Rd cx h' V' d v :=
  r.mono (fun a o _ e => hk a o e) fun a x => (hV a x).imp id fun y => get_none (Nat.le_trans hN y)
theorem rdAll_moreP {V V' : Avd} {h : Heap} {N : Nat} (hV : ∀ a, V' a → V a ∨ N ≤ a) {h' : Heap} (hk : ∀ a o, h.get? a = some o → h'.get? a = some o) (hN : h.objs.size ≤ N) {d : List D} {v : List Value} (r : RdAll cx h V d v) : RdAll cx h' V' d v :=
  r.mono (fun a o _ e => hk a o e) fun a x => (hV a x).imp id fun y => get_none (Nat.le_trans hN y)

/-- a change of the avoided objects: more, all of them new -/
theorem FrV.moreP {P' : Avd} (F : FrV cx sc tab env P O vm s ρ) (x : Ext s s') (hP : ∀ a, P' a → P a ∨ (s.heap.objs.size ≤ a ∧ a < s'.heap.objs.size)) : FrV cx sc tab env P' O vm s' ρ :=
  { F.ext x with
    av := fun a h => (hP a h).elim (fun y => Nat.lt_of_lt_of_le (F.av a y) x.size) fun y => y.2
    ownNP := fun j a e h => (hP a h).elim (F.ownNP j a e) fun y => Nat.lt_irrefl _ (Nat.lt_of_lt_of_le (F.fresh a (.inl ⟨j, e⟩)).2 y.1)
    slots := fun i y sl h1 h2 => by
      have hs := F.slots i y sl h1 h2
      have hA : ∀ a, Av env P' O a → Av env P O a ∨ s.heap.objs.size ≤ a := fun a h => h.elim (fun y => (hP a y).imp .inl And.left) fun y => .inl (.inr y)
      cases sl with
      | unb => trivial
      | val d => obtain ⟨v, e, r⟩ := hs; exact ⟨v, e, rd_moreP hA x.keep (Nat.le_refl _) r⟩
      | own xs => obtain ⟨a, vs, n, e1, e2, e3, e4, r⟩ := hs; exact ⟨a, vs, n, e1, e2, x.keep _ _ e3, e4, rdAll_moreP hA x.keep (Nat.le_refl _) r⟩ }

/-- a read of a datum goes on behind a statement -/
theorem FrV.rdTr {O' : Nat → Option Addr} (F : FrV cx sc tab env P O vm s ρ) (x : Tr env O s O' s') {d : D} {v : Value} (r : Rd cx s.heap (Av env P O) d v) : Rd cx s'.heap (Av env P O') d v := by
  refine r.mono (fun a o hn e => x.keep a o (fun m => hn (.inr m)) e) fun a h => ?_
  rcases h with h | ⟨j, hj⟩ | h
  · exact .inl (.inl h)
  · rcases x.own j a hj with ⟨i, hi⟩ | hge
    · exact .inl (.inr (.inl ⟨i, hi⟩))
    · exact .inr (get_none hge)
  · exact .inl (.inr (.inr h))
end

noncomputable def upd (vm : Str → Option Value) (x : Str) (v : Value) : Str → Option Value := fun y => if y = x then some v else vm y
noncomputable def off (O : Nat → Option Addr) (i : Nat) : Nat → Option Addr := fun j => if j = i then none else O j
noncomputable def onO (O : Nat → Option Addr) (i : Nat) (a : Addr) : Nat → Option Addr := fun j => if j = i then some a else O j
theorem off_some {O : Nat → Option Addr} {i j : Nat} {a : Addr} (h : off O i j = some a) : j ≠ i ∧ O j = some a := by
  unfold off at h
  split at h
  · cases h
  · exact ⟨by assumption, h⟩
theorem onO_some {O : Nat → Option Addr} {i j : Nat} {a b : Addr} (h : onO O i a j = some b) : (j = i ∧ b = a) ∨ (j ≠ i ∧ O j = some b) := by
  unfold onO at h
  split at h
  · cases h; exact .inl ⟨by assumption, rfl⟩
  · exact .inr ⟨by assumption, h⟩

section
variable {cx : Cx} {sc : Scope} {tab : List (Option Str)} {env : Env} {P : Avd} {O : Nat → Option Addr} {vm : Str → Option Value} {s : Shared} {ρ : List Slot} {prog : Program} {w : World} {A : Around}

theorem FrV.load (F : FrV cx sc tab env P O vm s ρ) {i : Nat} {x : Str} {v : Value} {Q : Value → Shared → Prop} (ht : tab[i]? = some (some x)) (hv : vm x = some v) (hQ : Q v s) (hcd : (x == ("__classdict__" : Str)) = false) : W prog w A (loadName env x) Q s := by
  have hk : env.scope.kind = .function := by rw [F.scope]; exact F.kind
  rcases F.known i x ht with hl | ⟨hl, hc⟩
  · obtain ⟨m, hn, hm⟩ := F.ns
    exact W.of_any (wpAny_loadName_local hk (by show env.scope.names.lookup x = _; rw [F.scope]; exact hl) hn ((hm x hl).trans hv) hQ)
  · obtain ⟨c, hc⟩ := Option.isSome_iff_exists.mp hc
    rcases hl with hl | hl
    · exact W.of_any (wpAny_loadName_cell hk (by show env.scope.names.lookup x = _; rw [F.scope]; exact hl) hc (hv ▸ F.cell x c hc) hQ)
    · exact W.of_any (wpAny_loadName_free hk (by show env.scope.names.lookup x = _; rw [F.scope]; exact hl) hc (hv ▸ F.cell x c hc) hQ hcd)

/-- the store of a name, told of the heap alone -/
theorem FrV.storeRaw (F : FrV cx sc tab env P O vm s ρ) {i : Nat} {x : Str} {v : Value} {Q : Unit → Shared → Prop} (ht : tab[i]? = some (some x))
    (hnf : sc.names.lookup x = some .free → False)
    (hQ : ∀ s' : Shared, s'.gens = s.gens → s'.os = s.os → s'.heap.objs.size = s.heap.objs.size → (∀ a o, a ≠ env.locals → (∀ y, env.cells.lookup y ≠ some a) → s.heap.get? a = some o → s'.heap.get? a = some o) →
      (∃ m, s'.heap.Ns env.locals m ∧ ∀ y, sc.names.lookup y = some .local → m y = upd vm x v y) → (∀ y c, env.cells.lookup y = some c → s'.heap.IsCell c (upd vm x v y)) → Q () s') : W prog w A (storeName env x v) Q s := by
  have hk : env.scope.kind = .function := by rw [F.scope]; exact F.kind
  obtain ⟨m, hn, hm⟩ := F.ns
  rcases F.known i x ht with hl | ⟨hl, hc⟩
  · refine W.of_any (wpAny_storeName_local (by show env.scope.names.lookup x = _; rw [F.scope]; exact hl) hn (fun h' hn' hs' => hQ _ rfl rfl hs'.1 (fun a o ha _ e => hs'.extBut a o ha e) ⟨_, hn', fun y hy => ?_⟩ fun y c hc => ?_) (by rw [hk]; rfl))
    · unfold upd
      split
      · rfl
      · exact hm y hy
    · have hne : y ≠ x := fun e => by
        subst e
        exact F.cellNL y c hc hl
      have : upd vm x v y = vm y := by unfold upd; rw [if_neg hne]
      rw [this]
      exact (F.cell y c hc).sameBut hs' fun e => F.nsCell y (e ▸ hc)
  · obtain ⟨c, hc⟩ := Option.isSome_iff_exists.mp hc
    rcases hl with hl | hl
    · refine W.of_any (wpAny_storeName_cell hk (by show env.scope.names.lookup x = _; rw [F.scope]; exact hl) hc (F.cell x c hc) fun h' hc' hs' => hQ _ rfl rfl hs'.1 (fun a o _ ha e => hs'.extBut a o (fun e' => ha x (e' ▸ hc)) e) ⟨m, hn.sameBut hs' fun e => F.nsCell x (e ▸ hc), fun y hy => ?_⟩ fun y c' hy => ?_)
      · have hne : y ≠ x := fun e => by subst e; rw [hl] at hy; cases hy
        rw [hm y hy]; unfold upd; rw [if_neg hne]
      · by_cases hyx : y = x
        · subst hyx
          rw [hc] at hy; cases hy
          unfold upd; rw [if_pos rfl]; exact hc'
        · unfold upd; rw [if_neg hyx]
          exact (F.cell y c' hy).sameBut hs' fun e => hyx (name_of_addr F.apart (mem_of_lookup hy) (e ▸ mem_of_lookup hc))
    · exact (hnf hl).elim

theorem FrV.low (F : FrV cx sc tab env P O vm s ρ) {a : Addr} (h : a < cx.h₁.objs.size) : a ≠ env.locals ∧ (∀ y, env.cells.lookup y ≠ some a) ∧ ∀ j, O j ≠ some a :=
  ⟨fun e => Nat.lt_irrefl _ (Nat.lt_of_lt_of_le h (F.fresh a (.inr (.inl e))).1), fun y e => Nat.lt_irrefl _ (Nat.lt_of_lt_of_le h (F.fresh a (.inr (.inr ⟨y, e⟩))).1),
    fun j e => Nat.lt_irrefl _ (Nat.lt_of_lt_of_le h (F.fresh a (.inl ⟨j, e⟩)).1)⟩

theorem FrV.put (F : FrV cx sc tab env P O vm s ρ) {i : Nat} {x : Str} {v : Value} {s' : Shared} {O' : Nat → Option Addr} {sl' : Slot} (ht : tab[i]? = some (some x))
    (hsz : s'.heap.objs.size = s.heap.objs.size) (hk : ∀ a o, a ≠ env.locals → (∀ y, env.cells.lookup y ≠ some a) → s.heap.get? a = some o → s'.heap.get? a = some o)
    (hns : ∃ m, s'.heap.Ns env.locals m ∧ ∀ y, sc.names.lookup y = some .local → m y = upd vm x v y) (hcell : ∀ y c, env.cells.lookup y = some c → s'.heap.IsCell c (upd vm x v y))
    (hO : ∀ j, j ≠ i → O' j = O j)
    (hOi : ∀ a, O' i = some a → (cx.h₁.objs.size ≤ a ∧ a < s.heap.objs.size) ∧ (a ≠ env.locals ∧ ∀ y, env.cells.lookup y ≠ some a) ∧ (∀ j, j ≠ i → O j ≠ some a) ∧ ¬ P a ∧ ∃ xs, sl' = .own xs)
    (hoth : ∀ (j : Nat) (y : Str) (sl : Slot), j ≠ i → tab[j]? = some (some y) → ρ[j]? = some sl → SlotOk cx s'.heap (Av env P O') O' j (vm y) sl)
    (hme : SlotOk cx s'.heap (Av env P O') O' i (some v) sl') : FrV cx sc tab env P O' (upd vm x v) s' (ρ.set i sl') where
  scope := F.scope
  kind := F.kind
  glob := F.glob
  blt := F.blt
  base := fun a o e => hk a o (F.low (Heap.lt_size e)).1 (F.low (Heap.lt_size e)).2.1 (F.base a o e)
  ns := hns
  cell := hcell
  apart := F.apart
  fresh := fun a m => by
    rw [hsz]
    rcases m with ⟨j, hj⟩ | m
    · by_cases hji : j = i
      · subst hji; exact (hOi a hj).1
      · exact F.fresh a (.inl ⟨j, (hO j hji) ▸ hj⟩)
    · exact F.fresh a (.inr m)
  nsCell := F.nsCell
  av := fun a h => by rw [hsz]; exact F.av a h
  len := by rw [List.length_set]; exact F.len
  tabInj := F.tabInj
  cellNL := F.cellNL
  known := F.known
  slots := fun j y sl h1 h2 => by
    by_cases hji : j = i
    · subst hji
      rw [ht] at h1; cases h1
      rw [List.getElem?_set_self'] at h2
      cases hr : ρ[j]? with
      | none => rw [hr] at h2; cases h2
      | some z =>
        rw [hr] at h2
        cases h2
        have : upd vm x v x = some v := by unfold upd; rw [if_pos rfl]
        rw [this]; exact hme
    · rw [List.getElem?_set_ne (Ne.symm hji)] at h2
      have hyx : y ≠ x := fun e => hji (F.tabInj j i x (e ▸ h1) ht)
      have : upd vm x v y = vm y := by unfold upd; rw [if_neg hyx]
      rw [this]
      exact hoth j y sl hji h1 h2
  ownInj := fun j k a h1 h2 => by
    by_cases hj : j = i <;> by_cases hk' : k = i
    · rw [hj, hk']
    · subst hj; exact absurd (hO k hk' ▸ h2) ((hOi a h1).2.2.1 k hk')
    · subst hk'; exact absurd (hO j hj ▸ h1) ((hOi a h2).2.2.1 j hj)
    · exact F.ownInj j k a (hO j hj ▸ h1) (hO k hk' ▸ h2)
  ownSlot := fun j a h1 => by
    by_cases hj : j = i
    · subst hj
      obtain ⟨_, _, _, _, xs, rfl⟩ := hOi a h1
      refine ⟨x, xs, ht, ?_⟩
      have hlt : j < ρ.length := by
        rw [F.len]
        rcases Nat.lt_or_ge j tab.length with h | h
        · exact h
        · rw [List.getElem?_eq_none h] at ht; cases ht
      rw [List.getElem?_set_self hlt]
    · obtain ⟨y, xs, e1, e2⟩ := F.ownSlot j a (hO j hj ▸ h1)
      exact ⟨y, xs, e1, by rw [List.getElem?_set_ne (Ne.symm hj)]; exact e2⟩
  ownApart := fun j a h1 => by
    by_cases hj : j = i
    · subst hj; exact (hOi a h1).2.1
    · exact F.ownApart j a (hO j hj ▸ h1)
  ownNP := fun j a h1 => by
    by_cases hj : j = i
    · subst hj; exact (hOi a h1).2.2.2.1
    · exact F.ownNP j a (hO j hj ▸ h1)

theorem slot_tr {h h' : Heap} {V V' : Avd} {O O' : Nat → Option Addr} {j : Nat} {v? : Option Value} {sl : Slot} (x : SlotOk cx h V O j v? sl)
    (hk : ∀ a o, ¬ V a → h.get? a = some o → h'.get? a = some o) (ha : ∀ a, V' a → V a ∨ h.get? a = none) (hO : O' j = O j) (hown : ∀ a o, O j = some a → h.get? a = some o → h'.get? a = some o) : SlotOk cx h' V' O' j v? sl := by
  cases sl with
  | unb => trivial
  | val d => obtain ⟨v, e, r⟩ := x; exact ⟨v, e, r.mono hk ha⟩
  | own xs => obtain ⟨a, vs, n, e1, e2, e3, e4, r⟩ := x; exact ⟨a, vs, n, hO.trans e1, e2, hown a _ e1 e3, e4, r.mono hk ha⟩

/-- a name is bound to a datum -/
theorem FrV.store (F : FrV cx sc tab env P O vm s ρ) {i : Nat} {x : Str} {v : Value} {d : D} {Q : Unit → Shared → Prop} (ht : tab[i]? = some (some x)) (hnf : sc.names.lookup x = some .free → False)
    (r : Rd cx s.heap (Av env P O) d v)
    (hQ : ∀ s', FrV cx sc tab env P (off O i) (upd vm x v) s' (ρ.set i (.val d)) → Tr env O s (off O i) s' → Q () s') : W prog w A (storeName env x v) Q s := by
  refine F.storeRaw ht hnf fun s' hg ho hsz hk hns hcell => ?_
  have hA : ∀ a, Av env P (off O i) a → Av env P O a := fun a h => h.imp id fun m => m.imp (fun ⟨j, hj⟩ => ⟨j, (off_some hj).2⟩) id
  have hk' : ∀ a o, ¬ Av env P O a → s.heap.get? a = some o → s'.heap.get? a = some o := fun a o hn e => hk a o (fun e' => hn (.inr (.inr (.inl e')))) (fun y e' => hn (.inr (.inr (.inr ⟨y, e'⟩)))) e
  refine hQ s' (F.put ht hsz hk hns hcell (fun j hj => by unfold off; rw [if_neg hj]) (fun a h => absurd rfl (off_some h).1) (fun j y sl hj h1 h2 => ?_) ⟨v, rfl, r.mono hk' fun a h => .inl (hA a h)⟩) ?_
  · exact slot_tr (F.slots j y sl h1 h2) hk' (fun a h => .inl (hA a h)) (by unfold off; rw [if_neg hj]) fun a o e e' => hk a o (F.ownApart j a e).1 (F.ownApart j a e).2 e'
  · exact ⟨hg, ho, Nat.le_of_eq hsz.symm, fun a o hn e => hk a o (fun e' => hn (.inr (.inl e'))) (fun y e' => hn (.inr (.inr ⟨y, e'⟩))) e, fun j a h => .inl ⟨j, (off_some h).2⟩⟩

/-- a name is bound to a new list, which the frame will own -/
theorem FrV.storeOwn {s₀ : Shared} (F₀ : FrV cx sc tab env P O vm s₀ ρ) (X : Ext s₀ s) {i : Nat} {x : Str} {a : Addr} {vs : Array Value} {n : Nat} {xs : List D} {Q : Unit → Shared → Prop} (ht : tab[i]? = some (some x)) (hnf : sc.names.lookup x = some .free → False)
    (hnew : s₀.heap.objs.size ≤ a) (hobj : s.heap.get? a = some { cls := .type "list", data := .seq vs n }) (hz : vs.size ≤ sizeLine) (r : RdAll cx s.heap (fun b => Av env P O b ∨ b = a) xs vs.toList)
    (hQ : ∀ s', FrV cx sc tab env P (onO O i a) (upd vm x (.ref a)) s' (ρ.set i (.own xs)) → Tr env O s₀ (onO O i a) s' → Q () s') : W prog w A (storeName env x (.ref a)) Q s := by
  have F := F₀.ext X
  refine F.storeRaw ht hnf fun s' hg ho hsz hk hns hcell => ?_
  have hlt := Heap.lt_size hobj
  have hnl : a ≠ env.locals := fun e => F₀.new hnew (.inr (.inr (.inl e)))
  have hnc : ∀ y, env.cells.lookup y ≠ some a := fun y e => F₀.new hnew (.inr (.inr (.inr ⟨y, e⟩)))
  have hno : ∀ j, O j ≠ some a := fun j e => F₀.new hnew (.inr (.inl ⟨j, e⟩))
  have hA : ∀ b, Av env P (onO O i a) b → Av env P O b ∨ b = a := fun b h => by
    rcases h with h | ⟨j, hj⟩ | h
    · exact .inl (.inl h)
    · rcases onO_some hj with ⟨_, e⟩ | ⟨_, e⟩
      · exact .inr e
      · exact .inl (.inr (.inl ⟨j, e⟩))
    · exact .inl (.inr (.inr h))
  have hk' : ∀ b o, ¬ Av env P O b → s.heap.get? b = some o → s'.heap.get? b = some o := fun b o hn e => hk b o (fun e' => hn (.inr (.inr (.inl e')))) (fun y e' => hn (.inr (.inr (.inr ⟨y, e'⟩)))) e
  refine hQ s' (F.put ht hsz hk hns hcell (fun j hj => by unfold onO; rw [if_neg hj]) (fun b h => ?_) (fun j y sl hj h1 h2 => ?_) ⟨a, vs, n, by unfold onO; rw [if_pos rfl], rfl, hk a _ hnl hnc hobj, hz, r.mono (fun b o hn e => hk' b o (fun m => hn (.inl m)) e) fun b h => .inl (hA b h)⟩) ?_
  · rcases onO_some h with ⟨_, rfl⟩ | ⟨h', _⟩
    · exact ⟨⟨Nat.le_trans (Nat.le_of_lt_succ (Nat.lt_succ_of_le (by
        obtain ⟨m, hm, _⟩ := F₀.ns
        exact Nat.le_trans (F₀.fresh env.locals (.inr (.inl rfl))).1 (Nat.le_of_lt hm.lt)))) hnew, hlt⟩, ⟨hnl, hnc⟩, fun j _ => hno j, fun h => F₀.new hnew (.inl h), xs, rfl⟩
    · exact absurd rfl h'
  · refine slot_tr ((F₀.slots j y sl h1 h2)) (fun b o hn e => hk' b o hn (X.keep b o e)) (fun b h => (hA b h).imp id fun e => get_none (by rw [e]; exact hnew)) (by unfold onO; rw [if_neg hj]) fun b o e e' => hk b o (F.ownApart j b e).1 (F.ownApart j b e).2 (X.keep b o e')
  · exact ⟨hg.trans X.gens, ho.trans X.os, by rw [hsz]; exact X.size, fun b o hn e => hk b o (fun e' => hn (.inr (.inl e'))) (fun y e' => hn (.inr (.inr ⟨y, e'⟩))) (X.keep b o e), fun j b h => by
      rcases onO_some h with ⟨_, rfl⟩ | ⟨_, e⟩
      · exact .inr hnew
      · exact .inl ⟨j, e⟩⟩

/-- an owned list is given up: from now on it is a datum like any other -/
theorem FrV.freeze (F : FrV cx sc tab env P O vm s ρ) {i : Nat} {xs : List D} (hi : ρ[i]? = some (.own xs)) : FrV cx sc tab env P (off O i) vm s (ρ.set i (.val (.list xs))) := by
  have hA : ∀ a, Av env P (off O i) a → Av env P O a := fun a h => h.imp id fun m => m.imp (fun ⟨j, hj⟩ => ⟨j, (off_some hj).2⟩) id
  have hlt : i < ρ.length := by
    rcases Nat.lt_or_ge i ρ.length with h | h
    · exact h
    · rw [List.getElem?_eq_none h] at hi; cases hi
  exact { F with
    fresh := fun a m => F.fresh a (m.imp (fun ⟨j, hj⟩ => ⟨j, (off_some hj).2⟩) id)
    len := by rw [List.length_set]; exact F.len
    slots := fun j y sl h1 h2 => by
      by_cases hji : j = i
      · subst hji
        rw [List.getElem?_set_self hlt] at h2
        cases h2
        obtain ⟨a, vs, n, e1, e2, e3, e4, r⟩ := F.slots j y _ h1 hi
        refine ⟨.ref a, e2, ?_⟩
        rw [Rd]
        refine ⟨a, vs, n, rfl, e3, fun h => ?_, e4, r.weak hA⟩
        rcases h with h | ⟨k, hk⟩ | h
        · exact F.ownNP j a e1 h
        · exact (off_some hk).1 (F.ownInj k j a (off_some hk).2 e1)
        · rcases h with h | ⟨y', h⟩
          · exact (F.ownApart j a e1).1 h
          · exact (F.ownApart j a e1).2 y' h
      · rw [List.getElem?_set_ne (Ne.symm hji)] at h2
        exact slot_tr (F.slots j y sl h1 h2) (fun _ _ _ e => e) (fun a h => .inl (hA a h)) (by unfold off; rw [if_neg hji]) fun _ _ _ e => e
    ownInj := fun j k a h1 h2 => F.ownInj j k a (off_some h1).2 (off_some h2).2
    ownSlot := fun j a h1 => by
      obtain ⟨y, zs, e1, e2⟩ := F.ownSlot j a (off_some h1).2
      exact ⟨y, zs, e1, by rw [List.getElem?_set_ne (Ne.symm (off_some h1).1)]; exact e2⟩
    ownApart := fun j a h1 => F.ownApart j a (off_some h1).2
    ownNP := fun j a h1 => F.ownNP j a (off_some h1).2 }

/-- an owned list is changed in its place -/
theorem FrV.mutate (F : FrV cx sc tab env P O vm s ρ) {i : Nat} {x : Str} {xs ds : List D} {a : Addr} {s' : Shared} {vs : Array Value} {n : Nat} (ht : tab[i]? = some (some x)) (hi : ρ[i]? = some (.own xs)) (hO : O i = some a)
    (hg : s'.gens = s.gens) (ho : s'.os = s.os) (hs : Heap.SameBut a s.heap s'.heap) (hobj : s'.heap.get? a = some { cls := .type "list", data := .seq vs n }) (hz : vs.size ≤ sizeLine)
    (r : RdAll cx s.heap (Av env P O) ds vs.toList) : FrV cx sc tab env P O vm s' (ρ.set i (.own ds)) ∧ Tr env O s O s' := by
  have hma : muts env O a := .inl ⟨i, hO⟩
  have hk : ∀ b o, b ≠ a → s.heap.get? b = some o → s'.heap.get? b = some o := fun b o hb e => hs.extBut b o hb e
  have hk' : ∀ b o, ¬ Av env P O b → s.heap.get? b = some o → s'.heap.get? b = some o := fun b o hn e => hk b o (fun e' => hn (.inr (e' ▸ hma))) e
  have hap := F.ownApart i a hO
  have hlt : i < ρ.length := by
    rcases Nat.lt_or_ge i ρ.length with h | h
    · exact h
    · rw [List.getElem?_eq_none h] at hi; cases hi
  refine ⟨?_, ⟨hg, ho, Nat.le_of_eq hs.1.symm, fun b o hn e => hk b o (fun e' => hn (e' ▸ hma)) e, fun j b e => .inl ⟨j, e⟩⟩⟩
  exact {
    scope := F.scope, kind := F.kind, glob := F.glob, blt := F.blt
    base := fun b o e => hk b o (fun e' => (F.low (Heap.lt_size e)).2.2 i (e' ▸ hO)) (F.base b o e)
    ns := let ⟨m, h1, h2⟩ := F.ns; ⟨m, h1.sameBut hs (Ne.symm hap.1), h2⟩
    cell := fun y c e => (F.cell y c e).sameBut hs fun e' => hap.2 y (e' ▸ e)
    apart := F.apart
    fresh := fun b m => by rw [hs.1]; exact F.fresh b m
    nsCell := F.nsCell
    av := fun b h => by rw [hs.1]; exact F.av b h
    len := by rw [List.length_set]; exact F.len
    tabInj := F.tabInj, cellNL := F.cellNL, known := F.known
    slots := fun j y sl h1 h2 => by
      by_cases hji : j = i
      · subst hji
        rw [List.getElem?_set_self hlt] at h2
        cases h2
        obtain ⟨a', vs', n', e1, e2, e3, e4, _⟩ := F.slots j y _ h1 hi
        rw [hO] at e1; cases e1
        exact ⟨a, vs, n, hO, e2, hobj, hz, r.mono hk' fun _ h => .inl h⟩
      · rw [List.getElem?_set_ne (Ne.symm hji)] at h2
        exact slot_tr (F.slots j y sl h1 h2) hk' (fun _ h => .inl h) rfl fun b o e e' => hk b o (fun e'' => hji (F.ownInj j i a (e'' ▸ e) hO)) e'
    ownInj := F.ownInj
    ownSlot := fun j b h1 => by
      by_cases hji : j = i
      · subst hji
        exact ⟨x, ds, ht, by rw [List.getElem?_set_self hlt]⟩
      · obtain ⟨y, zs, e1, e2⟩ := F.ownSlot j b h1
        exact ⟨y, zs, e1, by rw [List.getElem?_set_ne (Ne.symm hji)]; exact e2⟩
    ownApart := F.ownApart
    ownNP := F.ownNP }

theorem FrV.glob_ (F : FrV cx sc tab env P O vm s ρ) {x : Str} {v : Value} {Q : Value → Shared → Prop} (hl : sc.names.lookup x = some .globalImplicit) (hv : (cx.mg x).or (cx.mb x) = some v) (hQ : Q v s) : W prog w A (loadName env x) Q s := by
  have hg : s.heap.Ns mainGlobals cx.mg := cx.hg.keeps F.base
  have hb : s.heap.Ns builtinsNs cx.mb := cx.hb.keeps F.base
  refine W.of_any ?_
  unfold loadName
  have hk : env.scope.kind = .function := by rw [F.scope]; exact F.kind
  have hkx : env.kindOf x = some .globalImplicit := by show env.scope.names.lookup x = _; rw [F.scope]; exact hl
  simp only [Env.blockKind, hk, hkx, ScopeKind.isAnnotationScope, Bool.false_and, Bool.false_eq_true, if_false]
  unfold loadGlobal
  rw [F.glob, F.blt]
  refine wpAny_bind (wpAny_nsGet hg ?_)
  cases hm : cx.mg x with
  | some v' =>
    rw [hm] at hv
    cases hv
    exact wpAny_pure hQ
  | none =>
    rw [hm] at hv
    refine wpAny_bind (wpAny_nsGet hb ?_)
    have hv' : cx.mb x = some v := hv
    rw [hv']
    exact wpAny_pure hQ
end
end Mine

end
section
open PySem PySem.W PySem.Calls PyProof.Rows
set_option Elab.async false
set_option maxRecDepth 100000
namespace Mine

noncomputable def Room (A : Around) (k : Nat) : Prop := A.handled = none ∧ A.depth + k < recursionLimit ∧ A.units + 8 * k + 200 < cLine
theorem Room.units {A : Around} {k : Nat} (h : Room A k) : A.units + 100 < cLine := by have := h.2.2; omega

structure Jd where
  cx : Cx
  sc : Scope
  tab : List (Option Str)
  k : Nat

noncomputable abbrev Rho := List Slot

/-- the expression's value is f of the frame's names -/
noncomputable def SE (J : Jd) (e : PySem.Expr) (f : Rho → Option D) : Prop :=
  ∀ (A : Around) (env : Env) (P : Avd) (O : Nat → Option Addr) (vm : Str → Option Value) (s : Shared) (ρ : Rho) (d : D), Room A J.k → FrV J.cx J.sc J.tab env P O vm s ρ → f ρ = some d →
    W J.cx.prog J.cx.w A (eval e env) (fun v s' => Ext s s' ∧ Rd J.cx s'.heap (Av env P O) d v) s
/-- the expression as a test -/
noncomputable def ST (J : Jd) (e : PySem.Expr) (f : Rho → Option Bool) : Prop :=
  ∀ (A : Around) (env : Env) (P : Avd) (O : Nat → Option Addr) (vm : Str → Option Value) (s : Shared) (ρ : Rho) (b : Bool), Room A J.k → FrV J.cx J.sc J.tab env P O vm s ρ → f ρ = some b →
    W J.cx.prog J.cx.w A (isTrue e env (eval e env)) (fun v s' => Ext s s' ∧ v = b) s

/-! equality -/
mutual
noncomputable def toPy : D → PyData
  | .none => .none
  | .bool b => .bool b
  | .int i => .int i
  | .str l => .str ⟨l.toArray⟩
  | .list ds => .list (toPys ds)
  | .tup ds => .tuple (toPys ds)
  | .mat .. => .none
  | .inst _ => .none
noncomputable def toPys : List D → List PyData
  | [] => []
  | d :: ds => toPy d :: toPys ds
end
mutual
noncomputable def pureD : D → Bool
  | .list ds => pureDs ds
  | .tup ds => pureDs ds
  | .mat .. => false
  | .inst _ => false
  | _ => true
noncomputable def pureDs : List D → Bool
  | [] => true
  | d :: ds => pureD d && pureDs ds
end
section
variable {cx : Cx} {h : Heap} {V : Avd}
mutual
theorem Rd.reads : ∀ {d : D} {v : Value}, Rd cx h V d v → pureD d = true → ∃ as, Reads h v (toPy d) as
  | .none, _, r, _ => by rw [Rd] at r; subst r; exact ⟨_, .none⟩
  | .bool _, _, r, _ => by rw [Rd] at r; subst r; exact ⟨_, .bool _⟩
  | .int _, _, r, _ => by rw [Rd] at r; obtain ⟨t, rfl⟩ := r; exact ⟨_, .int _ _⟩
  | .str _, _, r, _ => by rw [Rd] at r; obtain ⟨t, rfl, _⟩ := r; exact ⟨_, .str _ _⟩
  | .list ds, _, r, hp => by
    rw [Rd] at r; obtain ⟨a, vs, n, rfl, ho, _, _, r⟩ := r
    rw [pureD] at hp
    obtain ⟨as, q⟩ := RdAll.reads r hp
    rw [toPy]; exact ⟨_, .list ho rfl rfl q⟩
  | .tup ds, _, r, hp => by
    rw [Rd] at r; obtain ⟨a, vs, n, rfl, ho, _, _, r⟩ := r
    rw [pureD] at hp
    obtain ⟨as, q⟩ := RdAll.reads r hp
    rw [toPy]; exact ⟨_, .tuple ho rfl rfl q⟩
  | .mat .., _, _, hp => by rw [pureD] at hp; cases hp
  | .inst _, _, _, hp => by rw [pureD] at hp; cases hp
theorem RdAll.reads : ∀ {ds : List D} {vs : List Value}, RdAll cx h V ds vs → pureDs ds = true → ∃ as, ReadsAll h vs (toPys ds) as
  | [], _, r, _ => by rw [RdAll] at r; subst r; exact ⟨_, .nil⟩
  | d :: ds, _, r, hp => by
    rw [RdAll] at r; obtain ⟨v, l, rfl, r1, r2⟩ := r
    rw [pureDs, Bool.and_eq_true] at hp
    obtain ⟨as, q1⟩ := Rd.reads r1 hp.1
    obtain ⟨bs, q2⟩ := RdAll.reads r2 hp.2
    rw [toPys]; exact ⟨_, .cons q1 q2⟩
end
mutual
theorem Rd.lay : ∀ {d : D} {v : Value}, Rd cx h V d v → pureD d = true → (toPy d).canLay0 = true
  | .none, _, _, _ => by simp [toPy, PyData.canLay0]
  | .bool _, _, _, _ => by simp [toPy, PyData.canLay0]
  | .int _, _, _, _ => by simp [toPy, PyData.canLay0]
  | .str l, _, r, _ => by
    rw [Rd] at r; obtain ⟨t, rfl, h1, _⟩ := r
    simp only [toPy, PyData.canLay0, PyData.strOk]
    rw [Array.all_eq_true']
    intro c hc
    exact decide_eq_true (h1 c (by simpa using hc))
  | .list ds, _, r, hp => by
    rw [Rd] at r; obtain ⟨a, vs, n, rfl, ho, _, _, r⟩ := r
    rw [pureD] at hp
    simp only [toPy, PyData.canLay0]; exact RdAll.lay r hp
  | .tup ds, _, r, hp => by
    rw [Rd] at r; obtain ⟨a, vs, n, rfl, ho, _, _, r⟩ := r
    rw [pureD] at hp
    simp only [toPy, PyData.canLay0]; exact RdAll.lay r hp
  | .mat .., _, _, hp => by rw [pureD] at hp; cases hp
  | .inst _, _, _, hp => by rw [pureD] at hp; cases hp
theorem RdAll.lay : ∀ {ds : List D} {vs : List Value}, RdAll cx h V ds vs → pureDs ds = true → PyData.canLayAll0 (toPys ds) = true
  | [], _, _, _ => by simp [toPys, PyData.canLayAll0]
  | d :: ds, _, r, hp => by
    rw [RdAll] at r; obtain ⟨v, l, rfl, r1, r2⟩ := r
    rw [pureDs, Bool.and_eq_true] at hp
    simp only [toPys, PyData.canLayAll0, Rd.lay r1 hp.1, RdAll.lay r2 hp.2, Bool.and_self]
end
end

noncomputable def flatD (d : D) : Bool := pureD d && decide ((toPy d).depth ≤ 60)
noncomputable def deq (a b : D) : Bool := PyData.eqv (toPy a) (toPy b)

/-- a comparison of two data -/
noncomputable def opEq (a b : D) : Option Bool := if flatD a && flatD b then some (deq a b) else none
noncomputable def opNe (a b : D) : Option Bool := (opEq a b).map not
noncomputable def opLt : D → D → Option Bool | .int a, .int b => some (decide (a < b)) | _, _ => none
/-- the comparison op gives F -/
noncomputable def CmpOk (op : CmpOp) (F : D → D → Option Bool) : Prop :=
  ∀ (cx : Cx) (A : Around) (V : Avd) (s : Shared) (a b : D) (x y : Value) (r : Bool), A.units + 100 < cLine → Rd cx s.heap V a x → Rd cx s.heap V b y → F a b = some r →
    W cx.prog cx.w A (compareOp op x y) (fun v s' => Ext s s' ∧ v = .bool r) s

theorem shaped_of {cx : Cx} {h : Heap} {V : Avd} {d : D} {v : Value} (r : Rd cx h V d v) (hf : flatD d = true) : SeqAt.shaped (toPy d) = true := by
  unfold flatD at hf
  rw [Bool.and_eq_true] at hf
  unfold SeqAt.shaped
  rw [Rd.lay r hf.1, Bool.true_and]
  exact decide_eq_true (Nat.le_trans (of_decide_eq_true hf.2) (by decide))

theorem cmp_eq : CmpOk .Eq opEq := fun cx A V s a b x y r hu ra rb h => by
  unfold opEq at h
  split at h
  · rename_i hf
    rw [Bool.and_eq_true] at hf
    cases h
    obtain ⟨as, qa⟩ := ra.reads (Bool.and_eq_true _ _ ▸ hf.1 : pureD a = true ∧ _).1
    obtain ⟨bs, qb⟩ := rb.reads (Bool.and_eq_true _ _ ▸ hf.2 : pureD b = true ∧ _).1
    exact W.of_any (eq_dataH qa qb (shaped_of ra hf.1) (shaped_of rb hf.2) (by omega) ⟨Ext.refl _, rfl⟩)
  · cases h
theorem cmp_ne : CmpOk .NotEq opNe := fun cx A V s a b x y r hu ra rb h => by
  unfold opNe opEq at h
  split at h
  · rename_i hf
    rw [Bool.and_eq_true] at hf
    cases h
    obtain ⟨as, qa⟩ := ra.reads (Bool.and_eq_true _ _ ▸ hf.1 : pureD a = true ∧ _).1
    obtain ⟨bs, qb⟩ := rb.reads (Bool.and_eq_true _ _ ▸ hf.2 : pureD b = true ∧ _).1
    exact W.of_any (ne_dataH qa qb (shaped_of ra hf.1) (shaped_of rb hf.2) (by omega) ⟨Ext.refl _, rfl⟩)
  · cases h
theorem cmp_lt : CmpOk .Lt opLt := fun cx A V s a b x y r hu ra rb h => by
  unfold opLt at h
  split at h
  · cases h; rw [Rd] at ra rb; obtain ⟨t, rfl⟩ := ra; obtain ⟨u, rfl⟩ := rb
    exact W.of_any (lt_int ⟨Ext.refl _, rfl⟩)
  · cases h
end Mine

end
section
open PySem PySem.W PySem.Calls PyProof.Rows
set_option Elab.async false
set_option maxRecDepth 100000
namespace Mine

/-! in, not in -/
noncomputable def opIn : D → D → Option Bool
  | .str [c], .str l => some (decide (c ∈ l))
  | d, .list xs => if flatD d && pureDs xs then some (xs.any fun y => deq y d) else none
  | _, _ => none
noncomputable def opNotIn (a b : D) : Option Bool := (opIn a b).map not

theorem any_toPys (d : D) : ∀ xs : List D, (toPys xs).any (fun y => PyData.eqv y (toPy d)) = xs.any fun y => deq y d
  | [] => rfl
  | x :: xs => by rw [toPys, List.any_cons, List.any_cons, any_toPys d xs]; rfl

theorem opIn_cases {a b : D} {r : Bool} (h : opIn a b = some r) :
    (∃ c l, a = .str [c] ∧ b = .str l ∧ r = decide (c ∈ l)) ∨ (∃ xs, b = .list xs ∧ flatD a = true ∧ pureDs xs = true ∧ r = xs.any fun y => deq y a) := by
  unfold opIn at h
  split at h
  · cases h; exact .inl ⟨_, _, rfl, rfl, rfl⟩
  · split at h
    · rename_i hf
      rw [Bool.and_eq_true] at hf
      cases h; exact .inr ⟨_, rfl, hf.1, hf.2, rfl⟩
    · cases h
  · cases h

theorem cmp_notIn : CmpOk .NotIn opNotIn := fun cx A V s a b x y r hu ra rb h => by
  unfold opNotIn at h
  cases h' : opIn a b with
  | none => rw [h'] at h; cases h
  | some r' =>
  rw [h'] at h; cases h
  rcases opIn_cases h' with ⟨c, l, rfl, rfl, rfl⟩ | ⟨xs, rfl, hf, hp, rfl⟩
  · rw [Rd] at ra rb
    obtain ⟨t, rfl, _⟩ := ra
    obtain ⟨u, rfl, _⟩ := rb
    refine W.of_any (notIn_str ⟨Ext.refl _, ?_⟩)
    rw [show (⟨[c].toArray⟩ : Str) = ⟨#[c]⟩ from rfl, StrLaws.found_one]
  · obtain ⟨as, qa⟩ := ra.reads (Bool.and_eq_true _ _ ▸ hf : pureD a = true ∧ _).1
    have hp' : pureD (.list xs) = true := by rw [pureD]; exact hp
    obtain ⟨bs, qb⟩ := rb.reads hp'
    have hl := rb.lay hp'
    rw [toPy] at qb hl
    have hd : (toPy a).depth ≤ 60 := of_decide_eq_true (Bool.and_eq_true _ _ ▸ hf : _ ∧ decide _ = true).2
    refine W.of_any (SeqAt.notIn_list_reads qb qa (by simpa [PyData.canLay0] using hl) (ra.lay (Bool.and_eq_true _ _ ▸ hf : pureD a = true ∧ _).1) (by have := Nat.min_le_right (PyData.depthAll (toPys xs)) (toPy a).depth; omega) ⟨Ext.refl _, ?_⟩)
    rw [any_toPys]

/-! two-place operations -/
noncomputable def opAdd : D → D → Option D
  | .int a, .int b => some (.int (a + b))
  | .str a, .str b => if a.length + b.length ≤ sizeLine then some (.str (a ++ b)) else none
  | .list a, .list b => if a.length + b.length ≤ sizeLine then some (.list (a ++ b)) else none
  | _, _ => none
noncomputable def opSub : D → D → Option D
  | .int a, .int b => some (.int (a - b))
  | _, _ => none
noncomputable def opDiv : D → D → Option D
  | .int a, .int b => if b = 0 ∨ 1073741824 ≤ b.natAbs then none else some (.int (a.fdiv b))
  | _, _ => none
noncomputable def opMod : D → D → Option D
  | .int a, .int b => if b = 0 then none else some (.int (a.fmod b))
  | _, _ => none

noncomputable def BinOk (op : Operator) (F : D → D → Option D) : Prop :=
  ∀ (cx : Cx) (A : Around) (V : Avd) (s : Shared) (a b : D) (x y : Value) (r : D), A.units + 100 < cLine → (∀ p, V p → p < s.heap.objs.size) → Rd cx s.heap V a x → Rd cx s.heap V b y → F a b = some r →
    W cx.prog cx.w A (binaryOp op x y) (fun v s' => Ext s s' ∧ Rd cx s'.heap V r v) s

theorem str_append (a b : List Nat) : (⟨a.toArray⟩ : Str) ++ ⟨b.toArray⟩ = ⟨(a ++ b).toArray⟩ := by
  show Str.append _ _ = _
  simp [Str.append]
theorem rd_str {cx : Cx} {h : Heap} {V : Avd} {l : List Nat} {t : Tok} (h1 : ∀ c ∈ l, c < 0x110000) (h2 : l.length ≤ sizeLine) : Rd cx h V (.str l) (.str ⟨l.toArray⟩ t) := by rw [Rd]; exact ⟨t, rfl, h1, h2⟩
theorem str_len (l : List Nat) : (⟨l.toArray⟩ : Str).length = l.length := by simp [Str.length]

theorem bin_add : BinOk .Add opAdd := fun cx A V s a b x y r hu hV ra rb h => by
  unfold opAdd at h
  split at h
  · cases h; rw [Rd] at ra rb; obtain ⟨t, rfl⟩ := ra; obtain ⟨u, rfl⟩ := rb
    exact W.of_any (add_int ⟨Ext.toks _, by rw [Rd]; exact ⟨_, rfl⟩⟩)
  · split at h
    · rename_i hz
      cases h; rw [Rd] at ra rb; obtain ⟨t, rfl, h1, _⟩ := ra; obtain ⟨u, rfl, h2, _⟩ := rb
      refine W.of_any (add_str (fun t' tk => ⟨Ext.toks _, ?_⟩) (by rw [str_len, str_len]; exact hz))
      rw [str_append]
      exact rd_str (fun c hc => (List.mem_append.mp hc).elim (h1 c) (h2 c)) (by rw [List.length_append]; exact hz)
    · cases h
  · split at h
    · rename_i hz
      cases h; rw [Rd] at ra rb
      obtain ⟨p, vs, n, rfl, h1, _, _, r1⟩ := ra
      obtain ⟨q, us, m, rfl, h2, _, _, r2⟩ := rb
      have l1 := r1.length
      have l2 := r2.length
      have hz' : vs.size + us.size ≤ sizeLine := by
        rw [← Array.length_toList, ← Array.length_toList, l1, l2]; exact hz
      refine W.of_any (P.add_list h1 h2 ⟨Ext.push _ _, ?_⟩ hz')
      rw [Rd]
      refine ⟨_, vs ++ us, 0, rfl, Heap.get?_push_size _ rfl, fun hp => Nat.lt_irrefl _ (hV _ hp), by rw [Array.size_append]; exact hz', ?_⟩
      rw [Array.toList_append]
      exact (r1.append r2).keep fun _ _ e => Heap.get?_push_of_some _ e
    · cases h
  · cases h
theorem bin_sub : BinOk .Sub opSub := fun cx A V s a b x y r hu hV ra rb h => by
  unfold opSub at h
  split at h
  · cases h; rw [Rd] at ra rb; obtain ⟨t, rfl⟩ := ra; obtain ⟨u, rfl⟩ := rb
    exact W.of_any (sub_int ⟨Ext.toks _, by rw [Rd]; exact ⟨_, rfl⟩⟩)
  · cases h
theorem bin_mod : BinOk .Mod opMod := fun cx A V s a b x y r hu hV ra rb h => by
  unfold opMod at h
  split at h
  · split at h
    · cases h
    · rename_i hb
      cases h; rw [Rd] at ra rb; obtain ⟨t, rfl⟩ := ra; obtain ⟨u, rfl⟩ := rb
      exact W.of_any (mod_int' hb ⟨Ext.toks _, by rw [Rd]; exact ⟨_, rfl⟩⟩)
  · cases h
theorem bin_div : BinOk .FloorDiv opDiv := fun cx A V s a b x y r hu hV ra rb h => by
  unfold opDiv at h
  split at h
  · split at h
    · cases h
    · rename_i hb
      cases h; rw [Rd] at ra rb; obtain ⟨t, rfl⟩ := ra; obtain ⟨u, rfl⟩ := rb
      exact W.of_any (floordiv_int (fun e => hb (.inl e)) ⟨Ext.toks _, by rw [Rd]; exact ⟨_, rfl⟩⟩ (.inl (PyProof.noPylong_small (by omega))))
  · cases h

/-! expressions -/
noncomputable def cE (d : D) : Rho → Option D := fun _ => some d
noncomputable def vE (i : Nat) : Rho → Option D := fun ρ => match ρ[i]? with | some (.val d) => some d | _ => none
noncomputable def binE (F : D → D → Option D) (f g : Rho → Option D) : Rho → Option D := fun ρ => (f ρ).bind fun a => (g ρ).bind fun b => F a b
noncomputable def cmpB (F : D → D → Option Bool) (f g : Rho → Option D) : Rho → Option Bool := fun ρ => (f ρ).bind fun a => (g ρ).bind fun b => F a b
noncomputable def asD (f : Rho → Option Bool) : Rho → Option D := fun ρ => (f ρ).map .bool
noncomputable def andB (f g : Rho → Option Bool) : Rho → Option Bool := fun ρ => (f ρ).bind fun a => if a then g ρ else some false
noncomputable def orB (f g : Rho → Option Bool) : Rho → Option Bool := fun ρ => (f ρ).bind fun a => if a then some true else g ρ
noncomputable def truth : D → Option Bool
  | .none => some false
  | .bool b => some b
  | .int i => some (i != 0)
  | .str l => some (!l.isEmpty)
  | .list xs => some (!xs.isEmpty)
  | _ => none
noncomputable def truB (f : Rho → Option D) : Rho → Option Bool := fun ρ => (f ρ).bind truth

section
variable {J : Jd}

theorem se_bool {b k pos} : SE J (.Constant (.bool b) k pos) (cE (.bool b)) := fun A env P O vm s ρ d hA F h => by
  cases h; exact W.pureQ ⟨Ext.refl _, by rw [Rd]⟩
theorem se_int {i k pos} : SE J (.Constant (.int i) k pos) (cE (.int i)) := fun A env P O vm s ρ d hA F h => by
  cases h; exact W.of_any (wpAny_mkInt ⟨Ext.toks _, by rw [Rd]; exact ⟨_, rfl⟩⟩)
theorem se_str {x : Str} {l : List Nat} {k pos} (e : x = ⟨l.toArray⟩ := by decide) (h1 : (l.all (· < 0x110000) && decide (l.length ≤ 1000)) = true := by decide) : SE J (.Constant (.str x) k pos) (cE (.str l)) := fun A env P O vm s ρ d hA F h => by
  cases h
  subst e
  rw [Bool.and_eq_true] at h1
  refine W.of_any (wpAny_mkText ⟨Ext.toks _, rd_str (fun c hc => ?_) (Nat.le_trans (of_decide_eq_true h1.2) (by decide))⟩)
  have := List.all_eq_true.mp h1.1 c hc
  exact of_decide_eq_true this

theorem se_var {i : Nat} {x : Str} {pos : Pos} (ht : J.tab[i]? = some (some x) := by rfl) (hd : (x == ("__debug__" : Str) || x == ("__classdict__" : Str)) = false := by decide) : SE J (.Name x pos) (vE i) := fun A env P O vm s ρ d hA F h => by
  rw [Bool.or_eq_false_iff] at hd
  rw [eval_Name env x pos hd.1]
  refine W.bind (W.standAt ?_)
  unfold vE at h
  split at h
  · rename_i d' hr
    cases h
    obtain ⟨v, hv, r⟩ := F.slots i x _ ht hr
    exact F.load ht hv ⟨Ext.refl _, r⟩ hd.2
  · cases h

theorem se_bin {l r : PySem.Expr} {op : Operator} {pos : Pos} {f g : Rho → Option D} {G : D → D → Option D} (hG : BinOk op G) (hl : SE J l f) (hr : SE J r g) : SE J (.BinOp l op r pos) (binE G f g) := fun A env P O vm s ρ d hA F h => by
  unfold binE at h
  rw [Option.bind_eq_some_iff] at h
  obtain ⟨a, ha, h⟩ := h
  rw [Option.bind_eq_some_iff] at h
  obtain ⟨b, hb, h⟩ := h
  rw [eval_BinOp]
  refine W.bind (W.mono (hl A env P O vm s ρ a hA F ha) fun x s₁ ⟨X1, r1⟩ => W.bind (W.holding (W.mono (hr A env P O vm s₁ ρ b hA (F.ext X1) hb) fun y s₂ ⟨X2, r2⟩ => W.bind (W.standAt (W.operate ?_)))))
  exact W.mono (hG J.cx A (Av env P O) s₂ a b x y d hA.units (fun p hp => ((F.ext X1).ext X2).avLt hp) (r1.keep X2.keep) r2 h) fun v s₃ ⟨X3, r3⟩ => ⟨X1.trans (X2.trans X3), r3⟩

theorem se_cmp {l r : PySem.Expr} {op : CmpOp} {pos : Pos} {f g : Rho → Option D} {G : D → D → Option Bool} (hG : CmpOk op G) (hl : SE J l f) (hr : SE J r g) (hm : behindInMarks op r = false := by rfl) : SE J (.Compare l [op] [r] pos) (asD (cmpB G f g)) := fun A env P O vm s ρ d hA F h => by
  unfold asD cmpB at h
  rw [Option.map_eq_some_iff] at h
  obtain ⟨t, h, rfl⟩ := h
  rw [Option.bind_eq_some_iff] at h
  obtain ⟨a, ha, h⟩ := h
  rw [Option.bind_eq_some_iff] at h
  obtain ⟨b, hb, h⟩ := h
  rw [eval_Compare1, markedBehindIn_of_false hm]
  refine W.bind (W.mono (hl A env P O vm s ρ a hA F ha) fun x s₁ ⟨X1, r1⟩ => W.bind (W.holding (W.mono (hr A env P O vm s₁ ρ b hA (F.ext X1) hb) fun y s₂ ⟨X2, r2⟩ => W.bind (W.standAt (W.operate ?_)))))
  exact W.mono (hG J.cx A (Av env P O) s₂ a b x y t hA.units (r1.keep X2.keep) r2 h) fun v s₃ ⟨X3, e⟩ => ⟨X1.trans (X2.trans X3), by rw [Rd]; exact e⟩
theorem st_cmp {l r : PySem.Expr} {op : CmpOp} {pos : Pos} {f g : Rho → Option D} {G : D → D → Option Bool} (hG : CmpOk op G) (hl : SE J l f) (hr : SE J r g) (hm : behindInMarks op r = false := by rfl) : ST J (.Compare l [op] [r] pos) (cmpB G f g) := fun A env P O vm s ρ t hA F h => by
  unfold cmpB at h
  rw [Option.bind_eq_some_iff] at h
  obtain ⟨a, ha, h⟩ := h
  rw [Option.bind_eq_some_iff] at h
  obtain ⟨b, hb, h⟩ := h
  rw [isTrue_Compare1, markedBehindIn_of_false hm]
  refine W.bind (W.mono (hl A env P O vm s ρ a hA F ha) fun x s₁ ⟨X1, r1⟩ => W.bind (W.holding (W.mono (hr A env P O vm s₁ ρ b hA (F.ext X1) hb) fun y s₂ ⟨X2, r2⟩ => W.bind (W.standAt (W.bind (W.operate ?_))))))
  refine W.mono (hG J.cx A (Av env P O) s₂ a b x y t hA.units (r1.keep X2.keep) r2 h) fun v s₃ ⟨X3, e⟩ => ?_
  subst e
  exact W.holding (W.of_any (wpAny_truthy_bool ⟨X1.trans (X2.trans X3), rfl⟩))
end
end Mine

end
section
open PySem PySem.W PySem.Calls PyProof.Rows
set_option Elab.async false
set_option maxRecDepth 100000
namespace Mine

theorem szl : sizeLine = 16777216 := by decide

theorem truthy_ok {cx : Cx} {A : Around} {V : Avd} {s : Shared} {d : D} {v : Value} {b : Bool} (r : Rd cx s.heap V d v) (h : truth d = some b) :
    W cx.prog cx.w A (truthy v) (fun x s' => Ext s s' ∧ x = b) s := by
  unfold truth at h
  split at h
  · cases h; rw [Rd] at r; subst r; exact W.of_any (truthy_none ⟨Ext.refl _, rfl⟩)
  · cases h; rw [Rd] at r; subst r; exact W.of_any (wpAny_truthy_bool ⟨Ext.refl _, rfl⟩)
  · cases h; rw [Rd] at r; obtain ⟨t, rfl⟩ := r; exact W.of_any (truthy_int ⟨Ext.refl _, rfl⟩)
  · rename_i l
    cases h; rw [Rd] at r; obtain ⟨t, rfl, _, hz⟩ := r
    refine W.of_any (P.truthy_str (by have := szl; rw [str_len]; omega) ⟨Ext.toks _, ?_⟩)
    rw [str_len]
    cases l with
    | nil => rfl
    | cons c l => simp; omega
  · rename_i xs
    cases h; rw [Rd] at r; obtain ⟨a, vs, n, rfl, ho, _, hz, r⟩ := r
    have hl := r.length
    refine W.of_any (wpAny_truthy_list ⟨_, ho, rfl, n, rfl⟩ (by have := szl; omega) ⟨Ext.toks _, ?_⟩)
    cases xs with
    | nil => simp at hl; simp [hl]
    | cons x xs =>
      cases hv : vs.toList with
      | nil => rw [hv] at hl; simp at hl
      | cons y ys =>
        have : vs.size ≠ 0 := by rw [← Array.length_toList, hv]; simp
        simp [Array.isEmpty, this]
  · cases h

noncomputable def plainTest : PySem.Expr → Bool
  | .UnaryOp .Not _ _ => false
  | .BoolOp .. => false
  | .IfExp .. => false
  | .Compare .. => false
  | _ => true
noncomputable def andE (f g : Rho → Option D) : Rho → Option D := fun ρ => (f ρ).bind fun a => (truth a).bind fun t => if t then g ρ else some a
noncomputable def orE (f g : Rho → Option D) : Rho → Option D := fun ρ => (f ρ).bind fun a => (truth a).bind fun t => if t then some a else g ρ
noncomputable def negE (f : Rho → Option D) : Rho → Option D := fun ρ => (f ρ).bind fun a => match a with | .int i => some (.int (-i)) | _ => none

section
variable {J : Jd}

theorem st_plain {e : PySem.Expr} {f : Rho → Option D} (he : SE J e f) (hp : plainTest e = true := by rfl) : ST J e (truB f) := fun A env P O vm s ρ b hA F h => by
  unfold truB at h
  rw [Option.bind_eq_some_iff] at h
  obtain ⟨d, hd, h⟩ := h
  have hi : isTrue e env (eval e env) = (do let v ← eval e env; standAt e.pos; holding [v] (truthy v)) := by
    cases e <;> first | rfl | cases hp | skip
    case UnaryOp op x pos => cases op <;> first | rfl | cases hp
  rw [hi]
  refine W.bind (W.mono (he A env P O vm s ρ d hA F hd) fun v s₁ ⟨X1, r1⟩ => W.bind (W.standAt (W.holding ?_)))
  exact W.mono (truthy_ok r1 h) fun x s₂ ⟨X2, e⟩ => ⟨X1.trans X2, e⟩

theorem st_and {l r : PySem.Expr} {pos : Pos} {f g : Rho → Option Bool} (hl : ST J l f) (hr : ST J r g) : ST J (.BoolOp .And [l, r] pos) (andB f g) := fun A env P O vm s ρ b hA F h => by
  unfold andB at h
  rw [Option.bind_eq_some_iff] at h
  obtain ⟨a, ha, h⟩ := h
  show W _ _ A (allTrue .And [l, r] env) _ s
  unfold allTrue
  refine W.bind (W.mono (hl A env P O vm s ρ a hA F ha) fun x s₁ ⟨X1, e⟩ => ?_)
  subst e
  cases x with
  | false => simp only [Bool.false_eq_true, if_false] at h; cases h; exact W.pure ⟨X1, rfl⟩
  | true =>
    simp only [if_true] at h
    show W _ _ A (allTrue .And [r] env) _ s₁
    unfold allTrue
    refine W.bind (W.mono (hr A env P O vm s₁ ρ b hA (F.ext X1) h) fun y s₂ ⟨X2, e⟩ => ?_)
    subst e
    cases y with
    | false => exact W.pure ⟨X1.trans X2, rfl⟩
    | true => show W _ _ A (allTrue .And [] env) _ s₂; unfold allTrue; exact W.pure ⟨X1.trans X2, rfl⟩
theorem st_or {l r : PySem.Expr} {pos : Pos} {f g : Rho → Option Bool} (hl : ST J l f) (hr : ST J r g) : ST J (.BoolOp .Or [l, r] pos) (orB f g) := fun A env P O vm s ρ b hA F h => by
  unfold orB at h
  rw [Option.bind_eq_some_iff] at h
  obtain ⟨a, ha, h⟩ := h
  show W _ _ A (allTrue .Or [l, r] env) _ s
  unfold allTrue
  refine W.bind (W.mono (hl A env P O vm s ρ a hA F ha) fun x s₁ ⟨X1, e⟩ => ?_)
  subst e
  cases x with
  | true => simp only [if_true] at h; cases h; exact W.pure ⟨X1, rfl⟩
  | false =>
    simp only [Bool.false_eq_true, if_false] at h
    show W _ _ A (allTrue .Or [r] env) _ s₁
    unfold allTrue
    refine W.bind (W.mono (hr A env P O vm s₁ ρ b hA (F.ext X1) h) fun y s₂ ⟨X2, e⟩ => ?_)
    subst e
    cases y with
    | true => exact W.pure ⟨X1.trans X2, rfl⟩
    | false => show W _ _ A (allTrue .Or [] env) _ s₂; unfold allTrue; exact W.pure ⟨X1.trans X2, rfl⟩
theorem se_and {l r : PySem.Expr} {pos : Pos} {f g : Rho → Option D} (hl : SE J l f) (hr : SE J r g) : SE J (.BoolOp .And [l, r] pos) (andE f g) := fun A env P O vm s ρ d hA F h => by
  unfold andE at h
  rw [Option.bind_eq_some_iff] at h
  obtain ⟨a, ha, h⟩ := h
  rw [Option.bind_eq_some_iff] at h
  obtain ⟨t, ht, h⟩ := h
  show W _ _ A (boolOp pos .And [eval l env, eval r env]) _ s
  rw [boolOp.eq_3 _ _ _ _ (by simp)]
  refine W.bind (W.mono (hl A env P O vm s ρ a hA F ha) fun x s₁ ⟨X1, r1⟩ => W.bind (W.standAt (W.bind (W.holding (W.mono (truthy_ok r1 ht) fun y s₂ ⟨X2, e⟩ => ?_)))))
  subst e
  cases y with
  | false => simp only [Bool.false_eq_true, if_false] at h; cases h; exact W.pure ⟨X1.trans X2, r1.keep X2.keep⟩
  | true =>
    simp only [if_true] at h
    show W _ _ A (boolOp pos .And [eval r env]) _ s₂
    rw [boolOp.eq_2]
    exact W.mono (hr A env P O vm s₂ ρ d hA (F.ext (X1.trans X2)) h) fun v s₃ ⟨X3, r3⟩ => ⟨(X1.trans X2).trans X3, r3⟩
theorem se_or {l r : PySem.Expr} {pos : Pos} {f g : Rho → Option D} (hl : SE J l f) (hr : SE J r g) : SE J (.BoolOp .Or [l, r] pos) (orE f g) := fun A env P O vm s ρ d hA F h => by
  unfold orE at h
  rw [Option.bind_eq_some_iff] at h
  obtain ⟨a, ha, h⟩ := h
  rw [Option.bind_eq_some_iff] at h
  obtain ⟨t, ht, h⟩ := h
  show W _ _ A (boolOp pos .Or [eval l env, eval r env]) _ s
  rw [boolOp.eq_3 _ _ _ _ (by simp)]
  refine W.bind (W.mono (hl A env P O vm s ρ a hA F ha) fun x s₁ ⟨X1, r1⟩ => W.bind (W.standAt (W.bind (W.holding (W.mono (truthy_ok r1 ht) fun y s₂ ⟨X2, e⟩ => ?_)))))
  subst e
  cases y with
  | true => simp only [if_true] at h; cases h; exact W.pure ⟨X1.trans X2, r1.keep X2.keep⟩
  | false =>
    simp only [Bool.false_eq_true, if_false] at h
    show W _ _ A (boolOp pos .Or [eval r env]) _ s₂
    rw [boolOp.eq_2]
    exact W.mono (hr A env P O vm s₂ ρ d hA (F.ext (X1.trans X2)) h) fun v s₃ ⟨X3, r3⟩ => ⟨(X1.trans X2).trans X3, r3⟩

theorem se_neg {e : PySem.Expr} {pos : Pos} {f : Rho → Option D} (he : SE J e f) : SE J (.UnaryOp .USub e pos) (negE f) := fun A env P O vm s ρ d hA F h => by
  unfold negE at h
  rw [Option.bind_eq_some_iff] at h
  obtain ⟨a, ha, h⟩ := h
  split at h
  · cases h
    show W _ _ A (do let v ← eval e env; standAt pos; holding [v] (unaryOp .USub v)) _ s
    refine W.bind (W.mono (he A env P O vm s ρ _ hA F ha) fun v s₁ ⟨X1, r1⟩ => W.bind (W.standAt (W.holding ?_)))
    rw [Rd] at r1; obtain ⟨t, rfl⟩ := r1
    exact W.of_any (PyProof.Rows.neg_int ⟨X1.trans (Ext.toks _), by rw [Rd]; exact ⟨_, rfl⟩⟩)
  · cases h

end
end Mine

end
section
open PySem PySem.W PySem.Calls PyProof.Rows
set_option Elab.async false
set_option maxRecDepth 100000
namespace Mine

/-! displays -/
noncomputable def SEs (J : Jd) (es : List PySem.Expr) (f : Rho → Option (List D)) : Prop :=
  ∀ (A : Around) (env : Env) (P : Avd) (O : Nat → Option Addr) (vm : Str → Option Value) (s : Shared) (ρ : Rho) (ds : List D) (pos : Pos), Room A J.k → FrV J.cx J.sc J.tab env P O vm s ρ → f ρ = some ds →
    W J.cx.prog J.cx.w A (spliced (backTo pos (starEach es env))) (fun vs s' => Ext s s' ∧ RdAll J.cx s'.heap (Av env P O) ds vs) s
noncomputable def nilF : Rho → Option (List D) := fun _ => some []
noncomputable def consF (f : Rho → Option D) (g : Rho → Option (List D)) : Rho → Option (List D) := fun ρ => (f ρ).bind fun d => (g ρ).map fun ds => d :: ds
noncomputable def listE (f : Rho → Option (List D)) : Rho → Option D := fun ρ => (f ρ).bind fun ds => if ds.length ≤ 1000 then some (.list ds) else none
/-- the expression makes a new list -/
noncomputable def SEF (J : Jd) (e : PySem.Expr) (f : Rho → Option (List D)) : Prop :=
  ∀ (A : Around) (env : Env) (P : Avd) (O : Nat → Option Addr) (vm : Str → Option Value) (s : Shared) (ρ : Rho) (ds : List D), Room A J.k → FrV J.cx J.sc J.tab env P O vm s ρ → f ρ = some ds →
    W J.cx.prog J.cx.w A (eval e env) (fun v s' => Ext s s' ∧ ∃ a vs n, v = .ref a ∧ s.heap.objs.size ≤ a ∧ s'.heap.get? a = some { cls := .type "list", data := .seq vs n } ∧ vs.size ≤ sizeLine ∧
      RdAll J.cx s'.heap (fun b => Av env P O b ∨ b = a) ds vs.toList) s

section
variable {J : Jd}
theorem ses_nil : SEs J [] nilF := fun A env P O vm s ρ ds pos hA F h => by
  cases h
  exact W.of_any (Calls.spliced_nil ⟨Ext.refl _, RdAll.nil⟩)
theorem ses_cons {e : PySem.Expr} {es : List PySem.Expr} {f : Rho → Option D} {g : Rho → Option (List D)} (he : SE J e f) (hes : SEs J es g) (hs : isStarred e = false := by rfl) : SEs J (e :: es) (consF f g) := fun A env P O vm s ρ ds pos hA F h => by
  unfold consF at h
  rw [Option.bind_eq_some_iff] at h
  obtain ⟨d, hd, h⟩ := h
  rw [Option.map_eq_some_iff] at h
  obtain ⟨ds', hds, rfl⟩ := h
  have e1 : backTo pos (starEach (e :: es) env) = (false, eval e env) :: backTo pos (starEach es env) := by
    cases e <;> first | rfl | cases hs
  rw [e1, spliced]
  refine W.bind (W.mono (he A env P O vm s ρ d hA F hd) fun v s₁ ⟨X1, r1⟩ => ?_)
  simp only [Bool.false_eq_true, if_false]
  refine W.bind (W.pure (W.bind (W.holding (W.mono (hes A env P O vm s₁ ρ ds' pos hA (F.ext X1) hds) fun vs s₂ ⟨X2, r2⟩ => W.pure ⟨X1.trans X2, ?_⟩))))
  exact RdAll.cons (r1.keep X2.keep) r2

theorem sef_list {es : List PySem.Expr} {pos : Pos} {f : Rho → Option (List D)} (hes : SEs J es f) : SEF J (.List es pos) (fun ρ => (f ρ).bind fun ds => if ds.length ≤ 1000 then some ds else none) := fun A env P O vm s ρ ds hA F h => by
  rw [Option.bind_eq_some_iff] at h
  obtain ⟨ds', hds, h⟩ := h
  split at h
  · rename_i hz
    cases h
    show W _ _ A (do standAt pos; newList (← spliced (backTo pos (starEach es env)))) _ s
    refine W.bind (W.standAt (W.bind (W.mono (hes A env P O vm s ρ ds pos hA F hds) fun vs s₁ ⟨X1, r1⟩ => ?_)))
    have hl := r1.length
    have hz' : vs.length ≤ sizeLine := by have := szl; omega
    refine W.of_any (wpAny_newList ⟨X1.trans (Ext.push _ _), _, vs.toArray, 0, rfl, X1.size, Heap.get?_push_size _ rfl, by simpa using hz', ?_⟩ hz')
    refine r1.mono (fun a o _ e => Heap.get?_push_of_some _ e) fun a ha => ha.imp id fun e => ?_
    rw [e]; exact get_none (Nat.le_refl _)
  · cases h
theorem se_list {es : List PySem.Expr} {pos : Pos} {f : Rho → Option (List D)} (hes : SEs J es f) : SE J (.List es pos) (listE f) := fun A env P O vm s ρ d hA F h => by
  unfold listE at h
  rw [Option.bind_eq_some_iff] at h
  obtain ⟨ds, hds, h⟩ := h
  split at h
  · rename_i hz
    cases h
    refine W.mono (sef_list hes A env P O vm s ρ ds hA F (by simp [hds, hz])) fun v s₁ ⟨X, a, vs, n, e1, e2, e3, e4, e5⟩ => ⟨X, ?_⟩
    rw [Rd]
    exact ⟨a, vs, n, e1, e3, F.new e2, e4, e5.weak fun b hb => .inl hb⟩
  · cases h
end

/-! subscripts -/
noncomputable def opItem : D → D → Option D
  | .str l, .int i => (seqIndex? i l.length).bind fun k => (l[k]?).map fun c => .str [c]
  | .list xs, .int i => (seqIndex? i xs.length).bind (xs[·]?)
  | .tup xs, .int i => (seqIndex? i xs.length).bind (xs[·]?)
  | _, _ => none
theorem seqIndex_bound {i : Int} {n k : Nat} (h : seqIndex? i n = some k) : -(n : Int) ≤ i ∧ i < n ∧ k = (if i < 0 then i + n else i).toNat ∧ k < n := by
  unfold seqIndex? at h
  dsimp only at h
  by_cases hi : i < 0
  · rw [if_pos hi] at h ⊢
    split at h
    · rename_i hc
      rw [Bool.and_eq_true, decide_eq_true_eq, decide_eq_true_eq] at hc
      cases h
      exact ⟨by omega, by omega, rfl, by omega⟩
    · cases h
  · rw [if_neg hi] at h ⊢
    split at h
    · rename_i hc
      rw [Bool.and_eq_true, decide_eq_true_eq, decide_eq_true_eq] at hc
      cases h
      exact ⟨by omega, by omega, rfl, by omega⟩
    · cases h

/-- one item -/
theorem item_ok {cx : Cx} {A : Around} {V : Avd} {s : Shared} {a b r : D} {x y : Value} {value slice : PySem.Expr} (ra : Rd cx s.heap V a x) (rb : Rd cx s.heap V b y) (h : opItem a b = some r)
    (hs : subscripted slice false x y = operate [x, y] (getItem x y)) : W cx.prog cx.w A (subscriptTail value slice x y) (fun v s' => Ext s s' ∧ Rd cx s'.heap V r v) s := by
  have hsz := szl
  unfold opItem at h
  split at h
  · rename_i l i
    rw [Rd] at ra
    rw [Rd] at rb
    obtain ⟨t, rfl, h1, h2⟩ := ra
    obtain ⟨u, rfl⟩ := rb
    rw [Option.bind_eq_some_iff] at h
    obtain ⟨k, hk, h⟩ := h
    rw [Option.map_eq_some_iff] at h
    obtain ⟨c, hc, rfl⟩ := h
    obtain ⟨b1, b2, b3, b4⟩ := seqIndex_bound hk
    refine W.of_any (tail_any (typeIs_str s _ t) slot_str_getitem.lookup (getItem_str (c := c) ?_ ?_ ⟨Ext.toks _, ?_⟩) hs)
    · simp only [Bool.or_eq_false_iff, decide_eq_false_iff_not]; constructor <;> omega
    · rw [str_len, hk]; simp [hc]
    · exact rd_str (fun c' hc' => by simp at hc'; subst hc'; exact h1 _ (List.mem_of_getElem? hc)) (by have := szl; simp; omega)
  · rename_i xs i
    rw [Rd] at ra
    rw [Rd] at rb
    obtain ⟨p, vs, n, rfl, ho, _, hz, ra⟩ := ra
    obtain ⟨u, rfl⟩ := rb
    rw [Option.bind_eq_some_iff] at h
    obtain ⟨k, hk, h⟩ := h
    obtain ⟨b1, b2, b3, b4⟩ := seqIndex_bound hk
    obtain ⟨v, hv, r⟩ := ra.get h
    have hl := ra.length
    rw [Array.length_toList] at hl
    have hv' : vs[k]? = some v := by rw [← Array.getElem?_toList]; exact hv
    have hlist : s.heap.IsList p vs := ⟨_, ho, rfl, n, rfl⟩
    by_cases hi : i < 0
    · rw [if_pos hi] at b3
      refine W.of_any (tail_any hlist.typeIs F.slot_list_getitem.lookup (wpAny_getItem_list_neg hlist hi (by omega) (by omega) (x := v) ?_ ⟨Ext.refl _, r⟩) hs)
      rw [show (i + (vs.size : Int)).toNat = k by rw [b3, hl]]; exact hv'
    · rw [if_neg hi] at b3
      refine W.of_any (tail_any hlist.typeIs F.slot_list_getitem.lookup (wpAny_getItem_list hlist (by omega) (by omega) (x := v) ?_ ⟨Ext.refl _, r⟩) hs)
      rw [← b3]; exact hv'
  · rename_i xs i
    rw [Rd] at ra
    rw [Rd] at rb
    obtain ⟨p, vs, n, rfl, ho, _, hz, ra⟩ := ra
    obtain ⟨u, rfl⟩ := rb
    rw [Option.bind_eq_some_iff] at h
    obtain ⟨k, hk, h⟩ := h
    obtain ⟨b1, b2, b3, b4⟩ := seqIndex_bound hk
    obtain ⟨v, hv, r⟩ := ra.get h
    have hl := ra.length
    rw [Array.length_toList] at hl
    have hv' : vs[k]? = some v := by rw [← Array.getElem?_toList]; exact hv
    exact W.of_any (tail_any (T := "tuple") ⟨_, ho, rfl⟩ F.slot_tuple_getitem.lookup (P.getItem_tuple ho (by omega) (by omega) (by rw [hl]; exact hk) hv' ⟨Ext.refl _, r⟩) hs)
  · cases h

noncomputable def notSlice : PySem.Expr → Bool
  | .Slice .. => false
  | _ => true
noncomputable def itemE (f g : Rho → Option D) : Rho → Option D := binE opItem f g
section
variable {J : Jd}
theorem subscript_split {value slice : PySem.Expr} {pos : Pos} {env : Env} : eval (.Subscript value slice pos) env = (do
    let o ← eval value env
    let i ← holding [o] (eval slice env)
    standAt pos
    subscriptTail value slice o i) := rfl
theorem se_item {value slice : PySem.Expr} {pos : Pos} {f g : Rho → Option D} (hv : SE J value f) (hi : SE J slice g) (hs : notSlice slice = true := by rfl) : SE J (.Subscript value slice pos) (itemE f g) := fun A env P O vm s ρ d hA F h => by
  unfold itemE binE at h
  rw [Option.bind_eq_some_iff] at h
  obtain ⟨a, ha, h⟩ := h
  rw [Option.bind_eq_some_iff] at h
  obtain ⟨b, hb, h⟩ := h
  rw [subscript_split]
  refine W.bind (W.mono (hv A env P O vm s ρ a hA F ha) fun x s₁ ⟨X1, r1⟩ => W.bind (W.holding (W.mono (hi A env P O vm s₁ ρ b hA (F.ext X1) hb) fun y s₂ ⟨X2, r2⟩ => W.bind (W.standAt ?_))))
  refine W.mono (item_ok (r1.keep X2.keep) r2 h ?_) fun v s₃ ⟨X3, r3⟩ => ⟨X1.trans (X2.trans X3), r3⟩
  cases slice <;> first | rfl | cases hs
end

/-! slices -/
noncomputable def cut {α : Type} (l : List α) (lo hi : Option Int) : List α := (l.drop (lo.elim 0 (clipAt l.length))).take (hi.elim l.length (clipAt l.length) - lo.elim 0 (clipAt l.length))
noncomputable def opCut (lo hi : Option Int) : D → Option D
  | .str l => some (.str (cut l lo hi))
  | .list xs => some (.list (cut xs lo hi))
  | _ => none
noncomputable def PartV : Option Int → Value → Prop
  | none, v => v = .none
  | some i, v => ∃ t, v = .int i t
noncomputable def SP (J : Jd) (e : Option PySem.Expr) (f : Rho → Option (Option Int)) : Prop :=
  ∀ (A : Around) (env : Env) (P : Avd) (O : Nat → Option Addr) (vm : Str → Option Value) (s : Shared) (ρ : Rho) (d : Option Int), Room A J.k → FrV J.cx J.sc J.tab env P O vm s ρ → f ρ = some d →
    W J.cx.prog J.cx.w A (valueOrNone (evalOpt e env)) (fun v s' => Ext s s' ∧ PartV d v) s
noncomputable def noP : Rho → Option (Option Int) := fun _ => some none
noncomputable def intP (f : Rho → Option D) : Rho → Option (Option Int) := fun ρ => (f ρ).bind fun d => match d with | .int i => some (some i) | _ => none
section
variable {J : Jd}
theorem sp_none : SP J none noP := fun A env P O vm s ρ d hA F h => by
  cases h; exact W.pure ⟨Ext.refl _, rfl⟩
theorem sp_some {e : PySem.Expr} {f : Rho → Option D} (he : SE J e f) : SP J (some e) (intP f) := fun A env P O vm s ρ d hA F h => by
  unfold intP at h
  rw [Option.bind_eq_some_iff] at h
  obtain ⟨a, ha, h⟩ := h
  split at h
  · cases h
    refine W.mono (he A env P O vm s ρ _ hA F ha) fun v s₁ ⟨X, r⟩ => ⟨X, ?_⟩
    rw [Rd] at r; exact r
  · cases h
theorem partV_isPart {d : Option Int} {v : Value} (h : PartV d v) : IsPart v d := by
  cases d with
  | none => cases h; exact .none
  | some i => obtain ⟨t, rfl⟩ := h; exact .int i t
theorem partV_value {d : Option Int} {v : Value} (h : PartV d v) : ∃ p : Option (Int × Tok), v = partValue p ∧ p.map (·.1) = d := by
  cases d with
  | none => cases h; exact ⟨none, rfl, rfl⟩
  | some i => obtain ⟨t, rfl⟩ := h; exact ⟨some (i, t), rfl, rfl⟩
theorem strSlice_plain (l : List Nat) (lo hi : Option Int) : (Builtin.Str.strSliceIndices lo hi 1 l.length).filterMap (l[·]?) = cut l lo hi := by
  have h1 : Builtin.Str.strSliceIndices lo hi 1 l.length = sliceRange (((lo.elim 0 (clipAt l.length) : Nat) : Int)) ((hi.elim l.length (clipAt l.length) : Nat) : Int) 1 := by
    cases lo <;> cases hi <;> simp [Builtin.Str.strSliceIndices, clipAt_cast]
  rw [h1, sliceRange_one]
  have := pick_run l.toArray (lo.elim 0 (clipAt l.length)) (hi.elim l.length (clipAt l.length) - lo.elim 0 (clipAt l.length))
  simpa [cut] using this
theorem mem_cut {α : Type} {l : List α} {lo hi : Option Int} {c : α} (h : c ∈ cut l lo hi) : c ∈ l := List.mem_of_mem_drop (List.mem_of_mem_take h)
theorem cut_le {α : Type} (l : List α) (lo hi : Option Int) : (cut l lo hi).length ≤ l.length := by
  unfold cut; rw [List.length_take, List.length_drop]; omega

noncomputable def cutE (f : Rho → Option D) (lo hi : Rho → Option (Option Int)) : Rho → Option D := fun ρ => (f ρ).bind fun a => (lo ρ).bind fun i => (hi ρ).bind fun j => opCut i j a

theorem cut_ok {cx : Cx} {A : Around} {V : Avd} {s : Shared} {a r : D} {x vl vu : Value} {lo hi : Option Int} {value : PySem.Expr} {l u : Option PySem.Expr} {p : Pos} {sl : Addr} (hV : ∀ p, V p → p < s.heap.objs.size) (ra : Rd cx s.heap V a x) (pl : PartV lo vl) (pu : PartV hi vu)
    (hsl : s.heap.get? sl = some { cls := .type "slice", data := .fields #[vl, vu, .none] }) (h : opCut lo hi a = some r) :
    W cx.prog cx.w A (subscriptTail value (.Slice l u none p) x (.ref sl)) (fun v s' => Ext s s' ∧ Rd cx s'.heap V r v) s := by
  unfold opCut at h
  split at h
  · rename_i l'
    cases h
    rw [Rd] at ra
    obtain ⟨t, rfl, h1, h2⟩ := ra
    obtain ⟨p1, rfl, e1⟩ := partV_value pl
    obtain ⟨p2, rfl, e2⟩ := partV_value pu
    refine W.of_any (tail_any (ops := [.ref sl, .str ⟨l'.toArray⟩ t]) (typeIs_str s _ t) slot_str_getitem.lookup (wpAny_getItem_str_slice (l := p1) (u := p2) (st := none) ⟨_, hsl, rfl, rfl⟩ rfl ?_) rfl)
    have hp : slicePicked ⟨l'.toArray⟩ p1 p2 none = Builtin.Str.strSliceIndices lo hi 1 l'.length := by
      unfold slicePicked; rw [e1, e2, str_len]; rfl
    unfold sliceMade
    rw [hp]
    have hget : ((Builtin.Str.strSliceIndices lo hi 1 l'.length).filterMap ((⟨l'.toArray⟩ : Str).cps[·]?)) = cut l' lo hi := by
      rw [← strSlice_plain]; simp
    have hr : ∀ t', Rd cx s.heap V (.str (cut l' lo hi)) (.str ⟨(cut l' lo hi).toArray⟩ t') := fun t' => rd_str (fun c hc => h1 c (mem_cut hc)) (Nat.le_trans (cut_le _ _ _) h2)
    split
    · rename_i hc
      rw [Bool.and_eq_true] at hc
      have hlen : (Builtin.Str.strSliceIndices lo hi 1 l'.length).length = l'.length := by have := hc.2; rw [str_len] at this; simpa using this
      have hcut : cut l' lo hi = l' := by
        have h1 : (Builtin.Str.strSliceIndices lo hi 1 l'.length) = sliceRange (((lo.elim 0 (clipAt l'.length) : Nat) : Int)) ((hi.elim l'.length (clipAt l'.length) : Nat) : Int) 1 := by
          cases lo <;> cases hi <;> simp [Builtin.Str.strSliceIndices, clipAt_cast]
        rw [h1, sliceRange_one] at hlen
        simp only [List.length_map, List.length_range] at hlen
        unfold cut
        generalize lo.elim 0 (clipAt l'.length) = i at *
        have hj : hi.elim l'.length (clipAt l'.length) ≤ l'.length := by
          cases hi with
          | none => exact Nat.le_refl _
          | some j => simp only [Option.elim]; have := clipAt_cast l'.length j; omega
        generalize hi.elim l'.length (clipAt l'.length) = j at *
        rcases Nat.eq_zero_or_pos l'.length with h0 | h0
        · have : l' = [] := List.length_eq_zero_iff.mp h0
          subst this; simp
        · have : i = 0 := by omega
          subst this
          rw [List.drop_zero, List.take_of_length_le (by omega)]
      exact ⟨Ext.refl _, by have := hr t; rw [hcut] at this ⊢; exact this⟩
    · rw [hget]
      exact ⟨by rw [str_len]; exact Nat.le_trans (cut_le _ _ _) h2, Ext.toks _, hr _⟩
  · rename_i xs
    cases h
    rw [Rd] at ra
    obtain ⟨q, vs, n, rfl, ho, _, hz, ra⟩ := ra
    have hlist : s.heap.IsList q vs := ⟨_, ho, rfl, n, rfl⟩
    refine W.of_any (tail_any (ops := [.ref sl, .ref q]) hlist.typeIs F.slot_list_getitem.lookup (wpAny_getItem_list_slice hlist ⟨_, hsl, rfl, rfl⟩ (partV_isPart pl) (partV_isPart pu) .none (by intro x; cases x) ⟨Ext.push _ _, ?_⟩ hz) rfl)
    have hl := ra.length
    rw [Array.length_toList] at hl
    rw [Rd]
    refine ⟨_, _, 0, rfl, Heap.get?_push_size _ rfl, fun hp => Nat.lt_irrefl _ (hV _ hp), Nat.le_trans (slicePick_size_le _ _ _ _) hz, ?_⟩
    rw [slicePick_plain, hl]
    exact ((ra.drop _).take _).keep fun _ _ e => Heap.get?_push_of_some _ e
  · cases h

theorem se_cut {value : PySem.Expr} {l u : Option PySem.Expr} {p pos : Pos} {f : Rho → Option D} {lo hi : Rho → Option (Option Int)} (hv : SE J value f) (hl : SP J l lo) (hu : SP J u hi) : SE J (.Subscript value (.Slice l u none p) pos) (cutE f lo hi) := fun A env P O vm s ρ d hA F h => by
  unfold cutE at h
  rw [Option.bind_eq_some_iff] at h
  obtain ⟨a, ha, h⟩ := h
  rw [Option.bind_eq_some_iff] at h
  obtain ⟨i, hi', h⟩ := h
  rw [Option.bind_eq_some_iff] at h
  obtain ⟨j, hj, h⟩ := h
  rw [subscript_split]
  refine W.bind (W.mono (hv A env P O vm s ρ a hA F ha) fun x s₁ ⟨X1, r1⟩ => W.bind (W.holding ?_))
  show W _ _ A (do let l' ← valueOrNone (evalOpt l env); let u' ← holding [l'] (valueOrNone (evalOpt u env)); let st ← holding [l', u'] (valueOrNone (evalOpt none env)); newFields "slice" [l', u', st]) _ s₁
  refine W.bind (W.mono (hl A env P O vm s₁ ρ i hA (F.ext X1) hi') fun vl s₂ ⟨X2, p2⟩ => W.bind (W.holding (W.mono (hu A env P O vm s₂ ρ j hA (F.ext (X1.trans X2)) hj) fun vu s₃ ⟨X3, p3⟩ => W.bind (W.holding (W.pure ?_)))))
  refine W.of_any (wpAny_newObj_type ?_ (by show (#[vl, vu, Value.none] : Array Value).size ≤ _; have := szl; simp; omega))
  refine W.bind (W.standAt ?_)
  have X := X1.trans (X2.trans (X3.trans (Ext.push (s := s₃) { cls := .type "slice", data := .fields #[vl, vu, .none] } s₃.toks)))
  refine W.mono (cut_ok (fun q hq => (F.ext X).avLt hq) (((r1.keep X2.keep).keep X3.keep).keep fun _ _ e => Heap.get?_push_of_some _ e) p2 p3 (Heap.get?_push_size _ rfl) h) fun v s₄ ⟨X4, r4⟩ => ⟨X.trans X4, r4⟩
end
end Mine

end
section
open PySem PySem.W PySem.Calls PyProof.Rows
set_option Elab.async false
set_option maxRecDepth 100000
namespace Mine

/-! calls -/
noncomputable def KeepOk (f : Value) (h : Heap) : Prop := (∃ a o fd, f = .ref a ∧ h.get? a = some o ∧ o.data = .func fd) ∨ ∀ a, f ≠ .ref a

theorem backTo_plain (pos : Pos) (env : Env) : ∀ {es : List PySem.Expr}, es.any isStarred = false → (backTo pos (starEach es env)).any (·.1) = false ∧ (backTo pos (starEach es env)).length = es.length
  | [], _ => ⟨rfl, rfl⟩
  | e :: es, h => by
    rw [List.any_cons, Bool.or_eq_false_iff] at h
    have e1 : backTo pos (starEach (e :: es) env) = (false, eval e env) :: backTo pos (starEach es env) := by
      cases e <;> first | rfl | cases h.1
    have ih := backTo_plain pos env h.2
    rw [e1]
    exact ⟨by rw [List.any_cons, ih.1]; rfl, by rw [List.length_cons, List.length_cons, ih.2]⟩

section
variable {prog : Program} {w : World} {A : Around} {s : Shared}
theorem evalArgs_ok {f : Value} {args : List (Bool × Sem Value)} {Q : Args → Shared → Prop} (hs : args.any (·.1) = false) (h : W prog w A (spliced args) (fun vs s' => Q ⟨vs, []⟩ s') s) : W prog w A (evalArgs f true args []) Q s := by
  have e : evalArgs f true args [] = (spliced args >>= fun pos => holding (pos ++ (Option.none : Option Value).toList) (do
      let kw := (([] : List (Option Str × Sem Value)).filterMap (·.1)).zip (← evalAll (([] : List (Option Str × Sem Value)).map (·.2)))
      return ⟨← (pure pos : Sem (List Value)), kw⟩)) := by
    unfold evalArgs
    cases args with
    | nil => simp
    | cons x rest =>
      obtain ⟨b, t⟩ := x
      cases b with
      | true => simp at hs
      | false => simp
  rw [e]
  exact W.bind (W.mono h fun vs s' h' => W.holding (W.bind (W.pure (W.bind (W.pure (W.pure h'))))))

theorem callWith_ok {pos : Pos} {f : Value} {first : List Value} {args : List (Bool × Sem Value)} {Q : Value → Shared → Prop} (hs : args.any (·.1) = false) (hl : args.length ≤ 30)
    (h : W prog w A (spliced args) (fun vs s₁ => KeepOk f s₁.heap ∧ W prog w A (PySem.call f (first ++ vs)) Q s₁) s) : W prog w A (callWith pos f first args []) Q s := by
  unfold callWith
  refine W.bind (W.holding (evalArgs_ok hs (W.mono h fun vs s₁ ⟨hk, h₁⟩ => W.bind (W.standAt ?_))))
  have hfin : ∀ {t : Sem Value}, W prog w A t Q s₁ → W prog w A (t >>= fun r => do holding [r] point; pure r) Q s₁ := fun ht =>
    W.bind (W.mono ht fun r s₂ hr => W.bind (W.holding (W.point (W.pure hr))))
  rcases hk with ⟨a, o, fd, rfl, ho, hd⟩ | hk
  · refine W.bind (m := keeperOf (.ref a)) ?_
    have hko : W prog w A (keeperOf (.ref a)) (fun k s' => k = .frame ∧ s' = s₁) s₁ := by
      refine W.of_any ?_
      unfold keeperOf
      refine wpAny_bind (wpAny_load ho ?_)
      rw [hd]
      exact wpAny_pure ⟨rfl, rfl⟩
    refine W.mono hko fun k s' ⟨e1, e2⟩ => ?_
    subst e1 e2
    simp only [hs, List.any_nil, Bool.or_false]
    rw [if_neg (by simp; omega)]
    refine hfin ?_
    unfold callMarked
    exact W.keep h₁
  · have hko : keeperOf f = pure .machine := by
      unfold keeperOf
      cases f <;> first | rfl | exact absurd rfl (hk _)
    rw [hko]
    refine W.bind (W.pure ?_)
    simp only [hs, List.any_nil, Bool.or_false]
    exact hfin h₁
end

noncomputable def Base (cx : Cx) (h : Heap) : Prop := cx.h₁.objs.size ≤ h.objs.size ∧ ∀ a o, cx.h₁.get? a = some o → h.get? a = some o
theorem FrV.baseOf {cx : Cx} {sc : Scope} {tab : List (Option Str)} {env : Env} {P : Avd} {O : Nat → Option Addr} {vm : Str → Option Value} {s : Shared} {ρ : List Slot} (F : FrV cx sc tab env P O vm s ρ) : Base cx s.heap :=
  ⟨have x := F.fresh env.locals (.inr (.inl rfl)); Nat.le_of_lt (Nat.lt_of_le_of_lt x.1 x.2), F.base⟩
/-- what a call of fv on data gives -/
noncomputable def Con (cx : Cx) (k : Nat) (fv : Value) (F : List D → Option D) : Prop :=
  ∀ (A : Around) (V : Avd) (s : Shared) (ds : List D) (vs : List Value) (r : D), Room A k → (∀ p, V p → p < s.heap.objs.size) → Base cx s.heap → RdAll cx s.heap V ds vs → F ds = some r →
    W cx.prog cx.w A (PySem.call fv vs) (fun v s' => Ext s s' ∧ Rd cx s'.heap V r v) s
noncomputable def callE (F : List D → Option D) (g : Rho → Option (List D)) : Rho → Option D := fun ρ => (g ρ).bind F

theorem Room.le {A : Around} {k k' : Nat} (h : Room A k) (hk : k' ≤ k) : Room A k' := ⟨h.1, by have := h.2.1; omega, by have := h.2.2; omega⟩

section
variable {J : Jd}
theorem se_call {fn : Str} {fv : Value} {p pos : Pos} {es : List PySem.Expr} {F : List D → Option D} {g : Rho → Option (List D)} {k : Nat} (hc : Con J.cx k fv F) (hes : SEs J es g)
    (hv : (J.cx.mg fn).or (J.cx.mb fn) = some fv) (hkeep : KeepOk fv J.cx.h₁) (hk : k ≤ J.k := by decide)
    (hl : J.sc.names.lookup fn = some .globalImplicit := by rfl) (hst : es.any isStarred = false := by rfl) (hlen : es.length ≤ 30 := by decide) (hdb : (fn == ("__debug__" : Str)) = false := by decide) :
    SE J (.Call (.Name fn p) es [] pos) (callE F g) := fun A env P O vm s ρ d hA Fr h => by
  unfold callE at h
  rw [Option.bind_eq_some_iff] at h
  obtain ⟨ds, hds, h⟩ := h
  show W _ _ A (do callWith pos (← eval (.Name fn p) env) [] (backTo pos (starEach es env)) []) _ s
  rw [eval_Name env fn p hdb]
  refine W.bind (W.bind (W.standAt (Fr.glob_ hl hv ?_)))
  have hb := backTo_plain pos env hst
  refine callWith_ok hb.1 (by rw [hb.2]; exact hlen) (W.mono (hes A env P O vm s ρ ds pos hA Fr hds) fun vs s₁ ⟨X1, r1⟩ => ⟨?_, ?_⟩)
  · rcases hkeep with ⟨a, o, fd, e, ho, hd⟩ | hk
    · exact .inl ⟨a, o, fd, e, (Fr.ext X1).base a o ho, hd⟩
    · exact .inr hk
  · exact W.mono (hc A (Av env P O) s₁ ds vs d (hA.le hk) (fun q hq => (Fr.ext X1).avLt hq) (Fr.ext X1).baseOf r1 h) fun v s₂ ⟨X2, r2⟩ => ⟨X1.trans X2, r2⟩
end

/-! built-in functions -/
noncomputable def lenF : List D → Option D
  | [.str l] => some (.int l.length)
  | [.list xs] => some (.int xs.length)
  | _ => none
theorem con_len {cx : Cx} {k : Nat} : Con cx k (.builtin "len") lenF := fun A V s ds vs r hA hV hb ra h => by
  have hsz := szl
  unfold lenF at h
  split at h
  · cases h
    rw [RdAll] at ra; obtain ⟨v, l, rfl, ra, rb⟩ := ra
    rw [RdAll] at rb; subst rb
    rw [Rd] at ra; obtain ⟨t, rfl, _, hz⟩ := ra
    exact W.of_any (len_str (by rw [str_len]; omega) ⟨Ext.toks _, by rw [Rd, str_len]; exact ⟨_, rfl⟩⟩)
  · cases h
    rw [RdAll] at ra; obtain ⟨v, l, rfl, ra, rb⟩ := ra
    rw [RdAll] at rb; subst rb
    rw [Rd] at ra; obtain ⟨a, us, n, rfl, ho, _, hz, ra⟩ := ra
    have hl := ra.length
    rw [Array.length_toList] at hl
    exact W.of_any (Calls.call_len_list ⟨_, ho, rfl, n, rfl⟩ (by omega) ⟨Ext.toks _, by rw [Rd, hl]; exact ⟨_, rfl⟩⟩)
  · cases h
end Mine

end
section
open PySem PySem.W PySem.Calls PyProof.Rows
set_option Elab.async false
set_option maxRecDepth 100000
namespace Mine

/-! the heap only grows -/
theorem runs_size {M : Model} {Γ : Ctx} {p : Pos} {t : Sem Fin} {fs : List Frame} {s s' : Shared} {e : End} (h : Runs M Γ p t fs s e s') : s.heap.objs.size ≤ s'.heap.objs.size := by
  induction h <;> (try simp only [Shared.setGen, Heap.size_push, Heap.size_after_update] at *) <;> omega
theorem wakes_size {M : Model} {Γ : Ctx} {p : Pos} {g : Nat} {r : Resume} {s s' : Shared} {res : GenResult} (h : Wakes M Γ p g r s res s') : s.heap.objs.size ≤ s'.heap.objs.size := by
  unfold Wakes at h
  split at h
  · exact h.elim
  · split at h
    · obtain ⟨e₁, s₁, hr, _, _, rfl⟩ := h; exact (runs_size hr : (s.setGen g .running).heap.objs.size ≤ s₁.heap.objs.size)
    · rw [h.2]; exact Nat.le_refl _
    · rw [h.2]; exact Nat.le_refl _
  · obtain ⟨e₁, s₁, hr, _, _, rfl⟩ := h; exact (runs_size hr : (s.setGen g .running).heap.objs.size ≤ s₁.heap.objs.size)
  · rw [h.2]; exact Nat.le_refl _
  · rw [h.2]; exact Nat.le_refl _
theorem wp_size {α : Type} (M : Model) (Γ : Ctx) (n : Nat) (t : Sem α) : ∀ (Q : α → Pos → Shared → Prop) (E : Value → Pos → Shared → Prop) (p : Pos) (s : Shared), n ≤ s.heap.objs.size → Sem.wp M Γ t Q E p s →
    Sem.wp M Γ t (fun a p' s' => n ≤ s'.heap.objs.size ∧ Q a p' s') E p s := by
  induction t with
  | pure a => intro Q E p s hn h; exact ⟨hn, h⟩
  | raise e => intro Q E p s hn h; exact h
  | unsupported _ => intro Q E p s _ h; exact h
  | finish _ => intro Q E p s _ h; exact h
  | rule _ k ih => intro Q E p s hn h; exact ih () Q E p s hn h
  | «at» p' k ih => intro Q E p s hn h; exact ih () Q E p' s hn h
  | load a _ k ih => intro Q E p s hn h; obtain ⟨o, ho, h⟩ := h; exact ⟨o, ho, ih o Q E p s hn h⟩
  | update a _ f k ih => intro Q E p s hn h; exact ⟨h.1, ih () Q E p _ (by show n ≤ (s.heap.update a f).objs.size; rw [Heap.size_after_update]; exact hn) h.2⟩
  | loadIfAlive a k ih => intro Q E p s hn h; exact ih _ Q E p s hn h
  | point _ k ih => intro Q E p s hn h; exact ih () Q E p s hn h
  | register _ _ => intro Q E p s _ h; exact h
  | alloc o k ih => intro Q E p s hn h; exact ih _ Q E p _ (by show n ≤ (s.heap.push o).objs.size; rw [Heap.size_push]; exact Nat.le_succ_of_le hn) h
  | fresh k ih => intro Q E p s hn h; exact ih _ Q E p { s with toks := s.toks + 1 } hn h
  | ask k ih => intro Q E p s hn h; exact ih _ Q E p s hn h
  | choose src m k ih => intro Q E p s hn h; exact ⟨h.1, ih _ Q E p _ hn h.2⟩
  | os q _ k ih => intro Q E p s hn h; exact ih _ Q E p _ hn h
  | call c hd _ _ k ih => intro Q E p s hn h; obtain ⟨r, s', hr, h⟩ := h; exact ⟨r, s', hr, ih r Q E p s' (Nat.le_trans hn (runs_size hr)) h⟩
  | handled own k ih => intro Q E p s hn h; exact ih _ Q E p s hn h
  | genState g k ih => intro Q E p s hn h; obtain ⟨st, hs, h⟩ := h; exact ⟨st, hs, ih _ Q E p s hn h⟩
  | newGen c k ih => intro Q E p s hn h; exact ih _ Q E p _ hn h
  | resume g r _ k ih => intro Q E p s hn h; obtain ⟨res, s', hw, h⟩ := h; exact ⟨res, s', hw, ih res Q E p s' (Nat.le_trans hn (wakes_size hw)) h⟩
  | yield _ _ _ _ => intro Q E p s _ h; exact h
  | stack k ih => intro Q E p s hn h; exact ih _ Q E p s hn h
  | fork _ _ => intro Q E p s _ h; exact h
  | thread k ih => intro Q E p s hn h; exact ih _ Q E p s hn h
  | await _ _ _ _ _ => intro Q E p s _ h; exact h

section
variable {α : Type} {prog : Program} {w : World} {A : Around} {s : Shared}
theorem W.size {t : Sem α} {Q : α → Shared → Prop} (h : W prog w A t Q s) : W prog w A t (fun a s' => s.heap.objs.size ≤ s'.heap.objs.size ∧ Q a s') s :=
  fun ht Γ p hΓ hc => wp_size _ Γ _ t _ _ p s (Nat.le_refl _) (h ht Γ p hΓ hc)
/-- a leaf whose rule tells the heap's size not at all -/
theorem W.of_anyS {t : Sem α} {Q : α → Shared → Prop} (h : wpAny (model prog w) A t (fun a s' => s.heap.objs.size ≤ s'.heap.objs.size → Q a s') (fun _ _ => False) s) : W prog w A t Q s :=
  W.mono (W.size (W.of_any h)) fun _ _ ⟨h1, h2⟩ => h2 h1
end

/-! statements -/
inductive Out where
  | next
  | ret (d : D)
noncomputable def OutOk (cx : Cx) (h : Heap) (P : Avd) : Out → Flow → Prop
  | .next, f => f = .next
  | .ret d, f => ∃ v, f = .ret v ∧ Rd cx h P d v

noncomputable def Post (J : Jd) (env : Env) (P : Avd) (O : Nat → Option Addr) (s : Shared) (out : Out) (ρ' : Rho) (fl : Flow) (s' : Shared) : Prop :=
  OutOk J.cx s'.heap P out fl ∧ ∃ O' vm', FrV J.cx J.sc J.tab env P O' vm' s' ρ' ∧ Tr env O s O' s'
noncomputable def SS (J : Jd) (st : List Stmt) (f : Rho → Option (Out × Rho)) : Prop :=
  ∀ (A : Around) (env : Env) (P : Avd) (O : Nat → Option Addr) (vm : Str → Option Value) (s : Shared) (ρ : Rho) (out : Out) (ρ' : Rho), Room A J.k → FrV J.cx J.sc J.tab env P O vm s ρ → f ρ = some (out, ρ') →
    W J.cx.prog J.cx.w A (execs st env) (Post J env P O s out ρ') s
noncomputable def S1 (J : Jd) (st : Stmt) (f : Rho → Option (Out × Rho)) : Prop :=
  ∀ (A : Around) (env : Env) (P : Avd) (O : Nat → Option Addr) (vm : Str → Option Value) (s : Shared) (ρ : Rho) (out : Out) (ρ' : Rho), Room A J.k → FrV J.cx J.sc J.tab env P O vm s ρ → f ρ = some (out, ρ') →
    W J.cx.prog J.cx.w A (exec st env) (Post J env P O s out ρ') s
/-- a target -/
noncomputable def SA (J : Jd) (t : PySem.Expr) (g : D → Rho → Option Rho) : Prop :=
  ∀ (A : Around) (env : Env) (P : Avd) (O : Nat → Option Addr) (vm : Str → Option Value) (s : Shared) (ρ : Rho) (d : D) (v : Value) (ρ' : Rho), Room A J.k → FrV J.cx J.sc J.tab env P O vm s ρ → Rd J.cx s.heap (Av env P O) d v → g d ρ = some ρ' →
    W J.cx.prog J.cx.w A (assign t env v) (fun _ s' => ∃ O' vm', FrV J.cx J.sc J.tab env P O' vm' s' ρ' ∧ Tr env O s O' s') s

noncomputable def skS : Rho → Option (Out × Rho) := fun ρ => some (.next, ρ)
noncomputable def seqS (f g : Rho → Option (Out × Rho)) : Rho → Option (Out × Rho) := fun ρ => (f ρ).bind fun x => match x with | (.next, ρ') => g ρ' | (.ret d, ρ') => some (.ret d, ρ')
noncomputable def retS (f : Rho → Option D) : Rho → Option (Out × Rho) := fun ρ => (f ρ).map fun d => (.ret d, ρ)
noncomputable def setS (g : D → Rho → Option Rho) (f : Rho → Option D) : Rho → Option (Out × Rho) := fun ρ => (f ρ).bind fun d => (g d ρ).map fun ρ' => (.next, ρ')
noncomputable def ownS (i : Nat) (f : Rho → Option (List D)) : Rho → Option (Out × Rho) := fun ρ => (f ρ).map fun ds => (.next, ρ.set i (.own ds))
noncomputable def ifS (t : Rho → Option Bool) (f g : Rho → Option (Out × Rho)) : Rho → Option (Out × Rho) := fun ρ => (t ρ).bind fun b => if b then f ρ else g ρ
noncomputable def frzS (i : Nat) (g : Rho → Option (Out × Rho)) : Rho → Option (Out × Rho) := fun ρ => match ρ[i]? with | some (.own xs) => g (ρ.set i (.val (.list xs))) | _ => none
noncomputable def nameA (i : Nat) : D → Rho → Option Rho := fun d ρ => some (ρ.set i (.val d))
section
variable {J : Jd}
theorem ss_nil : SS J [] skS := fun A env P O vm s ρ out ρ' hA F h => by
  cases h
  exact W.pure ⟨rfl, O, vm, F, Tr.refl _ _ _⟩
theorem ss_cons {st : Stmt} {rest : List Stmt} {f g : Rho → Option (Out × Rho)} (h1 : S1 J st f) (h2 : SS J rest g) : SS J (st :: rest) (seqS f g) := fun A env P O vm s ρ out ρ' hA F h => by
  unfold seqS at h
  rw [Option.bind_eq_some_iff] at h
  obtain ⟨⟨o1, ρ1⟩, hf, h⟩ := h
  rw [execs_cons]
  refine W.bind (W.mono (h1 A env P O vm s ρ o1 ρ1 hA F hf) fun fl s₁ ⟨ok, O1, vm1, F1, T1⟩ => ?_)
  cases o1 with
  | next =>
    have : fl = .next := ok
    subst this
    exact W.mono (h2 A env P O1 vm1 s₁ ρ1 out ρ' hA F1 h) fun fl s₂ ⟨ok2, O2, vm2, F2, T2⟩ => ⟨ok2, O2, vm2, F2, T1.trans T2⟩
  | ret d =>
    cases h
    obtain ⟨v, rfl, r⟩ := ok
    exact W.pure ⟨⟨v, rfl, r⟩, O1, vm1, F1, T1⟩
theorem ss_freeze {st : List Stmt} {g : Rho → Option (Out × Rho)} {i : Nat} (h1 : SS J st g) : SS J st (frzS i g) := fun A env P O vm s ρ out ρ' hA F h => by
  unfold frzS at h
  split at h
  · rename_i xs hi
    refine W.mono (h1 A env P (off O i) vm s _ out ρ' hA (F.freeze hi) h) fun fl s₁ ⟨ok, O1, vm1, F1, T1⟩ => ⟨ok, O1, vm1, F1, ⟨T1.gens, T1.os, T1.size, fun a o hn e => T1.keep a o (fun m => hn (m.imp (fun ⟨j, hj⟩ => ⟨j, (off_some hj).2⟩) id)) e, fun j a e => (T1.own j a e).imp (fun ⟨k, hk⟩ => ⟨k, (off_some hk).2⟩) id⟩⟩
  · cases h

theorem s1_return {e : PySem.Expr} {pos : Pos} {f : Rho → Option D} (he : SE J e f) : S1 J (.Return (some e) pos) (retS f) := fun A env P O vm s ρ out ρ' hA F h => by
  unfold retS at h
  rw [Option.map_eq_some_iff] at h
  obtain ⟨d, hd, h⟩ := h
  cases h
  rw [exec_Return_some]
  exact W.bind (W.standAt (W.bind (W.mono (he A env P O vm s ρ d hA F hd) fun v s₁ ⟨X, r⟩ => W.pure ⟨⟨v, rfl, r.weak fun a ha => .inl ha⟩, O, vm, F.ext X, X.tr⟩)))

theorem sa_name {x : Str} {pos : Pos} {i : Nat} (ht : J.tab[i]? = some (some x) := by rfl) (hf : J.sc.names.lookup x ≠ some .free := by decide) : SA J (.Name x pos) (nameA i) := fun A env P O vm s ρ d v ρ' hA F r h => by
  cases h
  show W _ _ A (do standAt pos; bindName env x v) _ s
  refine W.bind (W.standAt ?_)
  unfold bindName
  exact W.bind (W.holding (W.point (W.bind (F.store ht (fun e => hf e) r fun s' F' T' => W.point ⟨_, _, F', T'⟩))))

noncomputable def notComp : PySem.Expr → Bool
  | .ListComp .. | .SetComp .. | .DictComp .. => false
  | _ => true
noncomputable def notTup : PySem.Expr → Bool
  | .Tuple .. => false
  | _ => true
noncomputable def notListT : PySem.Expr → Bool
  | .List .. => false
  | _ => true
theorem swaps_false {value : PySem.Expr} {t : Option PySem.Expr} {line : Nat} {env : Env} (h : notComp value = true) : swapsWith value t line env = pure false := by
  cases value <;> first | rfl | cases h

theorem assignEach_cons (env : Env) {t : PySem.Expr} {rest : List PySem.Expr} (h : isStarred t = false) : assignEach (t :: rest) env = (false, assign t env) :: assignEach rest env := by
  cases t <;> first | rfl | (cases h; done)
theorem s1_assign {t value : PySem.Expr} {pos : Pos} {f : Rho → Option D} {g : D → Rho → Option Rho} (ht : SA J t g) (hv : SE J value f) (hc : notComp value = true := by rfl) (hn : (notTup value || notTup t) = true := by rfl)
    (hst : isStarred t = false := by rfl) (hl : notListT t = true := by rfl) : S1 J (.Assign [t] value pos) (setS g f) := fun A env P O vm s ρ out ρ' hA F h => by
  unfold setS at h
  rw [Option.bind_eq_some_iff] at h
  obtain ⟨d, hd, h⟩ := h
  rw [Option.map_eq_some_iff] at h
  obtain ⟨ρ1, hg, h⟩ := h
  cases h
  have hsw : swappedStores [t] value env = pure none := by
    unfold swappedStores
    cases t <;> first | rfl | (cases hl; done) | skip
    all_goals (cases value <;> first | rfl | (cases hn; done))
  have hae : (assignEach [t] env).map (·.2) = [assign t env] := by rw [assignEach_cons env hst]; rfl
  show W _ _ A (do
    standAt pos
    if ← swapsWithSole [t] value pos.line env then do
      evalThenUse value env fun v => assignAll v ((assignEach [t] env).map (·.2))
      pure Flow.next
    else do
      let v ← eval value env
      assignStores env v (← swappedStores [t] value env) ((assignEach [t] env).map (·.2))) _ s
  rw [show swapsWithSole [t] value pos.line env = pure false from swaps_false hc, hsw, hae]
  refine W.bind (W.standAt (W.bind (W.pure ?_)))
  rw [if_neg Bool.false_ne_true]
  refine W.bind (W.mono (hv A env P O vm s ρ d hA F hd) fun v s₁ ⟨X, r⟩ => W.bind (W.pure ?_))
  show W _ _ A (do assignAll v [assign t env]; pure Flow.next) _ s₁
  refine W.bind (W.mono (ht A env P O vm s₁ ρ d v ρ' hA (F.ext X) r hg) fun _ s₂ ⟨O', vm', F', T'⟩ => W.pure ⟨rfl, O', vm', F', X.tr.trans T'⟩)

theorem s1_own {x : Str} {p pos : Pos} {value : PySem.Expr} {i : Nat} {f : Rho → Option (List D)} (hv : SEF J value f) (hc : notComp value = true := by rfl) (ht : J.tab[i]? = some (some x) := by rfl) (hf : J.sc.names.lookup x ≠ some .free := by decide) :
    S1 J (.Assign [.Name x p] value pos) (ownS i f) := fun A env P O vm s ρ out ρ' hA F h => by
  unfold ownS at h
  rw [Option.map_eq_some_iff] at h
  obtain ⟨ds, hds, h⟩ := h
  cases h
  rw [exec_Assign_Name env x p value pos (swaps_false hc)]
  refine W.bind (W.standAt (W.bind (W.mono (hv A env P O vm s ρ ds hA F hds) fun v s₁ ⟨X, a, vs, n, e1, e2, e3, e4, e5⟩ => W.bind (W.standAt ?_))))
  subst e1
  unfold bindName
  exact W.bind (W.bind (W.holding (W.point (W.bind (F.storeOwn X ht (fun e => hf e) e2 e3 e4 e5 fun s' F' T' => W.point (W.pure ⟨rfl, _, _, F', T'⟩))))))

theorem s1_if {t : PySem.Expr} {body orelse : List Stmt} {pos : Pos} {c : Rho → Option Bool} {f g : Rho → Option (Out × Rho)} (ht : ST J t c) (hb : SS J body f) (ho : SS J orelse g) : S1 J (.If t body orelse pos) (ifS c f g) := fun A env P O vm s ρ out ρ' hA F h => by
  unfold ifS at h
  rw [Option.bind_eq_some_iff] at h
  obtain ⟨b, hb', h⟩ := h
  rw [exec_If]
  refine W.bind (W.standAt (W.bind (W.mono (ht A env P O vm s ρ b hA F hb') fun x s₁ ⟨X, e⟩ => ?_)))
  subst e
  cases x with
  | true =>
    simp only [if_true] at h ⊢
    exact W.mono (hb A env P O vm s₁ ρ out ρ' hA (F.ext X) h) fun fl s₂ ⟨ok, O', vm', F', T'⟩ => ⟨ok, O', vm', F', X.tr.trans T'⟩
  | false =>
    simp only [Bool.false_eq_true, if_false] at h ⊢
    exact W.mono (ho A env P O vm s₁ ρ out ρ' hA (F.ext X) h) fun fl s₂ ⟨ok, O', vm', F', T'⟩ => ⟨ok, O', vm', F', X.tr.trans T'⟩

/-- a while, by a number of turns that is enough -/
noncomputable def whileS (t : Rho → Option Bool) (f : Rho → Option (Out × Rho)) : Nat → Rho → Option (Out × Rho)
  | 0, _ => none
  | n + 1, ρ => (t ρ).bind fun b => if b then (f ρ).bind fun x => (match x with | (.next, ρ') => whileS t f n ρ' | (.ret d, ρ') => some (.ret d, ρ')) else some (.next, ρ)
theorem s1_while {t : PySem.Expr} {body : List Stmt} {pos : Pos} {c : Rho → Option Bool} {f : Rho → Option (Out × Rho)} (n : Nat) (ht : ST J t c) (hb : SS J body f) : S1 J (.While t body [] pos) (whileS c f n) := fun A env P O vm s ρ out ρ' hA F h => by
  rw [exec_While]
  refine W.bind (W.standAt (W.runOwn ?_))
  refine C.whileLoop (R := Post J env P O s out ρ') (fun k s₁ => ∃ O₁ vm₁ ρ₁, FrV J.cx J.sc J.tab env P O₁ vm₁ s₁ ρ₁ ∧ Tr env O s O₁ s₁ ∧ whileS c f k ρ₁ = some (out, ρ')) ?_ n ⟨O, vm, ρ, F, Tr.refl _ _ _, h⟩
  rintro k s₁ ⟨O₁, vm₁, ρ₁, F₁, T₁, h₁⟩
  cases k with
  | zero => cases h₁
  | succ k =>
    rw [whileS, Option.bind_eq_some_iff] at h₁
    obtain ⟨b, hb', h₁⟩ := h₁
    refine W.mono (ht A env P O₁ vm₁ s₁ ρ₁ b hA F₁ hb') fun x s₂ ⟨X, e⟩ => ?_
    subst e
    cases x with
    | false =>
      simp only [Bool.false_eq_true, if_false] at h₁ ⊢
      cases h₁
      exact ⟨rfl, O₁, vm₁, F₁.ext X, T₁.trans X.tr⟩
    | true =>
      simp only [if_true] at h₁ ⊢
      rw [Option.bind_eq_some_iff] at h₁
      obtain ⟨⟨o2, ρ2⟩, hf, h₁⟩ := h₁
      refine W.mono (hb A env P O₁ vm₁ s₂ ρ₁ o2 ρ2 hA (F₁.ext X) hf) fun fl s₃ ⟨ok, O3, vm3, F3, T3⟩ => ?_
      cases o2 with
      | next =>
        have : fl = .next := ok
        subst this
        exact ⟨k, Nat.lt_succ_self _, O3, vm3, ρ2, F3, T₁.trans (X.tr.trans T3), h₁⟩
      | ret d =>
        cases h₁
        obtain ⟨v, rfl, r⟩ := ok
        exact ⟨⟨v, rfl, r⟩, O3, vm3, F3, T₁.trans (X.tr.trans T3)⟩
end
end Mine

end
section
open PySem PySem.W PySem.Calls PyProof.Rows
set_option Elab.async false
set_option maxRecDepth 100000
namespace Mine

theorem FrV.rdAllTr {cx : Cx} {sc : Scope} {tab : List (Option Str)} {env : Env} {P : Avd} {O O' : Nat → Option Addr} {vm : Str → Option Value} {s s' : Shared} {ρ : List Slot} (F : FrV cx sc tab env P O vm s ρ) (x : Tr env O s O' s') {d : List D} {v : List Value} (r : RdAll cx s.heap (Av env P O) d v) : RdAll cx s'.heap (Av env P O') d v :=
  RdAll.of_get r.length fun i d' v' e1 e2 => by
    obtain ⟨v'', e, q⟩ := r.get e1
    rw [e] at e2; cases e2
    exact F.rdTr x q

/-! targets of several names -/
inductive TN (J : Jd) : List PySem.Expr → List Nat → Prop
  | nil : TN J [] []
  | cons {x : Str} {p : Pos} {i : Nat} {es : List PySem.Expr} {is : List Nat} (ht : J.tab[i]? = some (some x)) (hf : J.sc.names.lookup x ≠ some .free) (h : TN J es is) : TN J (.Name x p :: es) (i :: is)
theorem TN.length {J : Jd} {es : List PySem.Expr} {is : List Nat} (h : TN J es is) : es.length = is.length := by
  induction h with
  | nil => rfl
  | cons _ _ _ ih => simp [ih]
section
variable {J : Jd}
end

/-! methods of built-in types -/
noncomputable def GetOk (name : Str) (id : String) (p : D → Bool) : Prop :=
  ∀ (cx : Cx) (A : Around) (V : Avd) (s : Shared) (d : D) (v : Value) (pl : Sem Bool) (Q : Value × List Value → Shared → Prop), p d = true → Rd cx s.heap V d v → Q (.builtin id, [v]) s → wpAny (model cx.prog cx.w) A (getMethod v name pl) Q (fun _ _ => False) s
noncomputable def isStrD : D → Bool | .str _ => true | _ => false
noncomputable def methE (p : D → Bool) (F : List D → Option D) (f : Rho → Option D) (g : Rho → Option (List D)) : Rho → Option D := fun ρ => (f ρ).bind fun a => (g ρ).bind fun as => if p a then F (a :: as) else none
theorem get_str {name : Str} {id : String} (slot : PySem.Slot "str" name id) (ty : typeOf (.builtin id) = pure (.type "method_descriptor")) : GetOk name id isStrD := fun cx A V s d v pl Q hp r h => by
  unfold isStrD at hp
  split at hp
  · rw [Rd] at r; obtain ⟨t, rfl, _⟩ := r
    exact GM.of _ (typeIs_str _ _ _) slot ty (fun _ e => nomatch e) h
  · cases hp

noncomputable def notSuperCall : PySem.Expr → Bool
  | .Call (.Name _ _) [] [] _ => false
  | _ => true
theorem attributeBase_plain {o : PySem.Expr} {name : Str} {env : Env} {whole : Sem Value} (h : notSuperCall o = true) : attributeBase o name env whole = whole := by
  unfold attributeBase
  split
  · cases h
  · rfl
section
variable {J : Jd}
theorem method_split {o : PySem.Expr} {name : Str} {apos pos : Pos} {es : List PySem.Expr} {env : Env} (ho : notSuperCall o = true) (hst : es.any isStarred = false) (hlen : es.length < 29) (hp : apos.endLine = pos.line) :
    eval (.Call (.Attribute o name apos) es [] pos) env = (do
      let ov ← eval o env
      standAt apos.atName
      let r ← holding [ov] (getMethod ov name (do return (← importBound o env).getD true))
      callWith pos r.1 r.2 (backTo pos (starEach es env)) []) := by
  have hb := backTo_plain pos env hst
  have hall : (backTo pos (starEach es env)).all (!·.1) = true := by
    have := hb.1
    rw [List.any_eq_false] at this
    rw [List.all_eq_true]
    intro x hx
    have := this x hx
    simpa using this
  have hf : methodCallForm (es.length + 0) (backTo pos (starEach es env)) [] = true := by
    unfold methodCallForm
    rw [hall]
    simp; omega
  have e1 : eval (.Call (.Attribute o name apos) es [] pos) env = (do
      let ov ← attributeBase o name env (eval o env)
      standAt apos.atName
      methodCall o name apos pos env ov (es.length + 0) (backTo pos (starEach es env)) []) := rfl
  rw [e1, attributeBase_plain ho]
  unfold methodCall
  simp only [hf, calleeOf, if_true, methodCallPos, Bool.not_true, Bool.false_or, hp, beq_self_eq_true, pure_bind]

theorem se_method {o : PySem.Expr} {name : Str} {id : String} {apos pos : Pos} {es : List PySem.Expr} {f : Rho → Option D} {g : Rho → Option (List D)} {p : D → Bool} {F : List D → Option D} {k : Nat} (hg : GetOk name id p) (hc : Con J.cx k (.builtin id) F) (ho : SE J o f) (hes : SEs J es g)
    (hk : k ≤ J.k := by decide) (hs : notSuperCall o = true := by rfl) (hst : es.any isStarred = false := by rfl) (hlen : es.length < 29 := by decide) (hp : apos.endLine = pos.line := by rfl) :
    SE J (.Call (.Attribute o name apos) es [] pos) (methE p F f g) := fun A env P O vm s ρ d hA Fr h => by
  unfold methE at h
  rw [Option.bind_eq_some_iff] at h
  obtain ⟨a, ha, h⟩ := h
  rw [Option.bind_eq_some_iff] at h
  obtain ⟨as, has, h⟩ := h
  split at h
  · rename_i hpa
    rw [method_split hs hst hlen hp]
    refine W.bind (W.mono (ho A env P O vm s ρ a hA Fr ha) fun v s₁ ⟨X1, r1⟩ => W.bind (W.standAt (W.bind (W.holding (W.of_any (hg J.cx A (Av env P O) s₁ a v _ _ hpa r1 ?_))))))
    have hb := backTo_plain pos env hst
    refine callWith_ok hb.1 (by rw [hb.2]; omega) (W.mono (hes A env P O vm s₁ ρ as pos hA (Fr.ext X1) has) fun vs s₂ ⟨X2, r2⟩ => ⟨.inr (by intro a e; cases e), ?_⟩)
    have X := X1.trans X2
    exact W.mono (hc A (Av env P O) s₂ (a :: as) (v :: vs) d (hA.le hk) (fun q hq => (Fr.ext X).avLt hq) (Fr.ext X).baseOf (RdAll.cons (r1.keep X2.keep) r2) h) fun v s₃ ⟨X3, r3⟩ => ⟨X.trans X3, r3⟩
  · cases h
end

/-! a def's own call -/
noncomputable def runF (n m : Nat) (g : Rho → Option (Out × Rho)) : List D → Option D := fun ds =>
  if ds.length = n then (g (ds.map .val ++ List.replicate m .unb)).map fun x => match x.1 with | .next => .none | .ret d => d else none

theorem bindL_get (kindOf : Str → Option NameKind) : ∀ (binds : List (Str × Value)) (m : Str → Option Value) (x : Str), kindOf x = some .local → bindL kindOf binds m x = (binds.reverse.lookup x).or (m x)
  | [], m, x, _ => by simp [bindL]
  | (n, v) :: r, m, x, hx => by
    rw [bindL, bindL_get kindOf r _ x hx, List.reverse_cons, List.lookup_append, Option.or_assoc]
    congr 1
    by_cases hn : x = n
    · subst hn; simp [hx, List.lookup_cons]
    · have hb : (x == n) = false := by simpa using hn
      split <;> simp [List.lookup_cons, hb, hn]
theorem bindC_get (kindOf : Str → Option NameKind) : ∀ (binds : List (Str × Value)) (m : Str → Option Value) (x : Str), kindOf x ≠ some .local → bindC kindOf binds m x = (binds.reverse.lookup x).or (m x)
  | [], m, x, _ => by simp [bindC]
  | (n, v) :: r, m, x, hx => by
    rw [bindC, bindC_get kindOf r _ x hx, List.reverse_cons, List.lookup_append, Option.or_assoc]
    congr 1
    by_cases hn : x = n
    · subst hn; simp [hx, List.lookup_cons]
    · have hb : (x == n) = false := by simpa using hn
      split <;> simp [List.lookup_cons, hb, hn]

theorem lookup_zip_rev {xs : List Str} {vs : List Value} (hn : xs.Nodup) (hl : vs.length = xs.length) {i : Nat} {x : Str} {v : Value} (hx : xs[i]? = some x) (hv : vs[i]? = some v) : ((xs.zip vs).reverse.lookup x) = some v := by
  induction xs generalizing vs i with
  | nil => simp at hx
  | cons y ys ih =>
    cases vs with
    | nil => simp at hl
    | cons u us =>
      rw [List.nodup_cons] at hn
      rw [List.zip_cons_cons, List.reverse_cons, List.lookup_append]
      cases i with
      | zero =>
        simp at hx hv
        subst hx hv
        have : (ys.zip us).reverse.lookup y = none := by
          rw [List.lookup_eq_none_iff]
          intro p hp
          rw [List.mem_reverse] at hp
          have := (List.of_mem_zip hp).1
          simpa using fun e : y = p.1 => hn.1 (e ▸ this)
        rw [this]; simp [List.lookup_cons]
      | succ i =>
        simp at hx hv
        rw [ih hn.2 (by simpa using hl) hx hv]; rfl

theorem C.call_function {prog : Program} {w : World} {A : Around} {s : Shared} {a : Addr} {args : Args} {o : Obj} {fd : FuncData} {body : List Stmt} {R : Flow → Shared → Prop} (hroom : A.depth < recursionLimit)
    (ho : s.heap.get? a = some o) (hd' : o.data = .func fd) (hco : fd.scope.isCoroutine = false) (hgen : fd.scope.isGenerator = false) (hbody : fd.body = .stmts body) (hcd : s.heap.CodeRec fd.code fd.qualname)
    (h : wpAny (model prog w) A.in1 (bindArgs fd args) (fun binds s₁ => wpAny (model prog w) A.in1 (newFunctionEnv fd.scope fd.globals fd.closure binds (fd.qualname ++ ".<locals>.") (some a) fd.code none fd.builtins)
        (fun env s₂ => s₂.heap.NoLimit ∧ C prog w A (.func body env) R s₂) (fun _ _ => False) s₁) (fun _ _ => False) s) : C prog w A (.call (.ref a) args) R s := by
  refine C.of_tree rfl rfl (W.of_any ?_)
  show wpAny _ A.in1 (callAny (.ref a) args) _ _ s
  simp only [callAny]
  refine wpAny_bind (wpAny_load ho ?_)
  obtain ⟨c, oc, vs, tq, hc, hoc, hdc, hq⟩ := hcd
  simp only [hd', callFunction, hco, hgen, hbody, hc]
  rw [hc] at h
  refine wpAny_bind (m := field (.ref c) 1) (wpAny_field hoc hdc hq (wpAny_bind (wpAny_pure ?_)))
  exact wpAny_bind (wpAny_mono h (fun binds s₁ h₁ => wpAny_bind (wpAny_mono h₁ (fun env s₂ h₂ => wpAny_bind (wpAny_enterFrame h₂.1 hroom
    (wpAny_pure (And.intro rfl h₂.2)))) fun _ _ h' => h')) fun _ _ h' => h')

theorem cellsFrom_mem : ∀ (names : List (Str × NameKind)) (n : Nat) (acc : List (Str × Addr)) (x : Str) (c : Addr), (x, c) ∈ cellsFrom n names acc → (x, c) ∈ acc ∨ (x, NameKind.cell) ∈ names
  | [], _, _, _, _, h => .inl h
  | (y, kd) :: r, n, acc, x, c, h => by
    unfold cellsFrom at h
    split at h
    · rename_i hk
      have hk' : kd = .cell := by simpa using hk
      rcases cellsFrom_mem r _ _ x c h with h | h
      · rcases List.mem_cons.mp h with e | h
        · cases e; subst hk'; exact .inr (List.mem_cons_self)
        · exact .inl h
      · exact .inr (List.mem_cons_of_mem _ h)
    · rcases cellsFrom_mem r _ _ x c h with h | h
      · exact .inl h
      · exact .inr (List.mem_cons_of_mem _ h)
theorem cellsFrom_acc : ∀ (names : List (Str × NameKind)) (n : Nat) (acc : List (Str × Addr)) (x : Str), (acc.lookup x).isSome = true → ((cellsFrom n names acc).lookup x).isSome = true
  | [], _, _, _, h => h
  | (y, kd) :: r, n, acc, x, h => by
    unfold cellsFrom
    split
    · refine cellsFrom_acc r _ _ x ?_
      rw [List.lookup_cons]
      split
      · rfl
      · exact h
    · exact cellsFrom_acc r _ _ x h
theorem cellsFrom_has : ∀ (names : List (Str × NameKind)) (n : Nat) (acc : List (Str × Addr)) (x : Str), (x, NameKind.cell) ∈ names → ((cellsFrom n names acc).lookup x).isSome = true
  | (y, kd) :: r, n, acc, x, h => by
    unfold cellsFrom
    rcases List.mem_cons.mp h with e | h
    · cases e
      rw [if_pos (by rfl)]
      exact cellsFrom_acc r _ _ y (by simp)
    · split
      · exact cellsFrom_has r _ _ x h
      · exact cellsFrom_has r _ _ x h
theorem lookup_of_mem {names : List (Str × NameKind)} (hn : (names.map (·.1)).Nodup) {x : Str} {kd : NameKind} (h : (x, kd) ∈ names) : names.lookup x = some kd := by
  induction names with
  | nil => cases h
  | cons p r ih =>
    obtain ⟨y, kd'⟩ := p
    rw [List.map_cons, List.nodup_cons] at hn
    rw [List.lookup_cons]
    rcases List.mem_cons.mp h with e | h
    · cases e; simp
    · have : x ≠ y := fun e => hn.1 (e ▸ List.mem_map.mpr ⟨_, h, rfl⟩)
      have hb : (x == y) = false := by simpa using this
      rw [hb]; exact ih hn.2 h

theorem con_def {cx : Cx} {k : Nat} {a : Addr} {o : Obj} {name : Str} {params : Arguments} {body : List Stmt} {scope : Scope} {pm cd doc : Value} {xs rest : List Str} {g : Rho → Option (Out × Rho)}
    (ho : cx.h₁.get? a = some o) (hd : o.data = .func (docDef name params body scope pm cd doc)) (hcd : cx.h₁.CodeRec cd name)
    (hbody : SS ⟨cx, scope, (xs ++ rest).map some, k⟩ body g)
    (hbind : ∀ vs : List Value, vs.length = xs.length → bindArgs (docDef name params body scope pm cd doc) ⟨vs, []⟩ = pure (xs.zip vs))
    (hnd : decide (xs ++ rest).Nodup = true := by decide) (hnames : decide (scope.names.map (·.1)).Nodup = true := by decide)
    (hknown : ((xs ++ rest).all fun x => scope.names.lookup x == some .local || scope.names.lookup x == some .cell) = true := by decide)
    (hco : scope.isCoroutine = false := by rfl) (hgen : scope.isGenerator = false := by rfl) (hk : scope.kind = .function := by rfl) : Con cx (k + 1) (.ref a) (runF xs.length rest.length g) := fun A V s ds vs r hA hV hbase' ra h => by
  have hbase := hbase'.2
  unfold runF at h
  split at h
  · rename_i hlen
    have hnd := of_decide_eq_true hnd
    have hnames := of_decide_eq_true hnames
    have hkn : ∀ x ∈ xs ++ rest, scope.names.lookup x = some .local ∨ scope.names.lookup x = some .cell := fun x hx => by
      have := List.all_eq_true.mp hknown x hx
      simpa using this
    have hlv : vs.length = xs.length := by rw [ra.length, hlen]
    rw [Option.map_eq_some_iff] at h
    obtain ⟨⟨out, ρ'⟩, hg, h⟩ := h
    refine W.call (C.call_function (by have := hA.2.1; omega) (hbase a o ho) hd hco hgen rfl (hcd.keeps hbase) ?_)
    rw [hbind vs hlv]
    have hmem : ∀ x, scope.names.lookup x = some .cell → (x, NameKind.cell) ∈ scope.names := fun x hx => mem_of_lookup hx
    refine wpAny_pure (wpAny_newFunctionEnv_cells hk (fun x hx => ?_) fun env he s' x => ?_)
    · have hx' : x.1 ∈ xs := (List.of_mem_zip hx).1
      rcases hkn x.1 (List.mem_append_left _ hx') with h1 | h1
      · exact .inl h1
      · exact .inr ⟨h1, cellsFrom_has _ _ _ _ (hmem _ h1)⟩
    refine ⟨(cx.lim.keeps hbase).keeps x.toInCall.keep, C.func ?_⟩
    obtain ⟨hh, tk, hs'⟩ := x.toInCall.same
    have hkeep := x.toInCall.keep
    have hEs : env.scope = scope := by rw [he]; rfl
    have hEl : env.locals = s.heap.objs.size := by rw [he]; rfl
    have hEc : env.cells = cellsFrom (s.heap.objs.size + 1) scope.names [] := by rw [he]; rfl
    have hEg : env.globals = mainGlobals := by rw [he]; rfl
    have hEb : env.builtins = builtinsNs := by rw [he]; rfl
    have hsz : s.heap.objs.size ≤ s'.heap.objs.size := by
      have h0 := x.toInCall.ns.lt
      rw [hEl] at h0; exact Nat.le_of_lt h0
    have X : Ext s s' := ⟨by rw [hs'], by rw [hs'], hsz, hkeep⟩
    have hkind : ∀ y, env.kindOf y = scope.names.lookup y := fun y => by show env.scope.names.lookup y = _; rw [hEs]
    have hge1 : cx.h₁.objs.size ≤ s.heap.objs.size := hbase'.1
    let vm : Str → Option Value := fun y => if scope.names.lookup y = some .local then bindL env.kindOf (xs.zip vs) (fun _ => none) y else bindC env.kindOf (xs.zip vs) (fun _ => none) y
    have hvm : ∀ y, vm y = (xs.zip vs).reverse.lookup y := fun y => by
      show (if scope.names.lookup y = some .local then _ else _) = _
      split
      · rename_i hy; rw [bindL_get _ _ _ _ (by rw [hkind]; exact hy)]; simp
      · rename_i hy; rw [bindC_get _ _ _ _ (by rw [hkind]; exact hy)]; simp
    have F : FrV cx scope ((xs ++ rest).map some) env V (fun _ => none) vm s' (ds.map .val ++ List.replicate rest.length .unb) := {
      scope := hEs, kind := hk, glob := hEg, blt := hEb
      base := fun b o' e => hkeep b o' (hbase b o' e)
      ns := ⟨_, x.toInCall.ns, fun y hy => by show _ = (if scope.names.lookup y = some .local then _ else _); rw [if_pos hy]⟩
      cell := fun y c hc => by
        have := x.cell y c hc
        have hy : scope.names.lookup y ≠ some .local := by
          have hm := mem_of_lookup hc
          rw [hEc] at hm
          rcases cellsFrom_mem _ _ _ _ _ hm with h' | h'
          · cases h'
          · rw [lookup_of_mem hnames h']; intro e; cases e
        show s'.heap.IsCell c (if scope.names.lookup y = some .local then _ else _)
        rw [if_neg hy]; exact this
      apart := x.apart
      fresh := fun b hb => by
        rcases hb with ⟨j, hj⟩ | hb | ⟨y, hy⟩
        · cases hj
        · subst hb; exact ⟨by rw [hEl]; exact hge1, x.toInCall.ns.lt⟩
        · have h0 := x.above y b (mem_of_lookup hy)
          exact ⟨by rw [hEl] at h0; exact Nat.le_trans hge1 (Nat.le_of_lt h0), (x.cell y b hy).lt⟩
      nsCell := fun y hy => Nat.lt_irrefl _ (x.above y _ (mem_of_lookup hy))
      av := fun b hb => Nat.lt_of_lt_of_le (hV b hb) hsz
      len := by simp [hlen]
      tabInj := fun i j y h1 h2 => by
        rw [List.getElem?_map, Option.map_eq_some_iff] at h1 h2
        obtain ⟨y1, h1, e1⟩ := h1
        obtain ⟨y2, h2, e2⟩ := h2
        cases e1; cases e2
        have hi : i < (xs ++ rest).length := by
          rcases Nat.lt_or_ge i (xs ++ rest).length with h' | h'
          · exact h'
          · rw [List.getElem?_eq_none h'] at h1; cases h1
        exact (List.getElem?_inj hi hnd).mp (h1.trans h2.symm)
      cellNL := fun y c hc => by
        have hm := mem_of_lookup hc
        rw [hEc] at hm
        rcases cellsFrom_mem _ _ _ _ _ hm with h' | h'
        · cases h'
        · rw [lookup_of_mem hnames h']; intro e; cases e
      known := fun i y h1 => by
        rw [List.getElem?_map, Option.map_eq_some_iff] at h1
        obtain ⟨y1, h1, e1⟩ := h1
        cases e1
        rcases hkn y (List.mem_of_getElem? h1) with h' | h'
        · exact .inl h'
        · exact .inr ⟨.inl h', by rw [hEc]; exact cellsFrom_has _ _ _ _ (hmem _ h')⟩
      slots := fun i y sl h1 h2 => by
        rw [List.getElem?_map, Option.map_eq_some_iff] at h1
        obtain ⟨y1, h1, e1⟩ := h1
        cases e1
        rcases Nat.lt_or_ge i xs.length with hi | hi
        · rw [List.getElem?_append_left hi] at h1
          rw [List.getElem?_append_left (by simpa [hlen] using hi), List.getElem?_map, Option.map_eq_some_iff] at h2
          obtain ⟨d', h2, e2⟩ := h2
          subst e2
          obtain ⟨v', hv', q⟩ := ra.get h2
          refine ⟨v', by rw [hvm]; exact lookup_zip_rev (List.nodup_append.mp hnd).1 hlv h1 hv', ?_⟩
          refine q.mono (fun b o' _ e => hkeep b o' e) fun b hb => ?_
          rcases hb with hb | ⟨j, hj⟩ | hb | ⟨z, hz⟩
          · exact .inl hb
          · cases hj
          · exact .inr (get_none (by rw [hb, hEl]; exact Nat.le_refl _))
          · exact .inr (get_none (by have h0 := x.above z b (mem_of_lookup hz); rw [hEl] at h0; exact Nat.le_of_lt h0))
        · rw [List.getElem?_append_right (by simpa [hlen] using hi)] at h2
          have := List.mem_of_getElem? h2
          rw [List.mem_replicate] at this
          rw [this.2]; trivial
      ownInj := fun i j b h1 _ => by cases h1
      ownSlot := fun i b h1 => by cases h1
      ownApart := fun i b h1 => by cases h1
      ownNP := fun i b h1 => by cases h1 }
    have hA' : Room (A.deeper env) k := ⟨hA.1, by show A.depth + 1 + k < _; have := hA.2.1; omega, by show A.units + 3 + 8 * k + 200 < _; have := hA.2.2; omega⟩
    refine W.mono (hbody (A.deeper env) env V (fun _ => none) vm s' _ out ρ' hA' F hg) fun fl s₂ ⟨ok, O2, vm2, F2, T2⟩ => ?_
    have X2 : Ext s s₂ := ⟨T2.gens.trans X.gens, T2.os.trans X.os, Nat.le_trans X.size T2.size, fun b o' e => T2.keep b o' (fun hm => by
      have hb := Heap.lt_size e
      rcases hm with ⟨j, hj⟩ | hm | ⟨z, hz⟩
      · cases hj
      · rw [hm, hEl] at hb; exact Nat.lt_irrefl _ hb
      · have h0 := x.above z b (mem_of_lookup hz); rw [hEl] at h0; exact Nat.lt_irrefl _ (Nat.lt_trans hb h0)) (hkeep b o' e)⟩
    cases out with
    | next =>
      have : fl = .next := ok
      subst this
      cases h
      exact ⟨_, rfl, X2, by rw [Rd]⟩
    | ret d =>
      obtain ⟨v, rfl, q⟩ := ok
      cases h
      exact ⟨v, rfl, X2, q⟩
  · cases h
end Mine

end
section
open PySem PySem.W PySem.Calls PyProof.Rows
set_option Elab.async false
set_option maxRecDepth 100000
namespace Mine

/-- of what stood only the objects of wr are changed -/
structure Chg (wr : List Addr) (s s' : Shared) : Prop where
  gens : s'.gens = s.gens
  os : s'.os = s.os
  size : s.heap.objs.size ≤ s'.heap.objs.size
  keep : ∀ a o, a ∉ wr → s.heap.get? a = some o → s'.heap.get? a = some o
theorem Chg.trans {wr : List Addr} {a b c : Shared} (x : Chg wr a b) (y : Chg wr b c) : Chg wr a c := ⟨y.gens.trans x.gens, y.os.trans x.os, Nat.le_trans x.size y.size, fun p o hn e => y.keep p o hn (x.keep p o hn e)⟩
theorem Ext.chg {wr : List Addr} {s s' : Shared} (x : Ext s s') : Chg wr s s' := ⟨x.gens, x.os, x.size, fun a o _ e => x.keep a o e⟩

theorem FrV.chg {cx : Cx} {sc : Scope} {tab : List (Option Str)} {env : Env} {P : Avd} {O : Nat → Option Addr} {vm : Str → Option Value} {s s' : Shared} {ρ : List Slot} {wr : List Addr} (F : FrV cx sc tab env P O vm s ρ) (x : Chg wr s s')
    (hP : ∀ b ∈ wr, P b) (hb : ∀ b ∈ wr, cx.h₁.objs.size ≤ b) (hm : ∀ b ∈ wr, ¬ muts env O b) : FrV cx sc tab env P O vm s' ρ := by
  have hk : ∀ a o, ¬ Av env P O a → s.heap.get? a = some o → s'.heap.get? a = some o := fun a o hn e => x.keep a o (fun hw => hn (.inl (hP a hw))) e
  exact {
    scope := F.scope, kind := F.kind, glob := F.glob, blt := F.blt
    base := fun a o e => x.keep a o (fun hw => Nat.lt_irrefl _ (Nat.lt_of_lt_of_le (Heap.lt_size e) (hb a hw))) (F.base a o e)
    ns := let ⟨m, h1, h2⟩ := F.ns; ⟨m, h1.at' fun o e => x.keep _ o (fun hw => hm _ hw (.inr (.inl rfl))) e, h2⟩
    cell := fun y c e => let ⟨o, h1, h2⟩ := F.cell y c e; ⟨o, x.keep c o (fun hw => hm _ hw (.inr (.inr ⟨y, e⟩))) h1, h2⟩
    apart := F.apart
    fresh := fun a m => ⟨(F.fresh a m).1, Nat.lt_of_lt_of_le (F.fresh a m).2 x.size⟩
    nsCell := F.nsCell
    av := fun a h => Nat.lt_of_lt_of_le (F.av a h) x.size
    len := F.len, tabInj := F.tabInj, cellNL := F.cellNL, known := F.known
    slots := fun i y sl h1 h2 => slot_tr (F.slots i y sl h1 h2) hk (fun _ h => .inl h) rfl fun a o e e' => x.keep a o (fun hw => hm a hw (.inl ⟨i, e⟩)) e'
    ownInj := F.ownInj, ownSlot := F.ownSlot, ownApart := F.ownApart, ownNP := F.ownNP }

/-- an iterator that will give these data, one after the other; wr: what its steps change; N: the heap's size where it was made; U: what others may change -/
structure Wk (cx : Cx) (A : Around) (tgt : PySem.Expr) (I : Addr) (wr : List Addr) (N : Nat) (ds : List D) (U : Avd) (St : Nat → Heap → Prop) : Prop where
  frame : ∀ i h h', St i h → (∀ a o, ¬ U a → a < N → h.get? a = some o → h'.get? a = some o) → St i h'
  item : ∀ (i : Nat) (d : D) (s : Shared) (V : Avd) (Q : Value → Shared → Prop), ds[i]? = some d → St i s.heap → Base cx s.heap → (∀ a, V a → (U a ∨ a ∈ wr ∨ N ≤ a) ∧ a < s.heap.objs.size) →
    (∀ v s', Chg wr s s' → Rd cx s'.heap V d v → St (i + 1) s'.heap → Q v s') →
    W cx.prog cx.w A (pyNext (.ref I)) (fun r s₁ => ∃ v, r = some v ∧ W cx.prog cx.w A (letOwnedTupleGo tgt (.ref I) v) (fun _ s₂ => Q v s₂) s₁) s
  done : ∀ (s : Shared) (Q : Shared → Prop), St ds.length s.heap → Base cx s.heap → (∀ s', Chg wr s s' → Q s') → W cx.prog cx.w A (pyNext (.ref I)) (fun r s' => r = none ∧ Q s') s
  self : ∀ (i : Nat) (s : Shared), St i s.heap → W cx.prog cx.w A (pyIter (.ref I)) (fun v s' => v = .ref I ∧ s' = s) s

/-- the expression, iterated -/
def SI (J : Jd) (tgt e : PySem.Expr) (f : Rho → Option (List D)) : Prop :=
  ∀ (A : Around) (env : Env) (P : Avd) (O : Nat → Option Addr) (vm : Str → Option Value) (s : Shared) (ρ : Rho) (ds : List D), Room A J.k → FrV J.cx J.sc J.tab env P O vm s ρ → f ρ = some ds →
    W J.cx.prog J.cx.w A (eval e env) (fun x s₁ => foldedSetIterable e env x = pure x ∧ W J.cx.prog J.cx.w A (pyIter x) (fun it s₂ => Ext s s₂ ∧ ds.length ≤ sizeLine ∧ ∃ I wr St, it = .ref I ∧
      Wk J.cx A tgt I wr s₂.heap.objs.size ds (Av env P O) St ∧ St 0 s₂.heap ∧ (∀ b ∈ wr, s.heap.objs.size ≤ b ∧ b < s₂.heap.objs.size)) s₁) s

noncomputable def loopS (g : D → Rho → Option Rho) (b : Rho → Option (Out × Rho)) : List D → Rho → Option (Out × Rho)
  | [], ρ => some (.next, ρ)
  | d :: ds, ρ => (g d ρ).bind fun ρ1 => (b ρ1).bind fun x => match x with | (.next, ρ2) => loopS g b ds ρ2 | (.ret r, ρ2) => some (.ret r, ρ2)
noncomputable def forS (f : Rho → Option (List D)) (g : D → Rho → Option Rho) (b : Rho → Option (Out × Rho)) : Rho → Option (Out × Rho) := fun ρ => (f ρ).bind fun ds => loopS g b ds ρ

section
variable {J : Jd}
theorem s1_for {tgt iter : PySem.Expr} {body : List Stmt} {pos : Pos} {f : Rho → Option (List D)} {g : D → Rho → Option Rho} {b : Rho → Option (Out × Rho)} (hi : SI J tgt iter f) (ht : SA J tgt g) (hb : SS J body b) : S1 J (.For tgt iter body [] pos) (forS f g b) := fun A env P O vm s ρ out ρ' hA F h => by
  unfold forS at h
  rw [Option.bind_eq_some_iff] at h
  obtain ⟨ds, hds, h⟩ := h
  show W _ _ A (do
    standAt pos
    let x ← foldedSetIterable iter env (← eval iter env)
    standAt iter.pos
    runOwn (.forLoop tgt (← holding [x] (pyIter x)) body [] env) env) _ s
  refine W.bind (W.standAt (W.bind (W.mono (hi A env P O vm s ρ ds hA F hds) fun x s₁ ⟨hfold, h₁⟩ => ?_)))
  rw [hfold]
  refine W.bind (W.pure (W.bind (W.standAt (W.bind (W.holding (W.mono h₁ fun it s₂ ⟨X, _, I, wr, St, e, wk, st0, hwr'⟩ => ?_))))))
  subst e
  refine W.runOwn ?_
  have hwr : ∀ b ∈ wr, s.heap.objs.size ≤ b := fun b hb => (hwr' b hb).1
  have hwr2 : ∀ b ∈ wr, b < s₂.heap.objs.size := fun b hb => (hwr' b hb).2
  have hbase : J.cx.h₁.objs.size ≤ s.heap.objs.size := F.baseOf.1
  have F2 : FrV J.cx J.sc J.tab env (fun b => P b ∨ b ∈ wr) O vm s₂ ρ := F.moreP X fun a ha => ha.imp id fun hw => ⟨hwr a hw, hwr2 a hw⟩
  -- what stays of the start through all turns
  refine C.forLoop (R := Post J env P O s out ρ') (fun k s₃ => ∃ O₁ vm₁ ρ₁ i, FrV J.cx J.sc J.tab env (fun b => P b ∨ b ∈ wr) O₁ vm₁ s₃ ρ₁ ∧ Tr env O s O₁ s₃ ∧ s₂.heap.objs.size ≤ s₃.heap.objs.size ∧
      (∀ j a, O₁ j = some a → (∃ l, O l = some a) ∨ s₂.heap.objs.size ≤ a) ∧ St i s₃.heap ∧ i ≤ ds.length ∧ k = ds.length - i ∧ loopS g b (ds.drop i) ρ₁ = some (out, ρ')) ?_ ds.length
    ⟨O, vm, ρ, 0, F2, X.tr, Nat.le_refl _, fun j a e => .inl ⟨j, e⟩, st0, Nat.zero_le _, rfl, h⟩
  rintro k s₃ ⟨O₁, vm₁, ρ₁, i, F₁, T₁, hsz, hown, st, hle, rfl, h₃⟩
  have hnm : ∀ b ∈ wr, ¬ muts env O₁ b := fun b hb hm => by
    rcases hm with ⟨j, hj⟩ | hm
    · rcases hown j b hj with ⟨l, hl⟩ | hge
      · exact Nat.lt_irrefl _ (Nat.lt_of_lt_of_le (F.fresh b (.inl ⟨l, hl⟩)).2 (hwr b hb))
      · exact Nat.lt_irrefl _ (Nat.lt_of_lt_of_le (hwr2 b hb) hge)
    · exact Nat.lt_irrefl _ (Nat.lt_of_lt_of_le (F.fresh b (.inr hm)).2 (hwr b hb))
  have hb1 : ∀ b ∈ wr, J.cx.h₁.objs.size ≤ b := fun b hb => Nat.le_trans hbase (hwr b hb)
  have hnfp : ∀ b, ¬ Av env P O b → b < s₂.heap.objs.size → ¬ muts env O₁ b := fun b hn hlt hm => by
    rcases hm with ⟨j, hj⟩ | hm
    · rcases hown j b hj with ⟨l, hl⟩ | hge
      · exact hn (.inr (.inl ⟨l, hl⟩))
      · exact Nat.lt_irrefl _ (Nat.lt_of_lt_of_le hlt hge)
    · exact hn (.inr (.inr hm))
  have chgTr : ∀ s₄, Chg wr s₃ s₄ → Tr env O s O₁ s₄ := fun s₄ x => ⟨x.gens.trans T₁.gens, x.os.trans T₁.os, Nat.le_trans T₁.size x.size, fun a o hn e => x.keep a o (fun hw => Nat.lt_irrefl _ (Nat.lt_of_lt_of_le (Heap.lt_size e) (hwr a hw))) (T₁.keep a o hn e), T₁.own⟩
  rcases Nat.lt_or_ge i ds.length with hlt | hge
  · have hd : ds[i]? = some ds[i] := List.getElem?_eq_getElem hlt
    have hdrop : ds.drop i = ds[i] :: ds.drop (i + 1) := List.drop_eq_getElem_cons hlt
    rw [hdrop, loopS, Option.bind_eq_some_iff] at h₃
    obtain ⟨ρ4, hg4, h₃⟩ := h₃
    rw [Option.bind_eq_some_iff] at h₃
    obtain ⟨⟨o5, ρ5⟩, hb5, h₃⟩ := h₃
    refine W.mono (wk.item i ds[i] s₃ (Av env (fun b => P b ∨ b ∈ wr) O₁) (fun v s₄ => W J.cx.prog J.cx.w A (assign tgt env v) _ s₄) hd st F₁.baseOf (fun a ha => ⟨?_, F₁.avLt ha⟩) fun v s₄ x r st' => ?_) fun r s₄ hr => by obtain ⟨v, e, h₄⟩ := hr; subst e; exact h₄
    · rcases ha with (ha | ha) | ⟨j, hj⟩ | ha
      · exact .inl (.inl ha)
      · exact .inr (.inl ha)
      · rcases hown j a hj with ⟨l, hl⟩ | hge
        · exact .inl (.inr (.inl ⟨l, hl⟩))
        · exact .inr (.inr hge)
      · exact .inl (.inr (.inr ha))
    have F4 := F₁.chg x (fun b hb => .inr hb) hb1 hnm
    refine W.mono (ht A env _ O₁ vm₁ s₄ ρ₁ ds[i] v ρ4 hA F4 r hg4) fun _ s₅ ⟨O5, vm5, F5, T5⟩ => ?_
    refine W.mono (hb A env _ O5 vm5 s₅ ρ4 o5 ρ5 hA F5 hb5) fun fl s₆ ⟨ok, O6, vm6, F6, T6⟩ => ?_
    have T56 := T5.trans T6
    have T := (chgTr s₄ x).trans T56
    cases o5 with
    | next =>
      have : fl = .next := ok
      subst this
      refine ⟨ds.length - (i + 1), by omega, O6, vm6, ρ5, i + 1, F6, T, Nat.le_trans hsz (Nat.le_trans x.size T56.size), fun j a e => ?_, wk.frame _ _ _ st' fun b o hn hlt e => T56.keep b o (hnfp b hn hlt) e, hlt, rfl, h₃⟩
      rcases T56.own j a e with ⟨l, hl⟩ | hge
      · exact hown l a hl
      · exact .inr (Nat.le_trans hsz (Nat.le_trans x.size hge))
    | ret d =>
      cases h₃
      obtain ⟨v', rfl, r'⟩ := ok
      exact ⟨⟨v', rfl, r'.weak fun a ha => .inl ha⟩, O6, vm6, F6.lessP fun a ha => .inl ha, T⟩
  · have hi : i = ds.length := by omega
    subst hi
    rw [List.drop_length, loopS] at h₃
    cases h₃
    refine W.mono (wk.done s₃ (fun s₄ => Post J env P O s .next _ .next s₄) st F₁.baseOf fun s₄ x => ⟨rfl, O₁, vm₁, (F₁.chg x (fun b hb => .inr hb) hb1 hnm).lessP fun a ha => .inl ha, chgTr s₄ x⟩) fun r s₄ ⟨e, h₄⟩ => by subst e; exact h₄
end
end Mine

end
section
open PySem PySem.W PySem.Calls PyProof.Rows
set_option Elab.async false
set_option maxRecDepth 100000
namespace Mine

noncomputable abbrev noO : Nat → Option Addr := fun _ => none

/-! a comprehension's tests -/
noncomputable def tests (ifs : List PySem.Expr) (env : Env) : Sem Bool :=
  forIn ifs true fun c r => if r = true then do let ok ← isTrue c env (eval c env); pure (ForInStep.yield ok) else pure (ForInStep.yield r)
noncomputable def TsOk (J : Jd) (ifs : List PySem.Expr) (t : Rho → Option Bool) : Prop :=
  ∀ (A : Around) (env : Env) (P : Avd) (O : Nat → Option Addr) (vm : Str → Option Value) (s : Shared) (ρ : Rho) (b : Bool), Room A J.k → FrV J.cx J.sc J.tab env P O vm s ρ → t ρ = some b →
    W J.cx.prog J.cx.w A (tests ifs env) (fun v s' => Ext s s' ∧ v = b) s
noncomputable def tt : Rho → Option Bool := fun _ => some true
theorem ts_nil {J : Jd} : TsOk J [] tt := fun A env P O vm s ρ b hA F h => by cases h; exact W.pure ⟨Ext.refl _, rfl⟩
theorem ts_one {J : Jd} {c : PySem.Expr} {t : Rho → Option Bool} (hc : ST J c t) : TsOk J [c] t := fun A env P O vm s ρ b hA F h => by
  unfold tests
  simp only [List.forIn_cons, List.forIn_nil, if_true]
  exact W.bind (W.bind (W.mono (hc A env P O vm s ρ b hA F h) fun x s' hx => W.pure (W.pure hx)))


noncomputable def mutsL (env : Env) (O : Nat → Option Addr) : Avd := fun a => (∃ j, O j = some a) ∨ a = env.locals
theorem mutsL.m {env : Env} {O : Nat → Option Addr} {a : Addr} (h : mutsL env O a) : muts env O a := h.imp id .inl
/-! what a turn lays into the new list -/
structure CTr (env : Env) (O : Nat → Option Addr) (L : List Addr) (s : Shared) (O' : Nat → Option Addr) (s' : Shared) : Prop where
  gens : s'.gens = s.gens
  os : s'.os = s.os
  size : s.heap.objs.size ≤ s'.heap.objs.size
  keep : ∀ b o, b ∉ L → ¬ mutsL env O b → s.heap.get? b = some o → s'.heap.get? b = some o
  own : ∀ j a, O' j = some a → (∃ i, O i = some a) ∨ s.heap.objs.size ≤ a
theorem CTr.trans {env : Env} {L : List Addr} {O O' O'' : Nat → Option Addr} {s s' s'' : Shared} (x : CTr env O L s O' s') (y : CTr env O' L s' O'' s'') : CTr env O L s O'' s'' where
  gens := y.gens.trans x.gens
  os := y.os.trans x.os
  size := Nat.le_trans x.size y.size
  keep := fun a o hL hn e => y.keep a o hL (fun m => by
    rcases m with ⟨j, hj⟩ | m
    · rcases x.own j a hj with ⟨i, hi⟩ | hge
      · exact hn (.inl ⟨i, hi⟩)
      · exact absurd (Heap.lt_size e) (Nat.not_lt.mpr hge)
    · exact hn (.inr m)) (x.keep a o hL hn e)
  own := fun j a hj => by
    rcases y.own j a hj with ⟨i, hi⟩ | hge
    · exact x.own i a hi
    · exact .inr (Nat.le_trans x.size hge)
theorem CTr.sub {env : Env} {L L' : List Addr} {O O' : Nat → Option Addr} {s s' : Shared} (x : CTr env O L s O' s') (h : ∀ a ∈ L, a < s.heap.objs.size → a ∈ L') : CTr env O L' s O' s' :=
  ⟨x.gens, x.os, x.size, fun b o hb hn e => x.keep b o (fun hm => hb (h b hm (Heap.lt_size e))) hn e, x.own⟩
theorem CTr.tr {env : Env} {O O' : Nat → Option Addr} {s s' : Shared} (x : CTr env O [] s O' s') : Tr env O s O' s' := ⟨x.gens, x.os, x.size, fun b o hn e => x.keep b o (fun h => nomatch h) (fun h => hn h.m) e, x.own⟩
theorem Ext.c {env : Env} {L : List Addr} {O : Nat → Option Addr} {s s' : Shared} (x : Ext s s') : CTr env O L s O s' := ⟨x.gens, x.os, x.size, fun b o _ _ e => x.keep b o e, fun j _ e => .inl ⟨j, e⟩⟩
/-- a target of local names -/
noncomputable def SAL (J : Jd) (t : PySem.Expr) (g : D → Rho → Option Rho) : Prop :=
  ∀ (A : Around) (env : Env) (P : Avd) (O : Nat → Option Addr) (vm : Str → Option Value) (s : Shared) (ρ : Rho) (d : D) (v : Value) (ρ' : Rho), Room A J.k → FrV J.cx J.sc J.tab env P O vm s ρ → Rd J.cx s.heap (Av env P O) d v → g d ρ = some ρ' →
    W J.cx.prog J.cx.w A (assign t env v) (fun _ s' => ∃ O' vm', FrV J.cx J.sc J.tab env P O' vm' s' ρ' ∧ CTr env O [] s O' s') s
theorem FrV.storeL {cx : Cx} {sc : Scope} {tab : List (Option Str)} {env : Env} {P : Avd} {O : Nat → Option Addr} {vm : Str → Option Value} {s : Shared} {ρ : List Slot} {prog : Program} {w : World} {A : Around} (F : FrV cx sc tab env P O vm s ρ) {i : Nat} {x : Str} {v : Value} {d : D} {Q : Unit → Shared → Prop} (ht : tab[i]? = some (some x)) (hl : sc.names.lookup x = some .local)
    (r : Rd cx s.heap (Av env P O) d v)
    (hQ : ∀ s', FrV cx sc tab env P (off O i) (upd vm x v) s' (ρ.set i (.val d)) → CTr env O [] s (off O i) s' → Q () s') : W prog w A (storeName env x v) Q s := by
  have hkd : env.scope.kind = .function := by rw [F.scope]; exact F.kind
  obtain ⟨m, hn, hm⟩ := F.ns
  refine W.of_any (wpAny_storeName_local (by show env.scope.names.lookup x = _; rw [F.scope]; exact hl) hn (fun h' hn' hs' => ?_) (by rw [hkd]; rfl))
  have hsz := hs'.1
  have hkk : ∀ a o, a ≠ env.locals → s.heap.get? a = some o → h'.get? a = some o := fun a o ha e => hs'.extBut a o ha e
  have hk : ∀ a o, a ≠ env.locals → (∀ y, env.cells.lookup y ≠ some a) → s.heap.get? a = some o → h'.get? a = some o := fun a o ha _ e => hkk a o ha e
  have hns : ∃ m, h'.Ns env.locals m ∧ ∀ y, sc.names.lookup y = some .local → m y = upd vm x v y := ⟨_, hn', fun y hy => by
    unfold upd
    split
    · rfl
    · exact hm y hy⟩
  have hcell : ∀ y c, env.cells.lookup y = some c → h'.IsCell c (upd vm x v y) := fun y c hc => by
    have hne : y ≠ x := fun e => by
      subst e
      exact F.cellNL y c hc hl
    have : upd vm x v y = vm y := by unfold upd; rw [if_neg hne]
    rw [this]
    exact (F.cell y c hc).sameBut hs' fun e => F.nsCell y (e ▸ hc)
  have hA : ∀ a, Av env P (off O i) a → Av env P O a := fun a h => h.imp id fun m => m.imp (fun ⟨j, hj⟩ => ⟨j, (off_some hj).2⟩) id
  have hk' : ∀ a o, ¬ Av env P O a → s.heap.get? a = some o → h'.get? a = some o := fun a o hn e => hk a o (fun e' => hn (.inr (.inr (.inl e')))) (fun y e' => hn (.inr (.inr (.inr ⟨y, e'⟩)))) e
  refine hQ _ (F.put (s' := { s with heap := h', toks := s.toks + 1 }) ht hsz hk hns hcell (fun j hj => by unfold off; rw [if_neg hj]) (fun a h => absurd rfl (off_some h).1) (fun j y sl hj h1 h2 => ?_) ⟨v, rfl, r.mono hk' fun a h => .inl (hA a h)⟩) ?_
  · exact slot_tr (F.slots j y sl h1 h2) hk' (fun a h => .inl (hA a h)) (by unfold off; rw [if_neg hj]) fun a o e e' => hk a o (F.ownApart j a e).1 (F.ownApart j a e).2 e'
  · exact ⟨rfl, rfl, Nat.le_of_eq hsz.symm, fun a o _ hn e => hkk a o (fun e' => hn (.inr e')) e, fun j a h => .inl ⟨j, (off_some h).2⟩⟩
theorem sal_name {J : Jd} {x : Str} {pos : Pos} {i : Nat} (ht : J.tab[i]? = some (some x) := by rfl) (hl : J.sc.names.lookup x = some .local := by rfl) : SAL J (.Name x pos) (nameA i) := fun A env P O vm s ρ d v ρ' hA F r h => by
  cases h
  show W _ _ A (do standAt pos; bindName env x v) _ s
  refine W.bind (W.standAt ?_)
  unfold bindName
  exact W.bind (W.holding (W.point (W.bind (F.storeL ht hl r fun s' F' T' => W.point ⟨_, _, F', T'⟩))))
inductive TNL (J : Jd) : List PySem.Expr → List Nat → Prop
  | nil : TNL J [] []
  | cons {x : Str} {p : Pos} {i : Nat} {es : List PySem.Expr} {is : List Nat} (ht : J.tab[i]? = some (some x)) (hl : J.sc.names.lookup x = some .local) (h : TNL J es is) : TNL J (.Name x p :: es) (i :: is)
theorem Chg.c {env : Env} {L : List Addr} {O : Nat → Option Addr} {s s' : Shared} (x : Chg L s s') : CTr env O L s O s' := ⟨x.gens, x.os, x.size, fun b o hb _ e => x.keep b o hb e, fun j _ e => .inl ⟨j, e⟩⟩

/-- the new list, so far -/
structure Acc (cx : Cx) (env : Env) (P : Avd) (O : Nat → Option Addr) (a : Addr) (zs : List D) (s : Shared) : Prop where
  obj : ∃ vs n, s.heap.get? a = some { cls := .type "list", data := .seq vs n } ∧ RdAll cx s.heap (Av env P O) zs vs.toList
  inP : P a
  above : cx.h₁.objs.size ≤ a
  nm : a ≠ env.locals ∧ ∀ x, env.cells.lookup x ≠ some a

section
variable {cx : Cx} {sc : Scope} {tab : List (Option Str)} {env : Env} {P : Avd} {O O' : Nat → Option Addr} {vm : Str → Option Value} {s s' : Shared} {ρ : List Slot} {a : Addr} {zs : List D}
theorem Acc.notMut (x : Acc cx env P O a zs s) (F : FrV cx sc tab env P O vm s ρ) : ¬ muts env O a := fun m => by
  rcases m with ⟨j, hj⟩ | m | ⟨y, hy⟩
  · exact F.ownNP j a hj x.inP
  · exact x.nm.1 m
  · exact x.nm.2 y hy
theorem Acc.ext (x : Acc cx env P O a zs s) (X : Ext s s') : Acc cx env P O a zs s' :=
  let ⟨vs, n, h1, h2⟩ := x.obj
  ⟨⟨vs, n, X.keep _ _ h1, h2.keep X.keep⟩, x.inP, x.above, x.nm⟩
theorem Acc.tr (x : Acc cx env P O a zs s) (F : FrV cx sc tab env P O vm s ρ) (T : Tr env O s O' s') : Acc cx env P O' a zs s' :=
  let ⟨vs, n, h1, h2⟩ := x.obj
  ⟨⟨vs, n, T.keep _ _ (x.notMut F) h1, F.rdAllTr T h2⟩, x.inP, x.above, x.nm⟩
theorem Acc.chg {wr : List Addr} (x : Acc cx env P O a zs s) (X : Chg wr s s') (hP : ∀ b ∈ wr, P b) (ha : a ∉ wr) : Acc cx env P O a zs s' :=
  let ⟨vs, n, h1, h2⟩ := x.obj
  ⟨⟨vs, n, X.keep _ _ ha h1, h2.mono (fun b o hn e => X.keep b o (fun hw => hn (.inl (hP b hw))) e) fun _ h => .inl h⟩, x.inP, x.above, x.nm⟩
theorem Acc.length (x : Acc cx env P O a zs s) : ∃ vs n, s.heap.get? a = some { cls := .type "list", data := .seq vs n } ∧ RdAll cx s.heap (Av env P O) zs vs.toList ∧ vs.size = zs.length := by
  obtain ⟨vs, n, h1, h2⟩ := x.obj
  exact ⟨vs, n, h1, h2, by rw [← Array.length_toList, h2.length]⟩
end

noncomputable def EmOk (J : Jd) (tree : Value → Env → Sem Unit) (em : Rho → Option (List D × Rho)) : Prop :=
  ∀ (A : Around) (env : Env) (P : Avd) (O : Nat → Option Addr) (vm : Str → Option Value) (s : Shared) (ρ : Rho) (a : Addr) (zs ys : List D) (ρ' : Rho), Room A J.k → FrV J.cx J.sc J.tab env P O vm s ρ → Acc J.cx env P O a zs s → zs.length + ys.length ≤ sizeLine → em ρ = some (ys, ρ') →
    W J.cx.prog J.cx.w A (tree (.ref a) env) (fun _ s' => ∃ O' vm', FrV J.cx J.sc J.tab env P O' vm' s' ρ' ∧ Acc J.cx env P O' a (zs ++ ys) s' ∧ CTr env O [a] s O' s') s

noncomputable def emE (f : Rho → Option D) : Rho → Option (List D × Rho) := fun ρ => (f ρ).map fun y => ([y], ρ)
theorem em_last {J : Jd} {elt : PySem.Expr} {f : Rho → Option D} (he : SE J elt f) : EmOk J (fun acc env => do let _ ← PySem.call (.builtin "list.append") [acc, ← eval elt env]) (emE f) := fun A env P O vm s ρ a zs ys ρ' hA F hacc hz h => by
  unfold emE at h
  rw [Option.map_eq_some_iff] at h
  obtain ⟨y, hy, h⟩ := h
  cases h
  refine W.bind (W.mono (he A env P O vm s ρ y hA F hy) fun v s₁ ⟨X, r⟩ => W.bind ?_)
  have hacc1 := hacc.ext X
  obtain ⟨vs, n, ho, hr, hl⟩ := hacc1.length
  have hz1 : vs.size ≤ sizeLine := by rw [hl]; simp at hz; omega
  refine W.of_any (wpAny_list_append_plain (hsz := hz1) ⟨n, ho⟩ fun h' hp hs => ?_)
  show W _ _ _ _ _ _
  refine W.pure ?_
  obtain ⟨n', ho'⟩ := hp
  have F1 := F.ext X
  have hchg : Chg [a] s₁ { s₁ with heap := h' } := ⟨rfl, rfl, Nat.le_of_eq hs.1.symm, fun b o hb e => hs.extBut b o (by simpa using hb) e⟩
  refine ⟨O, vm, F1.chg hchg (fun b hb => by simp at hb; subst hb; exact hacc.inP) (fun b hb => by simp at hb; subst hb; exact hacc.above) (fun b hb => by simp at hb; subst hb; exact hacc1.notMut F1), ⟨⟨vs.push v, n', ho', ?_⟩, hacc.inP, hacc.above, hacc.nm⟩, (X.c).trans hchg.c⟩
  rw [Array.toList_push]
  exact (hr.append (RdAll.cons r RdAll.nil)).mono (fun b o hn e => hs.extBut b o (fun e' => hn (.inl (e' ▸ hacc.inP))) e) fun _ h => .inl h

noncomputable def loopC (g : D → Rho → Option Rho) (t : Rho → Option Bool) (em : Rho → Option (List D × Rho)) : List D → Rho → Option (List D × Rho)
  | [], ρ => some ([], ρ)
  | d :: ds, ρ => (g d ρ).bind fun ρ1 => (t ρ1).bind fun b => if b then (em ρ1).bind fun x => (loopC g t em ds x.2).map fun y => (x.1 ++ y.1, y.2) else loopC g t em ds ρ1

/-- the turn of a clause, as the model has it -/
noncomputable def turnOf (tgt iter : PySem.Expr) (ifs : List PySem.Expr) (tree : Value → Env → Sem Unit) (c : Value → Value → Env → Code) (it acc : Value) (env : Env) : Sem Fin :=
  standAt iter.pos >>= fun _ => pyNext it >>= fun r => match r with
      | none => pure (.done .next)
      | some v => letOwnedTupleGo tgt it v >>= fun _ => assign tgt env v >>= fun _ => tests ifs env >>= fun ok => (if ok = true then (tree acc env >>= fun _ => again (c it acc env)) else again (c it acc env))

/-- one clause's loop -/
theorem comp_loop {J : Jd} {tgt iter : PySem.Expr} {ifs : List PySem.Expr} {tree : Value → Env → Sem Unit} {c : Value → Value → Env → Code} {g : D → Rho → Option Rho} {t : Rho → Option Bool} {em : Rho → Option (List D × Rho)}
    (hden : ∀ it acc env, ∃ k, denote table (c it acc env) = (turnOf tgt iter ifs tree c it acc env).onRaise k)
    (hci : ∀ it acc env, notCI (c it acc env) = true) (hask : ∀ it acc env, isAsk (c it acc env) = false)
    (hq : ∀ it acc env, (c it acc env).quiet = true) (hund : ∀ (A : Around) it acc env, A.under (c it acc env) = A)
    (ht : SAL J tgt g) (hts : TsOk J ifs t) (hem : EmOk J tree em)
    {A : Around} {env : Env} {P : Avd} {O : Nat → Option Addr} {vm : Str → Option Value} {s : Shared} {ρ ρ' : Rho} {a : Addr} {zs ys : List D} {ds : List D} {I : Addr} {wr : List Addr} {N : Nat} {U : Avd} {St : Nat → Heap → Prop} (hA : Room A J.k) (F : FrV J.cx J.sc J.tab env P O vm s ρ) (hacc : Acc J.cx env P O a zs s)
    (hz : zs.length + ys.length ≤ sizeLine) (h : loopC g t em ds ρ = some (ys, ρ')) (wk : Wk J.cx A tgt I wr N ds U St) (st : St 0 s.heap) (hwP : ∀ b ∈ wr, P b) (hwb : ∀ b ∈ wr, J.cx.h₁.objs.size ≤ b) (hwm : ∀ b ∈ wr, ¬ muts env O b) (hwa : a ∉ wr)
    (hN : N ≤ s.heap.objs.size) (hU : ∀ b, Av env P O b → U b ∨ b ∈ wr ∨ N ≤ b) (hUm : ∀ b, b = a ∨ muts env O b → U b ∨ N ≤ b) :
    C J.cx.prog J.cx.w A (c (.ref I) (.ref a) env) (fun _ s' => ∃ O' vm', FrV J.cx J.sc J.tab env P O' vm' s' ρ' ∧ Acc J.cx env P O' a (zs ++ ys) s' ∧ CTr env O (a :: wr) s O' s') s := by
  refine C.loop (hci _ _ _) (hask _ _ _) (hq _ _ _) (fun k s₃ => ∃ O₁ vm₁ ρ₁ zs₁ ys₁ i, FrV J.cx J.sc J.tab env P O₁ vm₁ s₃ ρ₁ ∧ Acc J.cx env P O₁ a zs₁ s₃ ∧ CTr env O (a :: wr) s O₁ s₃ ∧ St i s₃.heap ∧ i ≤ ds.length ∧ k = ds.length - i ∧
      loopC g t em (ds.drop i) ρ₁ = some (ys₁, ρ') ∧ zs₁ ++ ys₁ = zs ++ ys) ?_ ds.length
    ⟨O, vm, ρ, zs, ys, 0, F, hacc, ⟨rfl, rfl, Nat.le_refl _, fun _ _ _ _ e => e, fun j _ e => .inl ⟨j, e⟩⟩, st, Nat.zero_le _, rfl, h, rfl⟩
  rintro k s₃ ⟨O₁, vm₁, ρ₁, zs₁, ys₁, i, F₁, hacc₁, T₁, st, hle, rfl, h₃, hzy⟩
  rw [hund]
  obtain ⟨kk, hd⟩ := hden (.ref I) (.ref a) env
  rw [hd]
  refine W.onRaise (W.bind (W.standAt (W.bind ?_)))
  have hnm : ∀ (O₂ : Nat → Option Addr) (s₄ : Shared), CTr env O (a :: wr) s O₂ s₄ → ∀ b ∈ wr, b < s.heap.objs.size → ¬ muts env O₂ b := fun O₂ s₄ T b hb hlt hm => by
    rcases hm with ⟨j, hj⟩ | hm
    · rcases T.own j b hj with ⟨l, hl⟩ | hge
      · exact hwm b hb (.inl ⟨l, hl⟩)
      · exact Nat.lt_irrefl _ (Nat.lt_of_lt_of_le hlt hge)
    · exact hwm b hb (.inr hm)
  have hlw : ∀ b ∈ wr, b < s.heap.objs.size := fun b hb => F.av b (hwP b hb)
  have hUm1 : ∀ (O₂ : Nat → Option Addr) (s₄ : Shared), CTr env O (a :: wr) s O₂ s₄ → ∀ b, ¬ U b → b < N → ¬ muts env O₂ b := fun O₂ s₄ T b hn hlt hm => by
    rcases hm with ⟨j, hj⟩ | hm
    · rcases T.own j b hj with ⟨l, hl⟩ | hge
      · rcases hUm b (.inr (.inl ⟨l, hl⟩)) with h1 | h1
        · exact hn h1
        · exact Nat.lt_irrefl _ (Nat.lt_of_lt_of_le hlt h1)
      · exact Nat.lt_irrefl _ (Nat.lt_of_lt_of_le hlt (Nat.le_trans hN hge))
    · rcases hUm b (.inr (.inr hm)) with h1 | h1
      · exact hn h1
      · exact Nat.lt_irrefl _ (Nat.lt_of_lt_of_le hlt h1)
  have hUa : ∀ b, ¬ U b → b < N → b ≠ a := fun b hn hlt e => by
    rcases hUm b (.inl e) with h1 | h1
    · exact hn h1
    · exact Nat.lt_irrefl _ (Nat.lt_of_lt_of_le hlt h1)
  have chgT : ∀ s₄, Chg wr s₃ s₄ → CTr env O (a :: wr) s O₁ s₄ := fun s₄ x => T₁.trans (x.c.sub fun b hb _ => List.mem_cons_of_mem _ hb)
  rcases Nat.lt_or_ge i ds.length with hlt | hge
  · have hd : ds[i]? = some ds[i] := List.getElem?_eq_getElem hlt
    have hdrop : ds.drop i = ds[i] :: ds.drop (i + 1) := List.drop_eq_getElem_cons hlt
    rw [hdrop, loopC, Option.bind_eq_some_iff] at h₃
    obtain ⟨ρ4, hg4, h₃⟩ := h₃
    rw [Option.bind_eq_some_iff] at h₃
    obtain ⟨bb, hb4, h₃⟩ := h₃
    refine W.mono (wk.item i ds[i] s₃ (Av env P O₁) (fun v s₄ => W J.cx.prog J.cx.w A (assign tgt env v >>= fun _ => tests ifs env >>= fun ok => (if ok = true then (tree (.ref a) env >>= fun _ => again (c (.ref I) (.ref a) env)) else again (c (.ref I) (.ref a) env))) _ s₄) hd st F₁.baseOf (fun b hb => ⟨?_, F₁.avLt hb⟩) fun v s₄ x r st' => ?_) fun r s₄ hr => by obtain ⟨v, e, h₄⟩ := hr; subst e; exact W.bind h₄
    · rcases hb with hb | ⟨j, hj⟩ | hb
      · exact hU b (.inl hb)
      · rcases T₁.own j b hj with ⟨l, hl⟩ | hge
        · exact hU b (.inr (.inl ⟨l, hl⟩))
        · exact .inr (.inr (Nat.le_trans hN hge))
      · exact hU b (.inr (.inr hb))
    have hwm1 : ∀ b ∈ wr, ¬ muts env O₁ b := fun b hb => hnm O₁ s₃ T₁ b hb (hlw b hb)
    have F4 := F₁.chg x hwP hwb hwm1
    have acc4 := hacc₁.chg x hwP hwa
    refine W.bind (W.mono (ht A env _ O₁ vm₁ s₄ ρ₁ ds[i] v ρ4 hA F4 r hg4) fun _ s₅ ⟨O5, vm5, F5, T5⟩ => ?_)
    have acc5 := acc4.tr F4 T5.tr
    have C5 : CTr env O (a :: wr) s O5 s₅ := (chgT s₄ x).trans (T5.sub fun b hb _ => nomatch hb)
    have st5 : St (i + 1) s₅.heap := wk.frame _ _ _ st' fun b o hn hlt e => T5.keep b o (fun h => nomatch h) (fun h => hUm1 O₁ s₃ T₁ b hn hlt h.m) e
    refine W.bind (W.mono (hts A env P O5 vm5 s₅ ρ4 bb hA F5 hb4) fun ok s₆ ⟨X6, e⟩ => ?_)
    subst e
    have F6 := F5.ext X6
    have acc6 := acc5.ext X6
    have C6 : CTr env O (a :: wr) s O5 s₆ := C5.trans X6.c
    have st6 : St (i + 1) s₆.heap := wk.frame _ _ _ st5 fun b o _ _ e => X6.keep b o e
    cases ok with
    | false =>
      simp only [Bool.false_eq_true, if_false] at h₃ ⊢
      exact W.pure (Or.inl ⟨rfl, ds.length - (i + 1), by omega, O5, vm5, ρ4, zs₁, ys₁, i + 1, F6, acc6, C6, st6, hlt, rfl, h₃, hzy⟩)
    | true =>
      simp only [if_true] at h₃ ⊢
      rw [Option.bind_eq_some_iff] at h₃
      obtain ⟨⟨ys7, ρ7⟩, hem7, h₃⟩ := h₃
      rw [Option.map_eq_some_iff] at h₃
      obtain ⟨⟨ys8, ρ8⟩, h8, h₃⟩ := h₃
      cases h₃
      have hl : zs₁.length + (ys7.length + ys8.length) = zs.length + ys.length := by
        have := congrArg List.length hzy
        simp at this
        omega
      refine W.bind (W.mono (hem A env P O5 vm5 s₆ ρ4 a zs₁ ys7 ρ7 hA F6 acc6 (by omega) hem7) fun _ s₇ ⟨O7, vm7, F7, acc7, T7⟩ => ?_)
      refine W.pure (Or.inl ⟨rfl, ds.length - (i + 1), by omega, O7, vm7, ρ7, zs₁ ++ ys7, ys8, i + 1, F7, acc7, C6.trans (T7.sub fun b hb _ => by simp at hb; subst hb; exact List.mem_cons_self), ?_, hlt, rfl, h8, ?_⟩)
      · exact wk.frame _ _ _ st6 fun b o hn hlt e => T7.keep b o (by simp; exact hUa b hn hlt) (fun h => hUm1 O5 s₆ C6 b hn hlt h.m) e
      · rw [List.append_assoc]; exact hzy
  · have hi : i = ds.length := by omega
    subst hi
    rw [List.drop_length, loopC] at h₃
    cases h₃
    rw [List.append_nil] at hzy
    subst hzy
    have hwm1 : ∀ b ∈ wr, ¬ muts env O₁ b := fun b hb => hnm O₁ s₃ T₁ b hb (hlw b hb)
    refine W.mono (wk.done s₃ (fun s₄ => ∃ O' vm', FrV J.cx J.sc J.tab env P O' vm' s₄ _ ∧ Acc J.cx env P O' a _ s₄ ∧ CTr env O (a :: wr) s O' s₄) st F₁.baseOf fun s₄ x => ⟨O₁, vm₁, F₁.chg x hwP hwb hwm1, hacc₁.chg x hwP hwa, chgT s₄ x⟩) fun r s₄ ⟨e, h₄⟩ => by subst e; exact W.pure h₄
end Mine

end
section
open PySem PySem.W PySem.Calls PyProof.Rows
set_option Elab.async false
set_option maxRecDepth 100000
namespace Mine

noncomputable def relab (scope sc : Scope) : Scope := { scope with names := scope.names.map fun (n, k) => if (k == .free && sc.kind == .function && sc.names.lookup n == some .cell) then (n, .cell) else (n, k) }
theorem lookup_relab (sc : Scope) (x : Str) : ∀ names : List (Str × NameKind), (names.map fun (n, k) => if (k == NameKind.free && sc.kind == .function && sc.names.lookup n == some .cell) then (n, NameKind.cell) else (n, k)).lookup x =
    (names.lookup x).map fun k => if (k == .free && sc.kind == .function && sc.names.lookup x == some .cell) then .cell else k
  | [] => rfl
  | (n, k) :: r => by
    have ih := lookup_relab sc x r
    have e : (if (k == NameKind.free && sc.kind == .function && sc.names.lookup n == some .cell) then (n, NameKind.cell) else (n, k)) = (n, if (k == NameKind.free && sc.kind == .function && sc.names.lookup n == some .cell) then NameKind.cell else k) := by split <;> rfl
    rw [List.map_cons]
    show List.lookup x ((if (k == NameKind.free && sc.kind == .function && sc.names.lookup n == some .cell) then (n, NameKind.cell) else (n, k)) :: _) = _
    rw [e]
    cases hx : x == n with
    | true =>
      have := eq_of_beq hx
      subst this
      simp [List.lookup_cons]
    | false => simp only [List.lookup_cons, hx]; exact ih

theorem relab_local {scope sc : Scope} {x : Str} : (relab scope sc).names.lookup x = some .local ↔ scope.names.lookup x = some .local := by
  unfold relab
  rw [lookup_relab]
  cases scope.names.lookup x with
  | none => simp
  | some k => cases k <;> simp <;> split <;> simp
theorem relab_free {scope sc : Scope} {x : Str} (h : scope.names.lookup x = some .free) : (relab scope sc).names.lookup x = some .cell ∨ (relab scope sc).names.lookup x = some .free := by
  unfold relab
  rw [lookup_relab, h]
  simp only [Option.map_some]
  split
  · exact .inl rfl
  · exact .inr rfl

/-! the closure -/
noncomputable def clRev (cells : List (Str × Addr)) : List (Str × NameKind) → List (Str × Addr) → List (Str × Addr)
  | [], acc => acc
  | (n, k) :: r, acc => if k == .free then clRev cells r ((n, (cells.lookup n).getD 0) :: acc) else clRev cells r acc

theorem closure_ok {scope : Scope} {env : Env} (h : ∀ x, (x, NameKind.free) ∈ scope.names → (env.cells.lookup x).isSome = true) : closureFor scope env = pure (clRev env.cells scope.names []) := by
  unfold closureFor
  have : ∀ (names : List (Str × NameKind)) (acc : List (Str × Addr)), (∀ x, (x, NameKind.free) ∈ names → (env.cells.lookup x).isSome = true) →
      (forIn names acc fun x r => (match x with | (name, kind) => if (kind == NameKind.free) = true then do let c ← cellOf env name; pure (ForInStep.yield ((name, c) :: r)) else pure (ForInStep.yield r)) : Sem (List (Str × Addr))) = pure (clRev env.cells names acc) := by
    intro names
    induction names with
    | nil => intro acc _; rfl
    | cons x r ih =>
      intro acc h
      obtain ⟨n, k⟩ := x
      rw [List.forIn_cons]
      have hr : ∀ x, (x, NameKind.free) ∈ r → (env.cells.lookup x).isSome = true := fun x hx => h x (List.mem_cons_of_mem _ hx)
      by_cases hk : (k == NameKind.free) = true
      · have hk' : k = .free := eq_of_beq hk
        subst hk'
        obtain ⟨c, hc⟩ := Option.isSome_iff_exists.mp (h n List.mem_cons_self)
        have e : cellOf env n = pure c := by unfold cellOf; rw [hc]
        simp only [hk, if_true, e]
        rw [clRev, if_pos hk, hc]
        exact ih _ hr
      · simp only [hk, Bool.false_eq_true, if_false]
        rw [clRev, if_neg hk]
        exact ih _ hr
  have h2 := this scope.names [] h
  exact Eq.trans (congrArg (fun t : Sem (List (Str × Addr)) => t >>= fun r => pure r) h2) rfl

theorem clRev_mem {cells : List (Str × Addr)} {x : Str} {c : Addr} : ∀ {names : List (Str × NameKind)} {acc : List (Str × Addr)}, (∀ y, (y, NameKind.free) ∈ names → (cells.lookup y).isSome = true) → (x, c) ∈ clRev cells names acc → (x, c) ∈ acc ∨ ((x, NameKind.free) ∈ names ∧ cells.lookup x = some c)
  | [], _, _, h => .inl h
  | (n, k) :: r, acc, hf, h => by
    rw [clRev] at h
    have hr : ∀ y, (y, NameKind.free) ∈ r → (cells.lookup y).isSome = true := fun y hy => hf y (List.mem_cons_of_mem _ hy)
    split at h
    · rename_i hk
      have hk' : k = .free := eq_of_beq hk
      subst hk'
      rcases clRev_mem hr h with h | ⟨h1, h2⟩
      · rcases List.mem_cons.mp h with h | h
        · obtain ⟨c', hc⟩ := Option.isSome_iff_exists.mp (hf n List.mem_cons_self)
          rw [hc] at h
          cases h
          exact .inr ⟨List.mem_cons_self, hc⟩
        · exact .inl h
      · exact .inr ⟨List.mem_cons_of_mem _ h1, h2⟩
    · rcases clRev_mem hr h with h | ⟨h1, h2⟩
      · exact .inl h
      · exact .inr ⟨List.mem_cons_of_mem _ h1, h2⟩
theorem clRev_has {cells : List (Str × Addr)} {x : Str} : ∀ {names : List (Str × NameKind)} {acc : List (Str × Addr)}, ((x, NameKind.free) ∈ names ∨ ∃ c, (x, c) ∈ acc) → ∃ c, (x, c) ∈ clRev cells names acc
  | [], _, h => h.elim (fun h => nomatch h) id
  | (n, k) :: r, acc, h => by
    rw [clRev]
    split
    · rename_i hk
      rcases h with h | ⟨c, h⟩
      · rcases List.mem_cons.mp h with h | h
        · cases h
          exact clRev_has (.inr ⟨_, List.mem_cons_self⟩)
        · exact clRev_has (.inl h)
      · exact clRev_has (.inr ⟨c, List.mem_cons_of_mem _ h⟩)
    · rename_i hk
      rcases h with h | h
      · rcases List.mem_cons.mp h with h | h
        · cases h
          exact absurd (by rfl) hk
        · exact clRev_has (.inl h)
      · exact clRev_has (.inr h)
theorem clRev_names {cells : List (Str × Addr)} : ∀ {names : List (Str × NameKind)} {acc : List (Str × Addr)}, (names.map (·.1)).Nodup → (acc.map (·.1)).Nodup → (∀ x ∈ names, ∀ y ∈ acc, x.1 ≠ y.1) → ((clRev cells names acc).map (·.1)).Nodup
  | [], _, _, h, _ => h
  | (n, k) :: r, acc, h1, h2, h3 => by
    rw [List.map_cons, List.nodup_cons] at h1
    rw [clRev]
    split
    · refine clRev_names h1.2 ?_ ?_
      · rw [List.map_cons, List.nodup_cons]
        refine ⟨fun hm => ?_, h2⟩
        obtain ⟨y, hy, e⟩ := List.mem_map.mp hm
        exact h3 _ List.mem_cons_self y hy e.symm
      · intro x hx y hy
        rcases List.mem_cons.mp hy with hy | hy
        · subst hy
          intro e
          exact h1.1 (e ▸ List.mem_map.mpr ⟨x, hx, rfl⟩)
        · exact h3 x (List.mem_cons_of_mem _ hx) y hy
    · exact clRev_names h1.2 h2 fun x hx y hy => h3 x (List.mem_cons_of_mem _ hx) y hy

theorem lookup_of_mem_nodup {β : Type} {x : Str} {c : β} : ∀ {l : List (Str × β)}, (l.map (·.1)).Nodup → (x, c) ∈ l → l.lookup x = some c
  | [], _, h => nomatch h
  | (n, k) :: r, h1, h => by
    rw [List.map_cons, List.nodup_cons] at h1
    rcases List.mem_cons.mp h with h | h
    · cases h; simp [List.lookup_cons]
    · have hne : (x == n) = false := by
        cases hx : x == n with
        | false => rfl
        | true => exact absurd (List.mem_map.mpr ⟨(x, c), h, eq_of_beq hx⟩) h1.1
      simp only [List.lookup_cons, hne]
      exact lookup_of_mem_nodup h1.2 h

theorem pairwise_of_inj {l : List (Str × Addr)} (h1 : (l.map (·.1)).Nodup) (h2 : ∀ x y c, (x, c) ∈ l → (y, c) ∈ l → x = y) : l.Pairwise fun x y => x.2 ≠ y.2 := by
  induction l with
  | nil => exact .nil
  | cons a r ih =>
    rw [List.map_cons, List.nodup_cons] at h1
    refine .cons (fun b hb e => ?_) (ih h1.2 fun x y c hx hy => h2 x y c (List.mem_cons_of_mem _ hx) (List.mem_cons_of_mem _ hy))
    have : a.1 = b.1 := h2 a.1 b.1 a.2 List.mem_cons_self (List.mem_cons_of_mem _ (by rw [e]; exact hb))
    exact h1.1 (this ▸ List.mem_map.mpr ⟨b, hb, rfl⟩)

/-! the comprehension's own frame -/
noncomputable def seen (scope : Scope) : Option Str → Option Str
  | some x => if scope.names.lookup x == some .free then some x else none
  | none => none
noncomputable def hideOwn : Slot → Slot
  | .own _ => .unb
  | x => x
noncomputable def Jc (J : Jd) (scope : Scope) (vars : List Str) : Jd := ⟨J.cx, relab scope J.sc, J.tab.map (seen scope) ++ vars.map some, J.k⟩
noncomputable def rhoC (vars : List Str) (ρ : Rho) : Rho := ρ.map hideOwn ++ vars.map fun _ => .unb

structure CompSc (J : Jd) (scope : Scope) (vars : List Str) : Prop where
  kind : scope.kind = .function
  nodup : (scope.names.map (·.1)).Nodup
  noCell : ∀ x ∈ scope.names, x.2 ≠ .cell
  free : ∀ x ∈ scope.names, x.2 = .free → (some x.1 ∈ J.tab) ∧ J.sc.names.lookup x.1 ≠ some .local
  vloc : ∀ x ∈ vars, scope.names.lookup x = some .local
  vnd : vars.Nodup

theorem lookup_mem' {β : Type} {x : Str} {c : β} : ∀ {l : List (Str × β)}, l.lookup x = some c → (x, c) ∈ l
  | [], h => by simp at h
  | (n, k) :: r, h => by
    rw [List.lookup_cons] at h
    split at h
    · rename_i hx
      have := eq_of_beq hx
      subst this
      cases h
      exact List.mem_cons_self
    · exact List.mem_cons_of_mem _ (lookup_mem' h)
end Mine

end
section
open PySem PySem.W PySem.Calls PyProof.Rows
set_option Elab.async false
set_option maxRecDepth 100000
namespace Mine

theorem seen_some {scope : Scope} {o : Option Str} {x : Str} (h : seen scope o = some x) : o = some x ∧ scope.names.lookup x = some .free := by
  cases o with
  | none => cases h
  | some y =>
    unfold seen at h
    simp only at h
    split at h
    · rename_i hb
      cases h
      exact ⟨rfl, eq_of_beq hb⟩
    · cases h

theorem tabC_cases {J : Jd} {scope : Scope} {vars : List Str} {i : Nat} {x : Str} (h : (Jc J scope vars).tab[i]? = some (some x)) :
    (i < J.tab.length ∧ J.tab[i]? = some (some x) ∧ scope.names.lookup x = some .free) ∨ (J.tab.length ≤ i ∧ vars[i - J.tab.length]? = some x) := by
  unfold Jc at h
  simp only at h
  rcases Nat.lt_or_ge i J.tab.length with hi | hi
  · rw [List.getElem?_append_left (by simpa using hi), List.getElem?_map, Option.map_eq_some_iff] at h
    obtain ⟨o, h1, h2⟩ := h
    obtain ⟨e1, e2⟩ := seen_some h2
    subst e1
    exact .inl ⟨hi, h1, e2⟩
  · rw [List.getElem?_append_right (by simpa using hi), List.length_map, List.getElem?_map, Option.map_eq_some_iff] at h
    obtain ⟨y, h1, h2⟩ := h
    cases h2
    exact .inr ⟨hi, h1⟩

theorem Nodup.inj {l : List Str} (h : l.Nodup) {i j : Nat} {x : Str} (h1 : l[i]? = some x) (h2 : l[j]? = some x) : i = j := by
  obtain ⟨hi, e1⟩ := List.getElem?_eq_some_iff.mp h1
  obtain ⟨hj, e2⟩ := List.getElem?_eq_some_iff.mp h2
  have hp := List.pairwise_iff_getElem.mp h
  rcases Nat.lt_trichotomy i j with hlt | he | hlt
  · exact absurd (e1.trans e2.symm) (hp i j hi hj hlt)
  · exact he
  · exact absurd (e2.trans e1.symm) (hp j i hj hi hlt)

/-- the frame of a comprehension, as it begins -/
theorem FrV.comp {J : Jd} {scope : Scope} {vars : List Str} {env : Env} {P : Avd} {O : Nat → Option Addr} {vm : Str → Option Value} {s s' : Shared} {ρ : Rho} (cs : CompSc J scope vars) (F : FrV J.cx J.sc J.tab env P O vm s ρ) (X : Ext s s')
    {cenv : Env} {P' : Avd} (e1 : cenv.scope = relab scope J.sc) (e2 : cenv.globals = env.globals) (e3 : cenv.builtins = env.builtins) (e4 : cenv.cells = clRev env.cells scope.names [])
    (hl : s.heap.objs.size ≤ cenv.locals) (hns : s'.heap.Ns cenv.locals fun _ => none) (hP : ∀ a, P' a → Av env P O a ∨ s.heap.objs.size ≤ a) (hP' : ∀ a, P' a → a < s'.heap.objs.size) :
    ∃ vm', FrV J.cx (Jc J scope vars).sc (Jc J scope vars).tab cenv P' noO vm' s' (rhoC vars ρ) := by
  have hfr : ∀ x, (x, NameKind.free) ∈ scope.names → (env.cells.lookup x).isSome = true := fun x hx => by
    obtain ⟨h1, h2⟩ := cs.free _ hx rfl
    obtain ⟨i, hi⟩ := List.mem_iff_getElem?.mp h1
    rcases F.known i x hi with h | h
    · exact absurd h h2
    · exact h.2
  have hcl : ∀ x c, cenv.cells.lookup x = some c → (x, NameKind.free) ∈ scope.names ∧ env.cells.lookup x = some c := fun x c h => by
    rw [e4] at h
    rcases clRev_mem hfr (lookup_mem' h) with h | h
    · exact nomatch h
    · exact h
  have hclm : ∀ x c, (x, c) ∈ cenv.cells → env.cells.lookup x = some c := fun x c h => by
    rw [e4] at h
    rcases clRev_mem hfr h with h | h
    · exact nomatch h
    · exact h.2
  have hnd : (cenv.cells.map (·.1)).Nodup := by rw [e4]; exact clRev_names cs.nodup (by simp) (fun _ _ y hy => nomatch hy)
  have hnl : ∀ x c, cenv.cells.lookup x = some c → (relab scope J.sc).names.lookup x ≠ some .local := fun x c h e => by
    have := relab_local.mp e
    rw [lookup_of_mem_nodup cs.nodup (hcl x c h).1] at this
    cases this
  have hAv : ∀ a, Av cenv P' noO a → Av env P O a ∨ s.heap.objs.size ≤ a := fun a h => by
    rcases h with h | ⟨j, hj⟩ | h | ⟨x, hx⟩
    · exact hP a h
    · cases hj
    · exact .inr (h ▸ hl)
    · exact .inl (.inr (.inr (.inr ⟨x, (hcl x a hx).2⟩)))
  have hbase := F.baseOf
  refine ⟨fun x => if (relab scope J.sc).names.lookup x = some .local then none else vm x, {
    scope := e1, kind := cs.kind, glob := e2.trans F.glob, blt := e3.trans F.blt
    base := fun a o e => X.keep a o (F.base a o e)
    ns := ⟨_, hns, fun x hx => (if_pos hx).symm⟩
    cell := fun x c h => by
      show s'.heap.IsCell c (if _ then none else vm x)
      rw [if_neg (hnl x c h)]
      exact (F.cell x c (hcl x c h).2).keeps X.keep
    apart := pairwise_of_inj hnd fun x y c hx hy => name_of_addr F.apart (mem_of_lookup (hclm x c hx)) (mem_of_lookup (hclm y c hy))
    fresh := fun a m => by
      rcases m with ⟨j, hj⟩ | h | ⟨x, hx⟩
      · cases hj
      · rw [h]; exact ⟨Nat.le_trans hbase.1 hl, hns.lt⟩
      · have := F.fresh a (.inr (.inr ⟨x, (hcl x a hx).2⟩))
        exact ⟨this.1, Nat.lt_of_lt_of_le this.2 X.size⟩
    nsCell := fun x e => Nat.lt_irrefl _ (Nat.lt_of_lt_of_le (F.fresh _ (.inr (.inr ⟨x, (hcl x _ e).2⟩))).2 hl)
    av := hP'
    len := by unfold rhoC Jc; simp [F.len]
    tabInj := fun i j x hi hj => by
      rcases tabC_cases hi with ⟨_, h1, h2⟩ | ⟨h1, h2⟩ <;> rcases tabC_cases hj with ⟨_, k1, k2⟩ | ⟨k1, k2⟩
      · exact F.tabInj i j x h1 k1
      · rw [cs.vloc x (List.mem_of_getElem? k2)] at h2; cases h2
      · rw [cs.vloc x (List.mem_of_getElem? h2)] at k2; cases k2
      · have := Nodup.inj cs.vnd h2 k2; omega
    cellNL := hnl
    known := fun i x hi => by
      rcases tabC_cases hi with ⟨_, h1, h2⟩ | ⟨h1, h2⟩
      · refine .inr ⟨relab_free h2, ?_⟩
        obtain ⟨c, hc⟩ := clRev_has (cells := env.cells) (acc := []) (.inl (lookup_mem' h2))
        rw [← e4] at hc
        rw [lookup_of_mem_nodup hnd hc]; rfl
      · exact .inl (relab_local.mpr (cs.vloc x (List.mem_of_getElem? h2)))
    slots := fun i x sl h1 h2 => ?_
    ownInj := fun i j a h _ => nomatch h
    ownSlot := fun i a h => nomatch h
    ownApart := fun i a h => nomatch h
    ownNP := fun i a h => nomatch h }⟩
  unfold rhoC at h2
  rcases tabC_cases h1 with ⟨hi, h3, h4⟩ | ⟨hi, h3⟩
  · rw [List.getElem?_append_left (by rw [List.length_map, F.len]; exact hi), List.getElem?_map, Option.map_eq_some_iff] at h2
    obtain ⟨sl0, h5, h6⟩ := h2
    have hs := F.slots i x sl0 h3 h5
    have hv : (if (relab scope J.sc).names.lookup x = some .local then none else vm x) = vm x := if_neg fun e => by rw [relab_local.mp e] at h4; cases h4
    simp only [hv]
    cases sl0 with
    | unb => subst h6; trivial
    | own xs => subst h6; trivial
    | val d =>
      subst h6
      obtain ⟨v, e, r⟩ := hs
      exact ⟨v, e, rd_moreP hAv X.keep (Nat.le_refl _) r⟩
  · rw [List.getElem?_append_right (by rw [List.length_map, F.len]; exact hi), List.getElem?_map, Option.map_eq_some_iff] at h2
    obtain ⟨_, _, h6⟩ := h2
    subst h6
    trivial

noncomputable def useQ (prog : Program) (w : World) (A : Around) (use : Option (Value → Sem Unit)) (Q : Value → Shared → Prop) (acc : Value) (L : Addr) (s' : Shared) : Prop := match use with
  | none => ∃ m, s'.heap.Ns L m ∧ ∀ h', Heap.SameBut L s'.heap h' → Q acc { s' with heap := h' }
  | some u => W prog w A (u acc) (fun _ s'' => ∃ m, s''.heap.Ns L m ∧ ∀ h', Heap.SameBut L s''.heap h' → Q .none { s'' with heap := h' }) s'
section
variable {prog : Program} {w : World} {A : Around} {s : Shared} {env : Env}
theorem W.comprehension {e : PySem.Expr} {scope : Scope} {pos : Pos} {newAcc first : Sem Value} {g : Comprehension} {gs : List Comprehension} {cl : List (Str × Addr)} {use : Option (Value → Sem Unit)}
    {Q : Value → Shared → Prop} (hcl : clausesOf e = g :: gs) (hclos : closureFor scope env = Pure.pure cl)
    (hkind : scope.kind = .function) (hnames : ∀ x ∈ scope.names, x.2 = .local → scope.names.lookup x.1 = some .local)
    (h : W prog w A first (fun x s₁ => foldedSetIterable g.iter env x = Pure.pure x ∧ W prog w A (pyIter x) (fun it s₂ => W prog w A newAcc (fun acc s₃ =>
      W prog w A (newFunctionEnv scope env.globals cl [] env.qual none .none (some env)) (fun cenv s₄ =>
        C prog w A (.compStart e 0 it acc { cenv with scope := relabel scope env }) (fun _ s' => useQ prog w A use Q acc cenv.locals s') s₄) s₃) s₂) s₁) s) :
    W prog w A (PySem.comprehension e scope env pos newAcc false first use) Q s := by
  unfold PySem.comprehension
  rw [hclos, hcl]
  refine W.bind (W.mono h fun x s₁ ⟨hs, h₁⟩ => W.bind (W.standAt (W.bind (W.of_eq hs (W.pure (W.bind (W.holding (W.mono h₁ fun it s₂ h₂ => ?_))))))))
  have hfin : W prog w A newAcc (fun acc s₃ => W prog w A (newFunctionEnv scope env.globals cl [] env.qual none .none (some env)) (fun cenv s₄ =>
        C prog w A (.compStart e 0 it acc { cenv with scope := relabel scope env }) (fun _ s' => useQ prog w A use Q acc cenv.locals s') s₄) s₃) s₂ := h₂
  cases use with
  | none =>
    simp only [Option.isSome_none, Bool.false_eq_true, if_false]
    refine W.bind (W.mono hfin fun acc s₃ h₃ => W.bind (W.pure (W.bind (W.mono h₃ fun cenv s₄ h₄ => ?_))))
    have hv : ∀ x ∈ (scope.names.filter fun x => (x.2 == .local || x.2 == .cell) && x.1 != (".0" : Str)).reverse, x.2 = .local →
        Env.kindOf { cenv with scope := relabel scope env } x.1 = some .local := fun x hx hl => lookup_relabel_local (hnames x (List.mem_filter.mp (List.mem_reverse.mp hx)).1 hl)
    refine W.holding (W.bind (W.attempt (W.holding (W.run (h₄.mono fun f s' hr => ?_)))))
    obtain ⟨m, hn, hr⟩ := hr
    exact W.bind (W.holding (W.of_any (wpAny_comp_letGo (cenv := { cenv with scope := relabel scope env }) hkind _ s' m hv hn fun h' m' _ hs' => W.pure (hr h' hs'))))
  | some u =>
    simp only [Option.isSome_some, if_true]
    refine W.bind (W.standAt (W.bind (W.mono hfin fun acc s₃ h₃ => W.bind (W.pure (W.bind (W.mono h₃ fun cenv s₄ h₄ => ?_))))))
    have hv : ∀ x ∈ (scope.names.filter fun x => (x.2 == .local || x.2 == .cell) && x.1 != (".0" : Str)).reverse, x.2 = .local →
        Env.kindOf { cenv with scope := relabel scope env } x.1 = some .local := fun x hx hl => lookup_relabel_local (hnames x (List.mem_filter.mp (List.mem_reverse.mp hx)).1 hl)
    have hv' : ∀ x ∈ (scope.names.filter fun x => (x.2 == .local || x.2 == .cell) && x.1 != (".0" : Str)).reverse.drop 1 ++ (scope.names.filter fun x => (x.2 == .local || x.2 == .cell) && x.1 != (".0" : Str)).reverse.take 1,
        x.2 = .local → Env.kindOf { cenv with scope := relabel scope env } x.1 = some .local := fun x hx hl => by
      rcases List.mem_append.mp hx with h1 | h1
      · exact hv x (List.mem_of_mem_drop h1) hl
      · exact hv x (List.mem_of_mem_take h1) hl
    refine W.holding (W.bind (W.attempt (W.holding (W.run (h₄.mono fun f s' hr => ?_)))))
    refine W.bind (W.rule (W.bind (W.holding (W.mono hr fun _ s'' hr' => ?_))))
    obtain ⟨m, hn, hr'⟩ := hr'
    exact W.bind (W.of_any (wpAny_comp_letGo (cenv := { cenv with scope := relabel scope env }) hkind _ s'' m hv' hn fun h' m' _ hs' => W.pure (hr' h' hs')))

theorem C.compStart {e : PySem.Expr} {d : Nat} {it acc : Value} {g : Comprehension} {R : Flow → Shared → Prop} (hg : (clausesOf e)[d]? = some g) (hga : (g.is_async != 0) = false) (hfr : (Code.compStart e d it acc env).isFrame = false)
    (hun : ∀ A : Around, A.under (Code.compStart e d it acc env) = A) (hq : ∀ it, (Code.compLoop e d it acc env).quiet = true)
    (h : W prog w A (pyIter it) (fun it' s' => it' = it ∧ s' = s) s) (hl : C prog w A (.compLoop e d it acc env) R s) : C prog w A (.compStart e d it acc env) R s := by
  refine C.of_tree rfl rfl ?_
  rw [hun]
  show W _ _ A (if (Code.compStart e d it acc env).isFrame then (PySem.compStart e d it acc env).onRaise (leaving env) else (PySem.compStart e d it acc env).onRaise (fun x => do noteFrame x env; PySem.standAt theWindowsPlace)) _ s
  rw [hfr]
  simp only [Bool.false_eq_true, if_false]
  refine W.onRaise ?_
  unfold PySem.compStart
  rw [hg]
  simp only [Option.elim_some, hga, Bool.false_eq_true, if_false]
  have hask : ∀ {β : Type} {k : Setting → Sem β} {Q : β → Shared → Prop}, (∀ x, W prog w A (k x) Q s) → W prog w A (PySem.ask >>= k) Q s := fun hk => W.bind (W.of_any (wpAny_askSetting (hk _)))
  refine hask fun x => ?_
  split
  · first
    | exact W.pure ⟨hq _, hl⟩
    | exact W.bind (W.pure (W.pure ⟨hq _, hl⟩))
  · first
    | exact W.bind (W.rule (W.bind (W.standAt (W.bind (W.mono h fun it' s' ⟨e1, e2⟩ => by subst e1 e2; exact W.pure ⟨hq _, hl⟩)))))
    | exact W.bind (W.rule (W.bind (W.standAt (W.bind (W.mono h fun it' s' ⟨e1, e2⟩ => by subst e1 e2; exact W.bind (W.pure (W.pure ⟨hq _, hl⟩)))))))
end
end Mine

end
section
open PySem PySem.W PySem.Calls PyProof.Rows
set_option Elab.async false
set_option maxRecDepth 100000
namespace Mine

noncomputable def compF (vars : List Str) (f : Rho → Option (List D)) (g : D → Rho → Option Rho) (t : Rho → Option Bool) (em : Rho → Option (List D × Rho)) : Rho → Option (List D) :=
  fun ρ => (f ρ).bind fun ds => (loopC g t em ds (rhoC vars ρ)).bind fun x => if x.1.length ≤ sizeLine then some x.1 else none

/-- the model's turn is this one -/
noncomputable def TurnIs (e : PySem.Expr) (d : Nat) (tgt iter : PySem.Expr) (ifs : List PySem.Expr) (tree : Value → Env → Sem Unit) : Prop :=
  ∀ it acc env, ∃ k, denote table (.compLoop e d it acc env) = (turnOf tgt iter ifs tree (fun it acc env => .compLoop e d it acc env) it acc env).onRaise k

theorem Ext.over {s s' : Shared} {L : Addr} {h' : Heap} (x : Ext s s') (hs : Heap.SameBut L s'.heap h') (hL : s.heap.objs.size ≤ L) : Ext s { s' with heap := h' } :=
  ⟨x.gens, x.os, by show _ ≤ h'.objs.size; rw [hs.1]; exact x.size, fun b o e => hs.extBut b o (fun e' => Nat.lt_irrefl _ (Nat.lt_of_lt_of_le (Heap.lt_size e) (e' ▸ hL))) (x.keep b o e)⟩

section
variable {J : Jd} {scope : Scope} {vars : List Str} {elt tgt iter : PySem.Expr} {ifs : List PySem.Expr} {gs : List Comprehension} {pos : Pos} {tree : Value → Env → Sem Unit} {g : D → Rho → Option Rho} {t : Rho → Option Bool} {em : Rho → Option (List D × Rho)}

theorem FrV.closure (cs : CompSc J scope vars) {env : Env} {P : Avd} {O : Nat → Option Addr} {vm : Str → Option Value} {s : Shared} {ρ : Rho} (F : FrV J.cx J.sc J.tab env P O vm s ρ) : ∀ x, (x, NameKind.free) ∈ scope.names → (env.cells.lookup x).isSome = true := fun x hx => by
  obtain ⟨h1, h2⟩ := cs.free _ hx rfl
  obtain ⟨i, hi⟩ := List.mem_iff_getElem?.mp h1
  rcases F.known i x hi with h | h
  · exact absurd h h2
  · exact h.2

theorem comp_core (cs : CompSc J scope vars) (hturn : TurnIs (.ListComp elt (⟨tgt, iter, ifs, 0⟩ :: gs) scope pos) 0 tgt iter ifs tree) (ht : SAL (Jc J scope vars) tgt g) (hts : TsOk (Jc J scope vars) ifs t) (hem : EmOk (Jc J scope vars) tree em)
    {A : Around} {env : Env} {P : Avd} {O : Nat → Option Addr} {vm : Str → Option Value} {s s₂ : Shared} {ρ ρ' : Rho} {ds ys : List D} {I : Addr} {wr : List Addr} {St : Nat → Heap → Prop} (hA : Room A J.k) (F : FrV J.cx J.sc J.tab env P O vm s ρ) (X : Ext s s₂)
    (wk : Wk J.cx A tgt I wr s₂.heap.objs.size ds (Av env P O) St) (st : St 0 s₂.heap) (hwr : ∀ b ∈ wr, s.heap.objs.size ≤ b ∧ b < s₂.heap.objs.size)
    (h : loopC g t em ds (rhoC vars ρ) = some (ys, ρ')) (hz : ys.length ≤ sizeLine)
    {R : Value → Env → Shared → Prop} (hR : ∀ a (cenv : Env) s' vs n m, a ≠ cenv.locals → s.heap.objs.size ≤ a → s.heap.objs.size ≤ cenv.locals → s'.heap.Ns cenv.locals m → s'.heap.get? a = some { cls := .type "list", data := .seq vs n } → vs.size ≤ sizeLine →
      RdAll J.cx s'.heap (fun b => Av env P O b ∨ b = a ∨ b = cenv.locals) ys vs.toList → Ext s s' → R (.ref a) cenv s') :
    W J.cx.prog J.cx.w A (newList []) (fun acc s₃ => W J.cx.prog J.cx.w A (newFunctionEnv scope env.globals (clRev env.cells scope.names []) [] env.qual none .none (some env)) (fun cenv s₄ =>
      C J.cx.prog J.cx.w A (.compStart (.ListComp elt (⟨tgt, iter, ifs, 0⟩ :: gs) scope pos) 0 (.ref I) acc { cenv with scope := relabel scope env }) (fun _ s' => R acc cenv s') s₄) s₃) s₂ := by
  refine W.of_any (wpAny_newList (W.of_any (wpAny_newFunctionEnv cs.noCell (by intro y hy; simp at hy) (fun h₁ hns₁ hsb₁ => ?_) cs.kind)) (by simp))
  dsimp only at hns₁ hsb₁ ⊢
  generalize hH2 : s₂.heap.push { cls := .type "list", dict := none, data := .seq ([] : List Value).toArray } = H2 at hns₁ hsb₁ ⊢
  have hC : H2.objs.size = s₂.heap.objs.size + 1 := by rw [← hH2, Heap.size_push]
  have hDC : s₂.heap.objs.size ≠ H2.objs.size := by rw [hC]; exact Nat.ne_of_lt (Nat.lt_succ_self _)
  have hCle : s₂.heap.objs.size ≤ H2.objs.size := by rw [hC]; exact Nat.le_succ _
  have below : ∀ b, b < s₂.heap.objs.size → b ≠ H2.objs.size ∧ b ≠ s₂.heap.objs.size := fun b hb => ⟨by rw [hC]; exact Nat.ne_of_lt (Nat.lt_succ_of_lt hb), Nat.ne_of_lt hb⟩
  have old : ∀ b o, s₂.heap.get? b = some o → h₁.get? b = some o := fun b o e => hsb₁.extBut b o (below b (Heap.lt_size e)).1 (Heap.get?_push_of_some _ (hH2 ▸ Heap.get?_push_of_some _ e))
  have hacc : h₁.get? s₂.heap.objs.size = some { cls := .type "list", data := .seq #[] 0 } := hsb₁.extBut _ _ hDC (Heap.get?_push_of_some _ (hH2 ▸ Heap.get?_push_size _ rfl))
  have hh₁ : h₁.objs.size = s₂.heap.objs.size + 2 := by rw [hsb₁.1, Heap.size_push, hC]
  generalize hs4 : ({ s₂ with heap := h₁, toks := s₂.toks + ([] : List (Str × Value)).length } : Shared) = s₄
  have hs4h : s₄.heap = h₁ := by rw [← hs4]
  have hs4s : s₄.heap.objs.size = s₂.heap.objs.size + 2 := by rw [hs4h, hh₁]
  have X24 : Ext s₂ s₄ := ⟨by rw [← hs4], by rw [← hs4], by rw [hs4s]; exact Nat.le_add_right _ _, fun b o e => by rw [hs4h]; exact old b o e⟩
  have X4 := X.trans X24
  have hsle := X.size
  have hL : s.heap.objs.size ≤ H2.objs.size := Nat.le_trans hsle hCle
  have hns4 : s₄.heap.Ns H2.objs.size fun _ => none := by rw [hs4h]; exact hns₁
  generalize hce : ({ newEnv scope H2.objs.size env.globals (clRev env.cells scope.names []) env.qual none .none (some env) builtinsNs with scope := relabel scope env } : Env) = cenv'
  have el : cenv'.locals = H2.objs.size := by rw [← hce]; rfl
  have ec : cenv'.cells = clRev env.cells scope.names [] := by rw [← hce]; rfl
  have es : cenv'.scope = relab scope J.sc := by rw [← hce, ← F.scope]; rfl
  have hclF := F.closure cs
  have hcells : ∀ x c, cenv'.cells.lookup x = some c → env.cells.lookup x = some c := fun x c h => by
    rw [ec] at h
    rcases clRev_mem hclF (lookup_mem' h) with h | h
    · exact nomatch h
    · exact h.2
  have hcellLt : ∀ x c, cenv'.cells.lookup x = some c → c < s.heap.objs.size := fun x c h => (F.fresh c (.inr (.inr ⟨x, hcells x c h⟩))).2
  have hbase := F.baseOf
  obtain ⟨vm', F'⟩ := FrV.comp (P' := fun b => Av env P O b ∨ b ∈ wr ∨ b = s₂.heap.objs.size) cs F X4 (cenv := cenv') es (by rw [← hce]; rfl) (by rw [← hce]; rfl) ec (by rw [el]; exact hL) (by rw [el]; exact hns4)
    (fun a ha => by
      rcases ha with ha | ha | ha
      · exact .inl ha
      · exact .inr (hwr a ha).1
      · exact .inr (by rw [ha]; exact hsle))
    (fun a ha => by
      rw [hs4s]
      rcases ha with ha | ha | ha
      · exact Nat.lt_of_lt_of_le (F.avLt ha) (Nat.le_trans hsle (Nat.le_add_right _ _))
      · exact Nat.lt_of_lt_of_le (hwr a ha).2 (Nat.le_add_right _ _)
      · rw [ha]; exact Nat.lt_add_of_pos_right (by decide))
  have hAcc : Acc J.cx cenv' (fun b => Av env P O b ∨ b ∈ wr ∨ b = s₂.heap.objs.size) noO s₂.heap.objs.size [] s₄ := ⟨⟨#[], 0, by rw [hs4h]; exact hacc, RdAll.nil⟩, .inr (.inr rfl), Nat.le_trans hbase.1 hsle, by rw [el]; exact hDC, fun x e => Nat.lt_irrefl _ (Nat.lt_of_lt_of_le (hcellLt x _ e) hsle)⟩
  have hloop : C J.cx.prog J.cx.w A (.compLoop (.ListComp elt (⟨tgt, iter, ifs, 0⟩ :: gs) scope pos) 0 (.ref I) (.ref s₂.heap.objs.size) cenv') (fun _ s' => R (.ref s₂.heap.objs.size) (newEnv scope H2.objs.size env.globals (clRev env.cells scope.names []) env.qual none .none (some env) builtinsNs) s') s₄ := by
    refine C.mono (comp_loop (c := fun it acc env => .compLoop (.ListComp elt (⟨tgt, iter, ifs, 0⟩ :: gs) scope pos) 0 it acc env) hturn (fun _ _ _ => rfl) (fun _ _ _ => rfl) (fun _ _ _ => rfl) (fun _ _ _ _ => rfl) ht hts hem hA F' hAcc (by simpa using hz) h wk
      (wk.frame _ _ _ st fun b o _ _ e => X24.keep b o e) (fun b hb => .inr (.inl hb)) (fun b hb => Nat.le_trans hbase.1 (hwr b hb).1) ?_ (fun hm => Nat.lt_irrefl _ (hwr _ hm).2) X24.size ?_ ?_) ?_
    · intro b hb hm
      rcases hm with ⟨j, hj⟩ | hm | ⟨x, hx⟩
      · cases hj
      · rw [el] at hm; exact (below b (hwr b hb).2).1 hm
      · exact Nat.lt_irrefl _ (Nat.lt_of_lt_of_le (hcellLt x b hx) (hwr b hb).1)
    · intro b hb
      rcases hb with (hb | hb | hb) | ⟨j, hj⟩ | hb | ⟨x, hx⟩
      · exact .inl hb
      · exact .inr (.inl hb)
      · exact .inr (.inr (by rw [hb]; exact Nat.le_refl _))
      · cases hj
      · exact .inr (.inr (by rw [hb, el]; exact hCle))
      · exact .inl (.inr (.inr (.inr ⟨x, hcells x b hx⟩)))
    · intro b hb
      rcases hb with hb | ⟨j, hj⟩ | hb | ⟨x, hx⟩
      · exact .inr (by rw [hb]; exact Nat.le_refl _)
      · cases hj
      · exact .inr (by rw [hb, el]; exact hCle)
      · exact .inl (.inr (.inr (.inr ⟨x, hcells x b hx⟩)))
    · intro _ s' ⟨O', vm'', F'', acc'', T''⟩
      rw [List.nil_append] at acc''
      obtain ⟨vs, n, ho, hr, hl⟩ := acc''.length
      obtain ⟨m, hm, _⟩ := F''.ns
      rw [el] at hm
      refine hR s₂.heap.objs.size (newEnv scope H2.objs.size env.globals (clRev env.cells scope.names []) env.qual none .none (some env) builtinsNs) s' vs n m hDC hsle hL hm ho (by rw [hl]; exact hz) (hr.weak fun b hb => ?_) ?_
      · rcases hb with hb | hb | hb
        · exact .inl (.inl hb)
        · exact .inl (.inr (.inr hb))
        · exact .inr (.inr (.inl (by rw [el]; exact hb)))
      · refine ⟨T''.gens.trans X4.gens, T''.os.trans X4.os, Nat.le_trans X4.size T''.size, fun b o e => T''.keep b o (fun hm => ?_) (fun hm => ?_) (X4.keep b o e)⟩
        · have hlt := Heap.lt_size e
          rcases List.mem_cons.mp hm with hm | hm
          · exact Nat.lt_irrefl _ (Nat.lt_of_lt_of_le hlt (by rw [hm]; exact hsle))
          · exact Nat.lt_irrefl _ (Nat.lt_of_lt_of_le hlt (hwr b hm).1)
        · have hlt := Heap.lt_size e
          rcases hm with ⟨j, hj⟩ | hm
          · cases hj
          · exact Nat.lt_irrefl _ (Nat.lt_of_lt_of_le hlt (by rw [hm, el]; exact hL))
  exact C.compStart rfl rfl rfl (fun _ => rfl) (fun _ => rfl) (wk.self 0 s₄ (wk.frame _ _ _ st fun b o _ _ e => X24.keep b o e)) hloop

theorem CompSc.locals (cs : CompSc J scope vars) : ∀ x ∈ scope.names, x.2 = .local → scope.names.lookup x.1 = some .local := fun x hx e => lookup_of_mem_nodup cs.nodup (by rw [← e]; exact hx)

theorem sef_comp {f : Rho → Option (List D)} (cs : CompSc J scope vars) (hturn : TurnIs (.ListComp elt (⟨tgt, iter, ifs, 0⟩ :: gs) scope pos) 0 tgt iter ifs tree) (hi : SI J tgt iter f) (ht : SAL (Jc J scope vars) tgt g) (hts : TsOk (Jc J scope vars) ifs t) (hem : EmOk (Jc J scope vars) tree em) :
    SEF J (.ListComp elt (⟨tgt, iter, ifs, 0⟩ :: gs) scope pos) (compF vars f g t em) := fun A env P O vm s ρ ys hA F h => by
  unfold compF at h
  rw [Option.bind_eq_some_iff] at h
  obtain ⟨ds, hds, h⟩ := h
  rw [Option.bind_eq_some_iff] at h
  obtain ⟨⟨ys', ρ'⟩, hl, h⟩ := h
  split at h
  · rename_i hz
    cases h
    rw [eval_ListComp]
    refine W.comprehension (use := none) rfl (closure_ok (F.closure cs)) cs.kind cs.locals (W.mono (hi A env P O vm s ρ ds hA F hds) fun x s₁ ⟨hf, h₁⟩ => ⟨hf, W.mono h₁ fun it s₂ ⟨X, _, I, wr, St, e, wk, st, hwr⟩ => ?_⟩)
    subst e
    refine comp_core cs hturn ht hts hem hA F X wk st hwr hl hz (R := fun acc cenv s' => useQ J.cx.prog J.cx.w A none _ acc cenv.locals s') fun a cenv s' vs n m hac ha hc hn ho hvz hr X' => ?_
    refine ⟨m, hn, fun h' hs => ?_⟩
    have hk : ∀ b o, b ≠ cenv.locals → s'.heap.get? b = some o → h'.get? b = some o := fun b o hb e => hs.extBut b o hb e
    refine ⟨X'.over hs hc, a, vs, n, rfl, ha, hk a _ hac ho, hvz, hr.mono (fun b o hb e => hk b o (fun e' => hb (.inr (.inr e'))) e) fun b hb => .inl (hb.imp id .inl)⟩
  · cases h

noncomputable def listF (f : Rho → Option (List D)) : Rho → Option D := fun ρ => (f ρ).map .list
theorem SEF.se {e : PySem.Expr} {f : Rho → Option (List D)} (h : SEF J e f) : SE J e (listF f) := fun A env P O vm s ρ d hA F hd => by
  unfold listF at hd
  rw [Option.map_eq_some_iff] at hd
  obtain ⟨ds, hds, hd⟩ := hd
  subst hd
  refine W.mono (h A env P O vm s ρ ds hA F hds) fun v s₁ ⟨X, a, vs, n, e1, e2, e3, e4, e5⟩ => ⟨X, ?_⟩
  rw [Rd]
  exact ⟨a, vs, n, e1, e3, F.new e2, e4, e5.weak fun b hb => .inl hb⟩

end
end Mine

end
section
open PySem PySem.W PySem.Calls PyProof.Rows
set_option Elab.async false
set_option maxRecDepth 100000
namespace Mine

noncomputable abbrev lastT (elt : PySem.Expr) : Value → Env → Sem Unit := fun acc env => do let _ ← PySem.call (.builtin "list.append") [acc, ← eval elt env]
theorem turn_one {elt tgt iter : PySem.Expr} {ifs : List PySem.Expr} {scope : Scope} {pos : Pos} : TurnIs (.ListComp elt [⟨tgt, iter, ifs, 0⟩] scope pos) 0 tgt iter ifs (lastT elt) := fun it acc env => ⟨fun x => do noteFrame x env; theTreesLotGoes x, by
  show (compTurn (.ListComp elt [⟨tgt, iter, ifs, 0⟩] scope pos) 0 it acc env).onRaise _ = _
  congr 1⟩

noncomputable abbrev nestT (e : PySem.Expr) (iter : PySem.Expr) : Value → Env → Sem Unit := fun acc env => do
  let x ← eval iter env
  standAt iter.pos
  let x ← foldedSetIterable iter env x
  let _ ← runOwn (.compStart e 1 (← holding [x] (pyIter x)) acc env) env
theorem turn_two0 {elt tgt iter tgt2 iter2 : PySem.Expr} {ifs ifs2 : List PySem.Expr} {scope : Scope} {pos : Pos} :
    TurnIs (.ListComp elt [⟨tgt, iter, ifs, 0⟩, ⟨tgt2, iter2, ifs2, 0⟩] scope pos) 0 tgt iter ifs (nestT (.ListComp elt [⟨tgt, iter, ifs, 0⟩, ⟨tgt2, iter2, ifs2, 0⟩] scope pos) iter2) := fun it acc env => ⟨fun x => do noteFrame x env; theTreesLotGoes x, by
  show (compTurn (.ListComp elt [⟨tgt, iter, ifs, 0⟩, ⟨tgt2, iter2, ifs2, 0⟩] scope pos) 0 it acc env).onRaise _ = _
  congr 1
  unfold turnOf compTurn
  simp only [bind_assoc]
  rfl⟩
theorem turn_two1 {elt tgt iter tgt2 iter2 : PySem.Expr} {ifs ifs2 : List PySem.Expr} {scope : Scope} {pos : Pos} :
    TurnIs (.ListComp elt [⟨tgt, iter, ifs, 0⟩, ⟨tgt2, iter2, ifs2, 0⟩] scope pos) 1 tgt2 iter2 ifs2 (lastT elt) := fun it acc env => ⟨fun x => do noteFrame x env; theTreesLotGoes x, by
  show (compTurn (.ListComp elt [⟨tgt, iter, ifs, 0⟩, ⟨tgt2, iter2, ifs2, 0⟩] scope pos) 1 it acc env).onRaise _ = _
  congr 1⟩

noncomputable def nestE (f : Rho → Option (List D)) (g : D → Rho → Option Rho) (t : Rho → Option Bool) (em : Rho → Option (List D × Rho)) : Rho → Option (List D × Rho) := fun ρ => (f ρ).bind fun ds => loopC g t em ds ρ
theorem em_nest {J : Jd} {elt tgt2 iter2 : PySem.Expr} {ifs2 : List PySem.Expr} {c1 : Comprehension} {scope : Scope} {pos : Pos} {tree : Value → Env → Sem Unit} {f : Rho → Option (List D)} {g : D → Rho → Option Rho} {t : Rho → Option Bool} {em : Rho → Option (List D × Rho)}
    (hturn : TurnIs (.ListComp elt [c1, ⟨tgt2, iter2, ifs2, 0⟩] scope pos) 1 tgt2 iter2 ifs2 tree) (hi : SI J tgt2 iter2 f) (ht : SAL J tgt2 g) (hts : TsOk J ifs2 t) (hem : EmOk J tree em) :
    EmOk J (nestT (.ListComp elt [c1, ⟨tgt2, iter2, ifs2, 0⟩] scope pos) iter2) (nestE f g t em) := fun A env P O vm s ρ a zs ys ρ' hA F hacc hz h => by
  unfold nestE at h
  rw [Option.bind_eq_some_iff] at h
  obtain ⟨ds, hds, h⟩ := h
  refine W.bind (W.mono (hi A env P O vm s ρ ds hA F hds) fun x s₁ ⟨hf, h₁⟩ => W.bind (W.standAt ?_))
  rw [hf]
  refine W.bind (W.pure (W.bind (W.holding (W.mono h₁ fun it s₂ ⟨X, _, I, wr, St, e, wk, st, hwr⟩ => ?_))))
  subst e
  refine W.bind (W.runOwn ?_)
  have F2 : FrV J.cx J.sc J.tab env (fun b => P b ∨ b ∈ wr) O vm s₂ ρ := F.moreP X fun b hb => hb.imp id fun hw => hwr b hw
  have acc2 : Acc J.cx env (fun b => P b ∨ b ∈ wr) O a zs s₂ := by
    obtain ⟨vs, n, h1, h2⟩ := hacc.obj
    refine ⟨⟨vs, n, X.keep _ _ h1, rdAll_moreP (N := s.heap.objs.size) (fun b hb => ?_) X.keep (Nat.le_refl _) h2⟩, .inl hacc.inP, hacc.above, hacc.nm⟩
    rcases hb with (hb | hb) | hb
    · exact .inl (.inl hb)
    · exact .inr (hwr b hb).1
    · exact .inl (.inr hb)
  have hloop := comp_loop (c := fun it acc env => .compLoop (.ListComp elt [c1, ⟨tgt2, iter2, ifs2, 0⟩] scope pos) 1 it acc env) (A := A) (N := s₂.heap.objs.size) (U := Av env P O) (St := St) (I := I) (ds := ds) hturn (fun _ _ _ => rfl) (fun _ _ _ => rfl) (fun _ _ _ => rfl) (fun _ _ _ _ => rfl) ht hts hem hA F2 acc2 hz h wk st (fun b hb => .inr hb)
    (fun b hb => Nat.le_trans F.baseOf.1 (hwr b hb).1) (fun b hb hm => Nat.lt_irrefl _ (Nat.lt_of_lt_of_le (F.fresh b hm).2 (hwr b hb).1)) (fun hm => Nat.lt_irrefl _ (Nat.lt_of_lt_of_le (F.av a hacc.inP) (hwr a hm).1)) (Nat.le_refl _)
    (fun b hb => by
      rcases hb with (hb | hb) | hb
      · exact .inl (.inl hb)
      · exact .inr (.inl hb)
      · exact .inl (.inr hb))
    (fun b hb => by
      rcases hb with hb | hb
      · exact .inl (.inl (hb ▸ hacc.inP))
      · exact .inl (.inr hb))
  refine C.compStart rfl rfl rfl (fun _ => rfl) (fun _ => rfl) (wk.self 0 s₂ st) (hloop.mono fun _ s₃ ⟨O', vm', F', acc', T'⟩ => W.pure ⟨O', vm', F'.lessP fun b hb => .inl hb, ?_, ?_⟩)
  · obtain ⟨vs, n, h1, h2⟩ := acc'.obj
    exact ⟨⟨vs, n, h1, h2.weak fun b hb => hb.imp .inl id⟩, hacc.inP, hacc.above, hacc.nm⟩
  · refine ⟨T'.gens.trans X.gens, T'.os.trans X.os, Nat.le_trans X.size T'.size, fun b o hb hn e => T'.keep b o (fun hm => ?_) hn (X.keep b o e), fun j b e => (T'.own j b e).imp id fun h => Nat.le_trans X.size h⟩
    rcases List.mem_cons.mp hm with hm | hm
    · exact hb (by rw [hm]; exact List.mem_cons_self)
    · exact Nat.lt_irrefl _ (Nat.lt_of_lt_of_le (Heap.lt_size e) (hwr b hm).1)
end Mine

end
section
open PySem PySem.W PySem.Calls PyProof.Rows
set_option Elab.async false
set_option maxRecDepth 100000
namespace Mine

noncomputable def ownsTup (n : String) : Bool := ["enumerate", "zip", "dict_itemiterator", "dict_reverseitemiterator", "odict_iterator", "itertools.zip_longest", "itertools.pairwise"].contains n

theorem go_skip {prog : Program} {w : World} {A : Around} {s : Shared} {tgt : PySem.Expr} {I : Addr} {v : Value} {o : Obj} {n : String} {Q : Unit → Shared → Prop} (ho : s.heap.get? I = some o) (hc : o.cls = .type n) (hn : ownsTup n = false) (h : Q () s) :
    W prog w A (letOwnedTupleGo tgt (.ref I) v) Q s := by
  refine W.of_any ?_
  unfold letOwnedTupleGo
  have fin : ∀ a, wpAny (model prog w) A (do
      let o ← load I
      match o.cls, o.data with
      | .type n, .fields vs =>
        if ["enumerate", "zip", "dict_itemiterator", "dict_reverseitemiterator", "odict_iterator", "itertools.zip_longest", "itertools.pairwise"].contains n && vs[0]? == some (rawInt a) then
          rule "for.unpacks-the-owned-tuple"
          updateField I 0 .none
      | _, _ => pure () : Sem Unit) Q (fun _ _ => False) s := fun a => by
    refine wpAny_bind (wpAny_load ho ?_)
    rw [hc]
    split
    · rename_i n' vs e1 e2
      cases e1
      rw [if_neg]
      · exact wpAny_pure h
      · intro hh
        have : ownsTup n = true := (Bool.and_eq_true_iff.mp hh).1
        rw [hn] at this
        cases this
    · exact wpAny_pure h
  cases tgt <;> first | exact wpAny_pure h | (cases v <;> first | exact wpAny_pure h | exact fin _)

noncomputable abbrev Vinf (U : Avd) (wr : List Addr) (N : Nat) : Avd := fun a => U a ∨ a ∈ wr ∨ N ≤ a

theorem Wk.of {cx : Cx} {A : Around} {tgt : PySem.Expr} {I : Addr} {fp wr : List Addr} {N n : Nat} {ds : List D} {U : Avd} {Pv : Nat → Value → Prop} {St0 : Nat → Heap → Prop} (Wl : Walks cx.prog cx.w A I fp wr n Pv St0) (hn : ds.length = n) (hfp : ∀ b ∈ fp, ¬ U b ∧ b < N)
    (Dt : Heap → Prop) (hDt : ∀ h h', Dt h → (∀ a o, ¬ Vinf U wr N a → h.get? a = some o → h'.get? a = some o) → Dt h') (hrd : ∀ h (i : Nat) v d, Dt h → Pv i v → ds[i]? = some d → Rd cx h (Vinf U wr N) d v)
    (hcls : ∀ i h, St0 i h → ∃ o nm, h.get? I = some o ∧ o.cls = .type nm ∧ ownsTup nm = false) : Wk cx A tgt I wr N ds U (fun i h => St0 i h ∧ Dt h) where
  frame := fun i h h' st hk => ⟨Wl.frame i h h' st.1 fun b hb o e => hk b o (hfp b hb).1 (hfp b hb).2 e, hDt h h' st.2 fun a o ha e => hk a o (fun h => ha (.inl h)) (Nat.lt_of_not_le fun h => ha (.inr (.inr h))) e⟩
  item := fun i d s V Q hd st hb hV hQ => by
    have hi : i < n := by
      rw [← hn]
      rcases Nat.lt_or_ge i ds.length with h | h
      · exact h
      · rw [List.getElem?_eq_none h] at hd; cases hd
    refine W.of_anyS (Wl.item i s _ _ hi st.1 fun v h' tk hP hst hk hsz => ⟨v, rfl, ?_⟩)
    obtain ⟨o, nm, ho, hc, hnm⟩ := hcls _ _ hst
    have hdt : Dt h' := hDt _ _ st.2 fun a o ha e => hk a o (fun h => ha (.inr (.inl h))) e
    exact go_skip ho hc hnm (hQ v _ ⟨rfl, rfl, hsz, hk⟩ ((hrd h' i v d hdt hP hd).weak fun a ha => (hV a ha).1) ⟨hst, hdt⟩)
  done := fun s Q st hb hQ => W.of_anyS (Wl.done s _ _ (hn ▸ st.1) fun h' tk hk hsz => ⟨rfl, hQ _ ⟨rfl, rfl, hsz, hk⟩⟩)
  self := fun i s st => W.of_any (Wl.self i s _ _ st.1 ⟨rfl, rfl⟩)

noncomputable def notSetE : PySem.Expr → Bool
  | .Set .. => false
  | _ => true
theorem folded_ok {e : PySem.Expr} (h : notSetE e = true) (env : Env) (x : Value) : foldedSetIterable e env x = pure x := by
  cases e <;> first | rfl | cases h

noncomputable def asList : D → Option (List D)
  | .list ds => some ds
  | _ => none
noncomputable def itE (k : D → Option (List D)) (f : Rho → Option D) : Rho → Option (List D) := fun ρ => (f ρ).bind k

theorem si_list {J : Jd} {tgt e : PySem.Expr} {f : Rho → Option D} (he : SE J e f) (hs : notSetE e = true := by rfl) : SI J tgt e (itE asList f) := fun A env P O vm s ρ ds hA F h => by
  unfold itE at h
  rw [Option.bind_eq_some_iff] at h
  obtain ⟨d, hd, h⟩ := h
  unfold asList at h
  split at h
  · rename_i ds'
    cases h
    refine W.mono (he A env P O vm s ρ _ hA F hd) fun x s₁ ⟨X, r⟩ => ⟨folded_ok hs env x, ?_⟩
    rw [Rd] at r
    obtain ⟨l, vs, n, rfl, ho, hna, hz, hr⟩ := r
    refine W.of_any (wpAny_pyIter_list ⟨_, ho, rfl, n, rfl⟩ ?_)
    have hll := hr.length
    rw [Array.length_toList] at hll
    have hlt := Heap.lt_size ho
    have F1 := F.ext X
    have hsz : (s₁.heap.push { cls := .type "list_iterator", data := .fields #[.ref l, .int 0 0] }).objs.size = s₁.heap.objs.size + 1 := Heap.size_push ..
    have X2 : Ext s₁ { s₁ with heap := s₁.heap.push { cls := .type "list_iterator", data := .fields #[.ref l, .int 0 0] } } := Ext.push _ _
    refine ⟨X.trans X2, by rw [← hll]; exact hz, s₁.heap.objs.size, [s₁.heap.objs.size], _, rfl, Wk.of (Walks.list hA.1 s₁.heap.objs.size l (Nat.ne_of_lt hlt) vs) hll.symm ?_
      (fun h => RdAll J.cx h (Vinf (Av env P O) [s₁.heap.objs.size] (s₁.heap.push { cls := .type "list_iterator", data := .fields #[.ref l, .int 0 0] }).objs.size) ds vs.toList) (fun h h' r hk => r.mono hk fun _ x => .inl x) ?_ ?_, ⟨⟨⟨_, Heap.get?_push_size _ rfl, rfl, rfl⟩, ⟨_, Heap.get?_push_of_some _ ho, rfl, n, rfl⟩⟩, ?_⟩, ?_⟩
    · intro b hb
      rw [hsz]
      simp at hb
      rcases hb with hb | hb
      · rw [hb]; exact ⟨F1.new (Nat.le_refl _), Nat.lt_succ_self _⟩
      · rw [hb]; exact ⟨hna, Nat.lt_succ_of_lt hlt⟩
    · intro h i v d r hv hd
      obtain ⟨v', e, q⟩ := r.get hd
      rw [← Array.getElem?_toList, e] at hv
      cases hv
      exact q
    · rintro i h ⟨⟨o, h1, h2, _⟩, _⟩
      exact ⟨o, _, h1, h2, by decide⟩
    · refine hr.mono (fun a o _ e => X2.keep a o e) fun a ha => ?_
      rcases ha with ha | ha | ha
      · exact .inl ha
      · simp at ha; rw [ha]; exact .inr (get_none (Nat.le_refl _))
      · rw [hsz] at ha; exact .inr (get_none (Nat.le_of_succ_le ha))
    · intro b hb
      simp at hb
      rw [hb]
      exact ⟨X.size, by show _ < (s₁.heap.push _).objs.size; rw [hsz]; exact Nat.lt_succ_self _⟩
  · cases h
end Mine

end
section
open PySem PySem.W PySem.Calls PyProof.Rows
set_option Elab.async false
set_option maxRecDepth 100000
namespace Mine

noncomputable def theCode : Array Nat := #[14, 4, 0, 1, 4294967295, 7, 14, 17, 0, 24, 6, 1, 4294967295, 20, 91, 1, 17, 1, 15, 37, 17, 17, 2, 16, 91, 26, 5, 0, 4294967295, 2, 1, 16, 93, 17, 3, 15, 20, 18, 17, 4, 16, 91, 24, 6, 0, 4294967295, 20, 93, 1, 6, 5, 17, 5, 15, 2, 0, 1]

structure Cfg where
  T : Array Nat
  n : Nat
  start : Nat
  outer : Bool
  marks : Array (Option Nat)
  lm : Int
  li : Int
  frames : List Sre.Frame
  w : Nat
  pc : Nat
  pos : Nat
  handed : Nat
  ans : Option Bool

noncomputable def mkc (c : Cfg) (seen : Sre.Seen) : Sre.M :=
  { code := theCode, text := c.T, lim := c.n, start := c.start, lastStart := c.n, pc := c.pc, pos := c.pos, handed := c.handed, outermost := c.outer, marks := c.marks, lastmark := c.lm, lastindex := c.li, frames := c.frames, weight := c.w, answer := c.ans, seen := seen }

noncomputable def iter : Nat → Sre.M → Sre.M
  | 0, m => m
  | k + 1, m => iter k m.step
theorem iter_add (a b : Nat) (m : Sre.M) : iter (a + b) m = iter b (iter a m) := by
  induction a generalizing m with
  | zero => rw [Nat.zero_add]; rfl
  | succ a ih => rw [Nat.succ_add]; exact ih m.step

noncomputable def Go (k : Nat) (c c' : Cfg) : Prop := ∀ seen, ∃ seen', iter k (mkc c seen) = mkc c' seen'
theorem Go.trans {a b : Nat} {c c' c'' : Cfg} (x : Go a c c') (y : Go b c' c'') : Go (a + b) c c'' := fun seen => by
  obtain ⟨s1, e1⟩ := x seen
  obtain ⟨s2, e2⟩ := y s1
  exact ⟨s2, by rw [iter_add, e1, e2]⟩
theorem Go.refl (c : Cfg) : Go 0 c c := fun seen => ⟨seen, rfl⟩

section
variable (T : Array Nat) (n st : Nat) (o : Bool) (mk : Array (Option Nat)) (lm li : Int) (fs : List Sre.Frame) (w pos hd : Nat)

end
end Mine

end
section
open PySem PySem.W PySem.Calls PyProof.Rows
set_option Elab.async false
set_option maxRecDepth 100000
namespace Mine

section
variable (T : Array Nat) (n st : Nat) (o : Bool) (mk : Array (Option Nat)) (lm li : Int) (fs : List Sre.Frame) (w pos hd : Nat)

end
end Mine

end
section
open PySem PySem.W PySem.Calls PyProof.Rows
set_option Elab.async false
set_option maxRecDepth 100000
namespace Mine

/-! what the one pattern finds -/
noncomputable def closeAt : List Nat → Option Nat
  | [] => none
  | c :: r => if c = 93 then some 0 else if c = 10 then none else (closeAt r).map (· + 1)
section
variable {l : List Nat}
/-- the machine comes from c to a like of c' -/
noncomputable def Rch (b : Nat) (c : Cfg) (Q : Cfg → Prop) : Prop := ∃ k c', k ≤ b ∧ Go k c c' ∧ Q c'
theorem Rch.step {a b : Nat} {c c1 : Cfg} {Q : Cfg → Prop} (h : Go a c c1) (r : Rch b c1 Q) : Rch (a + b) c Q := let ⟨k, c', h1, h2, h3⟩ := r; ⟨a + k, c', by omega, h.trans h2, h3⟩
theorem Rch.mono {a b : Nat} {c : Cfg} {Q Q' : Cfg → Prop} (r : Rch a c Q) (h : a ≤ b) (hq : ∀ c, Q c → Q' c) : Rch b c Q' := let ⟨k, c', h1, h2, h3⟩ := r; ⟨k, c', by omega, h2, hq _ h3⟩
theorem Rch.bind {a b : Nat} {c : Cfg} {Q Q' : Cfg → Prop} (r : Rch a c Q) (h : ∀ c', Q c' → Rch b c' Q') : Rch (a + b) c Q' := by
  obtain ⟨k, c', h1, h2, h3⟩ := r
  obtain ⟨k', c'', g1, g2, g3⟩ := h c' h3
  exact ⟨k + k', c'', by omega, h2.trans g2, g3⟩
theorem Rch.done {c : Cfg} {Q : Cfg → Prop} (h : Q c) : Rch 0 c Q := ⟨0, c, Nat.le_refl _, Go.refl c, h⟩

variable (st : Nat) (o : Bool) (li : Int) (fs : List Sre.Frame) (w : Nat)

end

noncomputable def MarksOk (mk : Array (Option Nat)) (lm : Int) (b e g : Nat) : Prop :=
  (g = 1 ∧ lm = 1 ∧ mk.getD 0 none = some b ∧ mk.getD 1 none = some e) ∨
  (g = 2 ∧ lm = 3 ∧ mk.getD 0 none = none ∧ mk.getD 1 none = none ∧ mk.getD 2 none = some b ∧ mk.getD 3 none = some e) ∨
  (g = 3 ∧ lm = 5 ∧ mk.getD 0 none = none ∧ mk.getD 1 none = none ∧ mk.getD 2 none = none ∧ mk.getD 3 none = none ∧ mk.getD 4 none = some b ∧ mk.getD 5 none = some e)
noncomputable def Ends (l : List Nat) (x : Option (Nat × Nat × Nat)) (c : Cfg) : Prop := match x with
  | some (b, e, g) => ∃ o mk lm pc pos, c = ⟨l.toArray, l.length, b, o, mk, lm, (g : Int), [], 0, pc, pos, e, some true⟩ ∧ MarksOk mk lm b e g
  | none => ∃ st o mk lm li pc pos hd, c = ⟨l.toArray, l.length, st, o, mk, lm, li, [], 0, pc, pos, hd, some false⟩

section
variable {l : List Nat}
end
end Mine

end
section
open PySem PySem.W PySem.Calls PyProof.Rows
set_option Elab.async false
set_option maxRecDepth 100000
namespace Mine
open PySem.Builtin.Re

end Mine

end
section
open PySem PySem.W PySem.Calls PyProof.Rows
set_option Elab.async false
set_option maxRecDepth 100000
namespace Mine
open Sem (wp)

section
variable {prog : Program} {w : World} {A : Around} {E : Value → Shared → Prop} {h : Heap} {g : Array GenState} {d : Drawn} {t : Nat} {os : OsState} {a : Addr} {o : Obj}
end
end Mine

end
section
open PySem PySem.W PySem.Calls PyProof.Rows
set_option Elab.async false
set_option maxRecDepth 100000
namespace Mine
open PySem.Builtin.Re
open Sem (wp)

section
variable {prog : Program} {w : World} {A : Around} {E : Value → Shared → Prop} {s : Shared}
structure PatAt (h : Heap) (pat ct : Addr) : Prop where
  obj : ∃ p0 p1 p3 p4, h.get? pat = some { cls := .type "re.Pattern", data := .fields #[p0, p1, rawInt 3, p3, p4, .ref ct, rawInt 0] }
  code : ∃ n, h.get? ct = some { cls := .type "tuple", data := .seq (theCode.map fun w => (rawInt (w : Nat) : Value)) n }

noncomputable abbrev scanObj (pat : Addr) (l : List Nat) (tk : Tok) (st : Int) : Obj := { cls := .type "_sre.SRE_Scanner", data := .fields #[.ref pat, .str ⟨l.toArray⟩ tk, rawInt st, rawInt 0, rawInt (l.length : Nat), .bool false] }

end
end Mine

end
section
open PySem PySem.W PySem.Calls PyProof.Rows
set_option Elab.async false
set_option maxRecDepth 100000
namespace Mine
open PySem.Builtin.Re
open Sem (wp)

section
variable {prog : Program} {w : World} {A : Around} {E : Value → Shared → Prop} {s : Shared}
end
end Mine

end
section
open PySem PySem.W PySem.Calls PyProof.Rows
set_option Elab.async false
set_option maxRecDepth 100000
namespace Mine
open PySem.Builtin.Re
open Sem (wp)

section
variable {prog : Program} {w : World} {A : Around} {E : Value → Shared → Prop} {s : Shared}
end

/-! runs that may raise, in contexts whose callers run no callable iterator -/
noncomputable def W1 {α : Type} (prog : Program) (w : World) (A : Around) (t : Sem α) (Q : α → Shared → Prop) (E : Value → Shared → Prop) (s : Shared) : Prop :=
  ∀ Γ p, Γ.In A → CleanB Γ → Sem.wp (Mg prog w) Γ t (fun a _ s' => Q a s') (fun e _ s' => E e s') p s
noncomputable def C1 (prog : Program) (w : World) (A : Around) (c : Code) (R : Result → Shared → Prop) (s : Shared) : Prop :=
  ∀ Γ p, Γ.code = c → Γ.Below A → CleanB Γ → wpCode (Mg prog w) Γ R p s
section
variable {α β : Type} {prog : Program} {w : World} {A : Around} {E : Value → Shared → Prop} {s : Shared}
theorem W1.of_any {t : Sem α} {Q : α → Shared → Prop} (h : wpAny (Mg prog w) A t Q E s) : W1 prog w A t Q E s := fun Γ p hΓ _ => h Γ p hΓ
theorem W1.mono {t : Sem α} {Q Q' : α → Shared → Prop} {E' : Value → Shared → Prop} (h : W1 prog w A t Q E s) (hQ : ∀ a s', Q a s' → Q' a s') (hE : ∀ a s', E a s' → E' a s') : W1 prog w A t Q' E' s :=
  fun Γ p hΓ hc => Sem.wp_mono _ Γ t (fun a _ s => hQ a s) (fun e _ s => hE e s) p s (h Γ p hΓ hc)
theorem W1.bind {m : Sem α} {f : α → Sem β} {Q : β → Shared → Prop} (h : W1 prog w A m (fun a s' => W1 prog w A (f a) Q E s') E s) : W1 prog w A (m >>= f) Q E s := fun Γ p hΓ hc => by
  rw [Sem.wp_bind']
  exact Sem.wp_mono _ Γ m (fun a p' s' h' => h' Γ p' hΓ hc) (fun _ _ _ h' => h') p s (h Γ p hΓ hc)
theorem W1.attempt {m : Sem α} {Q : Except Value α → Shared → Prop} (h : W1 prog w A m (fun a => Q (.ok a)) (fun e => Q (.error e)) s) : W1 prog w A m.attempt Q E s := fun Γ p hΓ hc => by
  rw [Sem.wp_attempt]
  exact h Γ p hΓ hc
theorem W1.holding {vs : List Value} {m : Sem α} {Q : α → Shared → Prop} (h : W1 prog w A m Q E s) : W1 prog w A (PySem.holding vs m) Q E s :=
  fun Γ p hΓ hc => by rw [Sem.wp_holding]; exact h Γ p hΓ hc
theorem W1.pure {a : α} {Q : α → Shared → Prop} (h : Q a s) : W1 prog w A (Pure.pure a) Q E s := fun _ _ _ _ => h
theorem W1.stack {Q : List (Code × Pos) → Shared → Prop} (h : ∀ c p below, (∀ x ∈ below, notCI x.1 = true) → Q ((c, p) :: below) s) : W1 prog w A PySem.stack Q E s := fun Γ p _ hc => by
  show Q ((Γ.code, p) :: Γ.below) s
  exact h _ _ _ hc
theorem C1.of_tree {c : Code} {R : Result → Shared → Prop} (hask : isAsk c = false)
    (h : W1 prog w (A.under c) (denote table c) (fun fin s' => match fin with | .done f => R (.ok f) s' | .again c' => c'.quiet = true ∧ C1 prog w A c' R s') (fun e s' => R (.error e) s') s) : C1 prog w A c R s := fun Γ p hc hΓ hb => by
  rw [wpCode_iff_wp, hc]
  show Sem.wp (Mg prog w) Γ (denG c) _ _ p s
  rw [denG_of_not hask]
  refine Sem.wp_mono _ Γ _ (fun fin p' s' h' => ?_) (fun _ _ _ h' => h') p s (h Γ p (hc ▸ hΓ.in) hb)
  cases fin with
  | done f => exact h'
  | again c' => exact ⟨h'.1, h'.2 (Γ.goto c') p' rfl (hΓ.goto c') hb⟩

end
end Mine

end
section
open PySem PySem.W PySem.Calls PyProof.Rows
set_option Elab.async false
set_option maxRecDepth 100000
namespace Mine
open PySem.Builtin.Re
open Sem (wp)

noncomputable def WE {α : Type} (prog : Program) (w : World) (A : Around) (t : Sem α) (Q : α → Shared → Prop) (E : Value → Shared → Prop) (s : Shared) : Prop :=
  ∀ Γ p, Γ.In A → Clean Γ → Sem.wp (Mg prog w) Γ t (fun a _ s' => Q a s') (fun e _ s' => E e s') p s
section
variable {α β : Type} {prog : Program} {w : World} {A : Around} {E : Value → Shared → Prop} {s : Shared}
theorem WE.of_any {t : Sem α} {Q : α → Shared → Prop} (h : wpAny (Mg prog w) A t Q E s) : WE prog w A t Q E s := fun Γ p hΓ _ => h Γ p hΓ
theorem WE.bind {m : Sem α} {f : α → Sem β} {Q : β → Shared → Prop} (h : WE prog w A m (fun a s' => WE prog w A (f a) Q E s') E s) : WE prog w A (m >>= f) Q E s := fun Γ p hΓ hc => by
  rw [Sem.wp_bind']
  exact Sem.wp_mono _ Γ m (fun a p' s' h' => h' Γ p' hΓ hc) (fun _ _ _ h' => h') p s (h Γ p hΓ hc)
theorem WE.holding {vs : List Value} {m : Sem α} {Q : α → Shared → Prop} (h : WE prog w A m Q E s) : WE prog w A (PySem.holding vs m) Q E s :=
  fun Γ p hΓ hc => by rw [Sem.wp_holding]; exact h Γ p hΓ hc
theorem WE.pure {a : α} {Q : α → Shared → Prop} (h : Q a s) : WE prog w A (Pure.pure a) Q E s := fun _ _ _ _ => h
theorem WE.call {f : Value} {pos : List Value} {Q : Value → Shared → Prop} (hc : C1 prog w A (.call f ⟨pos, []⟩) (fun r s' => match r with | .ok (.ret v) => Q v s' | .ok _ => False | .error e => E e s') s) :
    WE prog w A (PySem.call f pos) Q E s := fun Γ p hΓ hcl => by
  unfold PySem.call
  rw [Sem.wp_runValue]
  exact hc _ p rfl (by have := hΓ.enter (.call f ⟨pos, []⟩) none p (by intro x; cases x); exact this) (clean_enter hcl _ none p)
theorem WE.mono {t : Sem α} {Q Q' : α → Shared → Prop} (h : WE prog w A t Q E s) (hQ : ∀ a s', Q a s' → Q' a s') : WE prog w A t Q' E s :=
  fun Γ p hΓ hc => Sem.wp_mono _ Γ t (fun a _ s => hQ a s) (fun _ _ _ h => h) p s (h Γ p hΓ hc)
end

structure CIAt (h : Heap) (ci bm sc pat ct : Addr) (l : List Nat) (tk : Tok) (st : Int) : Prop where
  oci : h.get? ci = some { cls := .type "callable_iterator", data := .fields #[.ref bm, .none, .bool false] }
  obm : h.get? bm = some { cls := .type "builtin_function_or_method", data := .fields #[.builtin "_sre.SRE_Scanner.search", .ref sc] }
  osc : h.get? sc = some (scanObj pat l tk st)
  opat : PatAt h pat ct
  ne : ci ≠ sc ∧ bm ≠ sc ∧ pat ≠ sc ∧ ct ≠ sc

theorem PatAt.at {h h' : Heap} {pat ct : Addr} (x : PatAt h pat ct) (h1 : ∀ o, h.get? pat = some o → h'.get? pat = some o) (h2 : ∀ o, h.get? ct = some o → h'.get? ct = some o) : PatAt h' pat ct :=
  let ⟨p0, p1, p3, p4, e⟩ := x.obj
  let ⟨n, e'⟩ := x.code
  ⟨⟨p0, p1, p3, p4, h1 _ e⟩, ⟨n, h2 _ e'⟩⟩
theorem CIAt.next {h h' : Heap} {ci bm sc pat ct : Addr} {l : List Nat} {tk : Tok} {st st' : Int} (x : CIAt h ci bm sc pat ct l tk st) (hs : Heap.SameBut sc h h') (ho : h'.get? sc = some (scanObj pat l tk st')) : CIAt h' ci bm sc pat ct l tk st' :=
  ⟨hs.extBut _ _ x.ne.1 x.oci, hs.extBut _ _ x.ne.2.1 x.obm, ho, x.opat.at (fun o e => hs.extBut _ _ x.ne.2.2.1 e) (fun o e => hs.extBut _ _ x.ne.2.2.2 e), x.ne⟩
section
variable {prog : Program} {w : World} {A : Around} {E : Value → Shared → Prop} {s : Shared}
end
end Mine

end
section
open PySem PySem.W PySem.Calls PyProof.Rows
set_option Elab.async false
set_option maxRecDepth 100000
namespace Mine
open PySem.Builtin.Re
open Sem (wp)

section
variable {prog : Program} {w : World} {A : Around} {E : Value → Shared → Prop} {s : Shared}
end
end Mine

end
section
open PySem PySem.W PySem.Calls PyProof.Rows
set_option Elab.async false
set_option maxRecDepth 100000
namespace Mine
open PySem.Builtin.Re
open Sem (wp)

section
variable {prog : Program} {w : World} {A : Around} {E : Value → Shared → Prop} {s : Shared}
end
end Mine

end
section
open PySem PySem.W PySem.Calls PyProof.Rows
set_option Elab.async false
set_option maxRecDepth 100000
namespace Mine
open PySem.Builtin.Re
open Sem (wp)

end Mine

end
section
open PySem PySem.W PySem.Calls PyProof.Rows
set_option Elab.async false
set_option maxRecDepth 100000
namespace Mine
open PySem.Builtin.Re
open Sem (wp)

/-! the pieces of a text -/
end Mine

end
section
open PySem PySem.W PySem.Calls PyProof.Rows
set_option Elab.async false
set_option maxRecDepth 100000
namespace Mine
open PySem.Builtin.Re
open Sem (wp)

end Mine

end
section
open PySem PySem.W PySem.Calls PyProof.Rows
set_option Elab.async false
set_option maxRecDepth 100000
namespace Mine
open PySem.Builtin.Re
open Sem (wp)

structure PatG (cx : Cx) : Prop where
  pat : ∃ (p0 p1 p4 : Value) (ct gd : Addr) (t1 t2 : Tok), cx.h₁.get? cx.pat = some { cls := .type "re.Pattern", data := .fields #[p0, p1, rawInt 3, .ref gd, p4, .ref ct, rawInt 0] } ∧
    cx.h₁.get? gd = some { cls := .type "dict", data := .dict #[⟨PyData.keyHash cx.w.params "set", .str "set" t1, .int 2 t2⟩] 1 }

section
variable {prog : Program} {w : World} {A : Around} {E : Value → Shared → Prop} {s : Shared}
end

theorem PatG.at {cx : Cx} {h : Heap} (x : PatG cx) (hb : Base cx h) : ∃ (vs : Array Value) (gd : Addr) (t1 t2 : Tok), h.get? cx.pat = some { cls := .type "re.Pattern", data := .fields vs } ∧ vs.getD 3 .none = .ref gd ∧
    h.get? gd = some { cls := .type "dict", data := .dict #[⟨PyData.keyHash cx.w.params "set", .str "set" t1, .int 2 t2⟩] 1 } := by
  obtain ⟨p0, p1, p4, ct, gd, t1, t2, h1, h2⟩ := x.pat
  exact ⟨_, gd, t1, t2, hb.2 _ _ h1, rfl, hb.2 _ _ h2⟩

end Mine

end
section
open PySem PySem.W PySem.Calls PyProof.Rows
set_option Elab.async false
set_option maxRecDepth 100000
namespace Mine
open Sem (wp)

noncomputable def strsOf : List D → Option (List (List Nat))
  | [] => some []
  | .str l :: r => (strsOf r).map (l :: ·)
  | _ => none
noncomputable def joinF : List D → Option D
  | [.str [], .list ds] => (strsOf ds).bind fun ls => if ls.flatten.length ≤ sizeLine then some (.str ls.flatten) else none
  | _ => none

theorem strs_read {cx : Cx} {h : Heap} {V : Avd} : ∀ {ds : List D} {vs : List Value} {ls : List (List Nat)}, RdAll cx h V ds vs → strsOf ds = some ls →
    ∃ l : List (Str × Tok), vs = strValues l ∧ l.map (·.1) = ls.map (fun x => (⟨x.toArray⟩ : Str)) ∧ ∀ c ∈ ls.flatten, c < 0x110000
  | [], vs, ls, r, hs => by
    rw [RdAll] at r
    subst r
    cases hs
    exact ⟨[], rfl, rfl, fun c hc => by simp at hc⟩
  | d :: ds, vs, ls, r, hs => by
    cases d with
    | str l =>
      rw [RdAll] at r
      obtain ⟨v, l2, rfl, r1, r2⟩ := r
      rw [strsOf, Option.map_eq_some_iff] at hs
      obtain ⟨ls', h1, rfl⟩ := hs
      rw [Rd] at r1
      obtain ⟨t, rfl, hc, _⟩ := r1
      obtain ⟨l', e1, e2, e3⟩ := strs_read r2 h1
      refine ⟨(⟨l.toArray⟩, t) :: l', by rw [e1]; rfl, by simp [e2], fun c hm => ?_⟩
      rw [List.flatten_cons, List.mem_append] at hm
      exact hm.elim (hc c) (e3 c)
    | _ => simp [strsOf] at hs

theorem glue_acc (ls : List (List Nat)) : ∀ acc : List Nat, (ls.map (fun x => (⟨x.toArray⟩ : Str))).foldl (fun acc p => acc ++ (⟨#[]⟩ : Str).cps ++ p.cps) acc.toArray = (acc ++ ls.flatten).toArray := by
  induction ls with
  | nil => intro acc; simp
  | cons x ls ih => intro acc; simp only [List.map_cons, List.foldl_cons]; rw [show acc.toArray ++ (#[] : Array Nat) ++ x.toArray = (acc ++ x).toArray by simp]; rw [ih]; simp
theorem glued_nil (ls : List (List Nat)) : Builtin.Str.glued ⟨#[]⟩ (ls.map (fun x => (⟨x.toArray⟩ : Str))) = ⟨ls.flatten.toArray⟩ := by
  unfold Builtin.Str.glued
  cases ls with
  | nil => rfl
  | cons x ls =>
    simp only [List.map_cons, List.drop_succ_cons, List.drop_zero, List.headD_cons]
    rw [glue_acc ls x]; rfl
theorem len_sum (ls : List (List Nat)) : ∀ n : Nat, (ls.map (fun x => (⟨x.toArray⟩ : Str))).foldl (· + ·.length + (⟨#[]⟩ : Str).length) n = n + ls.flatten.length := by
  induction ls with
  | nil => intro n; simp
  | cons x ls ih => intro n; simp only [List.map_cons, List.foldl_cons]; rw [ih]; simp [Str.length]; omega

theorem con_join {cx : Cx} {k : Nat} : Con cx k (.builtin "str.join") joinF := fun A V s ds vs r hA hV hb ra h => by
  unfold joinF at h
  split at h
  · rename_i es
    rw [Option.bind_eq_some_iff] at h
    obtain ⟨ls, hls, h⟩ := h
    split at h
    · rename_i hz
      cases h
      rw [RdAll] at ra; obtain ⟨v, l1, rfl, ra, rb⟩ := ra
      rw [RdAll] at rb; obtain ⟨v2, l2, rfl, rb, rc⟩ := rb
      rw [RdAll] at rc; subst rc
      rw [Rd] at ra; obtain ⟨t1, rfl, _, _⟩ := ra
      rw [Rd] at rb; obtain ⟨a, us, n, rfl, ho, _, _, rb⟩ := rb
      obtain ⟨l, e1, e2, e3⟩ := strs_read rb hls
      have hus : us = (strValues l).toArray := by rw [← e1]
      refine W.of_any (SC.join (l := l) ⟨_, ho, rfl, n, by rw [hus]⟩ e2 ?_ fun t' k => ⟨Ext.toks _, ?_⟩)
      · unfold JoinOk
        rw [List.foldl_toArray, len_sum, Nat.zero_add]
        unfold Builtin.Str.tooLong
        simpa using hz
      · have : Txt.join ⟨([] : List Nat).toArray⟩ (ls.map (fun x => (⟨x.toArray⟩ : Str))) = ⟨ls.flatten.toArray⟩ := glued_nil ls
        rw [this]
        exact rd_str e3 hz
    · cases h
  · cases h
end Mine

end
section
open PySem PySem.W PySem.Calls PyProof.Rows
set_option Elab.async false
set_option maxRecDepth 100000
namespace Mine
open Sem (wp)

noncomputable def opIAdd : D → D → Option D
  | .int a, .int b => some (.int (a + b))
  | .str a, .str b => if a.length + b.length ≤ sizeLine then some (.str (a ++ b)) else none
  | _, _ => none
noncomputable def AugOk (op : Operator) (F : D → D → Option D) : Prop :=
  ∀ (cx : Cx) (A : Around) (V : Avd) (s : Shared) (a b : D) (x y : Value) (r : D), Rd cx s.heap V a x → Rd cx s.heap V b y → F a b = some r →
    W cx.prog cx.w A (inplaceOp op x y) (fun v s' => Ext s s' ∧ Rd cx s'.heap V r v) s
theorem aug_add : AugOk .Add opIAdd := fun cx A V s a b x y r ra rb h => by
  unfold opIAdd at h
  split at h
  · cases h; rw [Rd] at ra rb; obtain ⟨t, rfl⟩ := ra; obtain ⟨u, rfl⟩ := rb
    exact W.of_any (wpAny_iadd_int ⟨Ext.toks _, by rw [Rd]; exact ⟨_, rfl⟩⟩)
  · rename_i p q
    split at h
    · rename_i hz
      cases h; rw [Rd] at ra rb; obtain ⟨t, rfl, h1, z1⟩ := ra; obtain ⟨u, rfl, h2, z2⟩ := rb
      have hr : ∀ t, Rd cx s.heap V (.str (p ++ q)) (.str (⟨p.toArray⟩ ++ ⟨q.toArray⟩) t) := fun t => by
        rw [str_append]
        exact rd_str (fun c hc => (List.mem_append.mp hc).elim (h1 c) (h2 c)) (by rw [List.length_append]; exact hz)
      exact W.of_any (iadd_str (fun t' tk => ⟨Ext.toks _, hr t'⟩) (by rw [str_len, str_len]; exact hz))
    · cases h
  · cases h
noncomputable def augS (i : Nat) (F : D → D → Option D) (g : Rho → Option D) : Rho → Option (Out × Rho) := fun ρ => (vE i ρ).bind fun a => (g ρ).bind fun b => (F a b).map fun c => (.next, ρ.set i (.val c))
theorem s1_aug {J : Jd} {x : Str} {p pos : Pos} {op : Operator} {value : PySem.Expr} {i : Nat} {F : D → D → Option D} {g : Rho → Option D} (hF : AugOk op F) (hv : SE J value g) (ht : J.tab[i]? = some (some x) := by rfl) (hf : J.sc.names.lookup x ≠ some .free := by decide)
    (hd : (x == ("__classdict__" : Str)) = false := by decide) : S1 J (.AugAssign (.Name x p) op value pos) (augS i F g) := fun A env P O vm s ρ out ρ' hA Fr h => by
  unfold augS at h
  rw [Option.bind_eq_some_iff] at h
  obtain ⟨a, ha, h⟩ := h
  rw [Option.bind_eq_some_iff] at h
  obtain ⟨b, hb, h⟩ := h
  rw [Option.map_eq_some_iff] at h
  obtain ⟨c, hc, h⟩ := h
  cases h
  rw [exec_AugAssign_Name]
  unfold vE at ha
  split at ha
  · rename_i d' hr
    cases ha
    obtain ⟨v, hvv, r⟩ := Fr.slots i x _ ht hr
    refine W.bind (W.standAt (W.bind (Fr.load ht hvv ?_ hd)))
    refine W.bind (W.holding (W.mono (hv A env P O vm s ρ b hA Fr hb) fun y s₁ ⟨X1, r1⟩ => ?_))
    refine W.bind (W.standAt (W.bind (W.operate (W.mono (hF J.cx A (Av env P O) s₁ _ b v y c (r.keep X1.keep) r1 hc) fun z s₂ ⟨X2, r2⟩ => ?_))))
    refine W.bind (W.standAt (W.bind ?_))
    unfold bindName
    have X := X1.trans X2
    exact W.bind (W.holding (W.point (W.bind ((Fr.ext X).store ht (fun e => hf e) r2 fun s' F' T' => W.point (W.pure ⟨rfl, _, _, F', X.tr.trans T'⟩)))))
  · cases ha
end Mine

end
section
open PySem PySem.W PySem.Calls PyProof.Rows
set_option Elab.async false
set_option maxRecDepth 100000
namespace Mine

/-! the rules again, their side conditions by rfl -/
section
variable {J : Jd}
theorem le_of_ble {k n : Nat} (h : Nat.ble k n = true) : k ≤ n := Nat.le_of_ble_eq_true h
theorem ne_of_beqf {a b : Option NameKind} (h : (a == b) = false) : a ≠ b := fun e => by rw [e] at h; simp at h

theorem x_name {x : Str} {pos : Pos} (i : Nat) (ht : J.tab[i]? = some (some x) := by rfl) (hf : (J.sc.names.lookup x == some .free) = false := by rfl) : SA J (.Name x pos) (nameA i) := sa_name ht (ne_of_beqf hf)
theorem x_var {x : Str} {pos : Pos} (i : Nat) (ht : J.tab[i]? = some (some x) := by rfl) (hd : (x == ("__debug__" : Str) || x == ("__classdict__" : Str)) = false := by rfl) : SE J (.Name x pos) (vE i) := se_var ht hd
theorem x_call {fn : Str} {fv : Value} {p pos : Pos} {es : List PySem.Expr} {F : List D → Option D} {g : Rho → Option (List D)} {k : Nat} (hc : Con J.cx k fv F) (hv : (J.cx.mg fn).or (J.cx.mb fn) = some fv) (hkeep : KeepOk fv J.cx.h₁) (hes : SEs J es g)
    (hk : Nat.ble k J.k = true := by rfl) (hl : J.sc.names.lookup fn = some .globalImplicit := by rfl) (hst : es.any isStarred = false := by rfl) (hlen : Nat.ble es.length 30 = true := by rfl) (hdb : (fn == ("__debug__" : Str)) = false := by rfl) :
    SE J (.Call (.Name fn p) es [] pos) (callE F g) := se_call hc hes hv hkeep (le_of_ble hk) hl hst (le_of_ble hlen) hdb
theorem x_meth {o : PySem.Expr} {name : Str} {id : String} {apos pos : Pos} {es : List PySem.Expr} {f : Rho → Option D} {g : Rho → Option (List D)} {p : D → Bool} {F : List D → Option D} (hg : GetOk name id p) (hc : Con J.cx 0 (.builtin id) F) (ho : SE J o f) (hes : SEs J es g)
    (hs : notSuperCall o = true := by rfl) (hst : es.any isStarred = false := by rfl) (hlen : Nat.ble (es.length + 1) 29 = true := by rfl) (hp : apos.endLine = pos.line := by rfl) :
    SE J (.Call (.Attribute o name apos) es [] pos) (methE p F f g) := se_method hg hc ho hes (Nat.zero_le _) hs hst (le_of_ble hlen) hp
theorem x_aug {x : Str} {p pos : Pos} {op : Operator} {value : PySem.Expr} {F : D → D → Option D} {g : Rho → Option D} (i : Nat) (hF : AugOk op F) (hv : SE J value g) (ht : J.tab[i]? = some (some x) := by rfl) (hf : (J.sc.names.lookup x == some .free) = false := by rfl)
    (hd : (x == ("__classdict__" : Str)) = false := by rfl) : S1 J (.AugAssign (.Name x p) op value pos) (augS i F g) := s1_aug hF hv ht (ne_of_beqf hf) hd
theorem x_own {x : Str} {p pos : Pos} {value : PySem.Expr} {f : Rho → Option (List D)} (i : Nat) (hv : SEF J value f) (hc : notComp value = true := by rfl) (ht : J.tab[i]? = some (some x) := by rfl) (hf : (J.sc.names.lookup x == some .free) = false := by rfl) :
    S1 J (.Assign [.Name x p] value pos) (ownS i f) := s1_own hv hc ht (ne_of_beqf hf)
noncomputable def nodupB : List Str → Bool
  | [] => true
  | x :: r => !r.contains x && nodupB r
theorem nodupB_ok : ∀ {l : List Str}, nodupB l = true → l.Nodup
  | [], _ => .nil
  | x :: r, h => by
    unfold nodupB at h
    rw [Bool.and_eq_true] at h
    rw [List.nodup_cons]
    refine ⟨fun hm => ?_, nodupB_ok h.2⟩
    have := h.1
    simp [hm] at this
noncomputable def compOkB (tab : List (Option Str)) (sc scope : Scope) (vars : List Str) : Bool :=
  nodupB (scope.names.map (·.1)) && (scope.names.all fun x => !(x.2 == .cell)) && (scope.names.all fun x => !(x.2 == .free) || (tab.contains (some x.1) && !(sc.names.lookup x.1 == some .local))) && (vars.all fun x => scope.names.lookup x == some .local) && nodupB vars
theorem x_cs {scope : Scope} {vars : List Str} (hk : scope.kind = .function := by rfl) (h : compOkB J.tab J.sc scope vars = true := by rfl) : CompSc J scope vars := by
  unfold compOkB at h
  simp only [Bool.and_eq_true, List.all_eq_true] at h
  obtain ⟨⟨⟨⟨h1, h2⟩, h3⟩, h4⟩, h5⟩ := h
  refine ⟨hk, nodupB_ok h1, fun x hx e => ?_, fun x hx e => ?_, fun x hx => ?_, nodupB_ok h5⟩
  · have := h2 x hx
    rw [e] at this
    simp at this
  · have := h3 x hx
    rw [e] at this
    simp at this
    refine ⟨this.1, fun e' => ?_⟩
    have := this.2
    simp [e'] at this
  · have := h4 x hx
    simpa using this
theorem x_comp {scope : Scope} {elt tgt iter : PySem.Expr} {ifs : List PySem.Expr} {pos : Pos} {g : D → Rho → Option Rho} {t : Rho → Option Bool} {fe : Rho → Option D} {f : Rho → Option (List D)} (vars : List Str) (cs : CompSc J scope vars) (hi : SI J tgt iter f) (ht : SAL (Jc J scope vars) tgt g) (hts : TsOk (Jc J scope vars) ifs t) (he : SE (Jc J scope vars) elt fe) :
    SEF J (.ListComp elt [⟨tgt, iter, ifs, 0⟩] scope pos) (compF vars f g t (emE fe)) := sef_comp cs turn_one hi ht hts (em_last he)
theorem x_lname {x : Str} {pos : Pos} (i : Nat) (ht : J.tab[i]? = some (some x) := by rfl) (hl : J.sc.names.lookup x = some .local := by rfl) : SAL J (.Name x pos) (nameA i) := sal_name ht hl
theorem x_str {x : Str} {k pos} (l : List Nat) (e : x = ⟨l.toArray⟩ := by rfl) (h1 : (l.all (· < 0x110000) && decide (l.length ≤ 1000)) = true := by rfl) : SE J (.Constant (.str x) k pos) (cE (.str l)) := se_str e h1
end
end Mine

end
section
open PySem PySem.W PySem.Calls PyProof.Rows
set_option Elab.async false
set_option maxRecDepth 100000
namespace Mine

theorem ints_of_items {R : WRecords} : ∀ {xs : List WData}, WShape.hasItems R xs .int = true → ∃ ns : List Int, xs = ns.map WData.int
  | [], _ => ⟨[], rfl⟩
  | x :: xs, h => by
    rw [WShape.hasItems, Bool.and_eq_true] at h
    obtain ⟨ns, rfl⟩ := ints_of_items h.2
    have h1 := h.1
    cases x with
    | int i => exact ⟨i :: ns, rfl⟩
    | _ => simp [WShape.has, WShape.arms] at h1
theorem script_shape {R : WRecords} {args : List WData} (h : WShape.hasAll R args [.list .int] = true) : ∃ ns : List Int, args = [.list (ns.map WData.int)] := by
  obtain ⟨d, r, rfl, h1, h2⟩ := hasAllW_cons h
  have := hasAllW_nil h2
  subst this
  cases d with
  | list xs =>
    simp only [WShape.has, WShape.arms, List.any_cons, List.any_nil, Bool.or_false] at h1
    obtain ⟨ns, rfl⟩ := ints_of_items h1
    exact ⟨ns, rfl⟩
  | _ => simp [WShape.has, WShape.arms] at h1

theorem rd_ints {cx : Cx} {P : Params} {h : Heap} {V : Avd} : ∀ {ns : List Int} {vs : List Value}, WellAll P h vs (ns.map WData.int) → RdAll cx h V (ns.map D.int) vs
  | [], vs, w => by cases w; exact RdAll.nil
  | n :: ns, vs, w => by
    cases w with
    | cons w1 w2 =>
      refine RdAll.cons ?_ (rd_ints w2)
      cases w1
      rw [Rd]
      exact ⟨_, rfl⟩

noncomputable abbrev A0 : Around := { handled := none, depth := 301, units := 4 }
theorem rl : recursionLimit = 1000 := by decide
theorem cl_line : cLine = 9900 := by decide
theorem caller_in : callerG.In A0 := ⟨rfl, by decide, fun l h => (nomatch h : False).elim, fun g h => (nomatch h : False).elim, by decide⟩

/-- the end of a law's walk -/
theorem law_end {l : OpenLaw} (hm : l.most = some 63) (hbn : l.bound = none) {s₀ s₁ : Shared} {cx : Cx} (hh : cx.h₁ = s₁.heap) (hpr : cx.prog = l.row.toRowW.prog) {a : Addr} {k : Nat} {F : List D → Option D} (hc : Con cx k (.ref a) F) (hk : k ≤ 600)
    (hF : ∀ ns : List Int, ns.length ≤ 63 → F [.list (ns.map .int)] = some (.bool true)) (hg : s₁.gens = #[]) (htk : 0 < s₁.toks) {args : List WData} {vals : List Value} (hpre : l.row.toRowW.claim.pre args = true) (hwl : WellAll cx.w.params s₁.heap vals args) :
    Sem.wp (Mg l.row.toRowW.prog cx.w) callerG (PySem.call (.ref a) vals) (fun v _ s' => GoodWG l.row.toRowW.claim (classAt s₀.heap) (ExcName.means s₀.heap) args s₁ (.ok (.ret v)) s') (fun _ _ _ => False) default s₁ := by
  obtain ⟨h1, h2⟩ := pre_splitW hpre
  obtain ⟨ns, rfl⟩ := script_shape h1
  have hn : ns.length ≤ 63 := by
    have e : l.row.toRowW.pre = .and (.not (.lt (.lit (.int 63)) (.len (.arg 0)))) (.lit (.bool true)) := by
      show l.pre = _
      unfold OpenLaw.pre
      rw [hm, hbn]
      rfl
    rw [e] at h2
    simp [WTm.holds, WTm.value] at h2
    have e2 : less? (WData.int 63) (WData.int (ns.length : Nat)) = some (decide ((63 : Int) < (ns.length : Nat))) := by
      first | rfl | simp [less?]
    rw [e2] at h2
    rcases Nat.lt_or_ge 63 ns.length with hgt | hle
    · rw [decide_eq_true (by omega)] at h2
      simp at h2
    · exact hle
  cases hwl with
  | cons w1 w2 =>
    cases w2
    cases w1 with
    | list ho hi =>
      rename_i b vs
      have hr := rd_ints (cx := cx) (V := fun _ => False) hi
      have hl := hr.length
      rw [List.length_map] at hl
      have hsz := szl
      have hra : RdAll cx s₁.heap (fun _ => False) [.list (ns.map .int)] [.ref b] := RdAll.cons (by
        rw [Rd]
        exact ⟨b, vs.toArray, 0, rfl, ho, id, by simp; omega, hr⟩) RdAll.nil
      have hw := hc A0 (fun _ => False) s₁ [.list (ns.map .int)] [.ref b] (.bool true) ⟨rfl, by rw [rl]; show 301 + k < 1000; omega, by rw [cl_line]; show 4 + 8 * k + 200 < 9900; omega⟩ (fun _ h => h.elim) (by rw [← hh]; exact ⟨Nat.le_refl _, fun _ _ e => e⟩) hra (hF ns hn)
      rw [hpr] at hw
      refine Sem.wp_mono _ _ _ (fun v p' s' h => ?_) (fun _ _ _ x => x) _ _ (hw htk callerG default caller_in clean_caller)
      obtain ⟨X, r⟩ := h
      rw [Rd] at r
      subst r
      refine ⟨.inl ⟨_, .bool true, [], rfl, fun cls => by rfl, .bool true, ?_, fun _ => ⟨List.nodup_nil, fun _ h => nomatch h⟩⟩, .of_keep X.keep, X.os, .of_eq (X.gens.trans hg)⟩
      show (WShape.has [] (.bool true) .bool && WTm.holds [] (.eq .res (.lit (.bool true))) { args := [WData.list (List.map WData.int ns)], res := some (.bool true), after := [WData.list (List.map WData.int ns)] }) = true
      have e3 : same (WData.bool true) (WData.bool true) = true := by first | rfl | decide | simp [same]
      simp [WShape.has, WShape.arms, WTm.holds, WTm.value, e3]
end Mine

end
section
open PySem PySem.W PySem.Calls PyProof.Rows
set_option Elab.async false
set_option maxRecDepth 100000
namespace Mine

/-! the first place of a sign -/
/-! equality of plain data -/
theorem flat_str (a : List Nat) : flatD (.str a) = true := by simp [flatD, pureD, toPy, PyData.depth]
theorem flat_int (a : Int) : flatD (.int a) = true := by simp [flatD, pureD, toPy, PyData.depth]
theorem deq_str (a b : List Nat) : deq (.str a) (.str b) = decide (a = b) := by
  simp only [deq, toPy, PyData.eqv]
  rw [Bool.eq_iff_iff]; simp
theorem deq_int (a b : Int) : deq (.int a) (.int b) = decide (a = b) := by
  simp only [deq, toPy, PyData.eqv]
  rw [Bool.eq_iff_iff]; simp
theorem eq_str (a b : List Nat) : opEq (.str a) (.str b) = some (decide (a = b)) := by simp [opEq, flat_str, deq_str]
theorem eq_int (a b : Int) : opEq (.int a) (.int b) = some (decide (a = b)) := by simp [opEq, flat_int, deq_int]
/-! cuts at plain places -/
theorem clip_nat (n k : Nat) : clipAt n (k : Int) = min k n := by unfold clipAt; split <;> omega
theorem cut_both {α : Type} (l : List α) (i j : Nat) (h : i ≤ l.length) : cut l (some (i : Int)) (some (j : Int)) = (l.drop i).take (j - i) := by
  unfold cut
  simp only [Option.elim, clip_nat]
  rw [Nat.min_eq_left h]
  rcases Nat.le_total j l.length with h' | h'
  · rw [Nat.min_eq_left h']
  · rw [Nat.min_eq_right h', List.take_of_length_le (by rw [List.length_drop]; omega), List.take_of_length_le (by rw [List.length_drop]; omega)]

theorem seqIndex_nat (k n : Nat) (h : k < n) : seqIndex? (k : Int) n = some k := by
  have h0 : ¬ (k : Int) < 0 := by omega
  simp only [seqIndex?, if_neg h0]
  rw [if_pos (by first | omega | (simp; omega))]; simp
theorem item_str (l : List Nat) (k : Nat) (h : k < l.length) : opItem (.str l) (.int (k : Int)) = some (.str [l[k]]) := by
  simp [opItem, seqIndex_nat k _ h, h]
theorem item_list (l : List D) (k : Nat) (h : k < l.length) : opItem (.list l) (.int (k : Int)) = some l[k] := by
  simp [opItem, seqIndex_nat k _ h, h]
/-! what the pattern finds -/
theorem seqS_next {f g : Rho → Option (Out × Rho)} {ρ ρ' : Rho} (h : f ρ = some (.next, ρ')) : seqS f g ρ = g ρ' := by rw [seqS, h]; rfl
theorem seqS_ret {f g : Rho → Option (Out × Rho)} {ρ ρ' : Rho} {d : D} (h : f ρ = some (.ret d, ρ')) : seqS f g ρ = some (.ret d, ρ') := by rw [seqS, h]; rfl
theorem loopS_next {g : D → Rho → Option Rho} {b : Rho → Option (Out × Rho)} {d : D} {ds : List D} {ρ ρ1 ρ2 : Rho} (h1 : g d ρ = some ρ1) (h2 : b ρ1 = some (.next, ρ2)) : loopS g b (d :: ds) ρ = loopS g b ds ρ2 := by rw [loopS, h1, Option.bind_some, h2]; rfl

/-! comprehensions by one name -/
theorem loopC_name {i : Nat} {t : Rho → Option Bool} {f : Rho → Option D} {F : D → D} {T : D → Bool} {ρ0 : Rho} : ∀ {ds : List D} {ρ : Rho}, (∀ x, ρ.set i x = ρ0.set i x) → (∀ d ∈ ds, t (ρ0.set i (.val d)) = some (T d)) → (∀ d ∈ ds, T d = true → f (ρ0.set i (.val d)) = some (F d)) →
    ∃ ρ', loopC (nameA i) t (emE f) ds ρ = some ((ds.filter T).map F, ρ')
  | [], ρ, _, _, _ => ⟨ρ, rfl⟩
  | d :: ds, ρ, h0, h1, h2 => by
    obtain ⟨ρ', ih⟩ := loopC_name (i := i) (t := t) (f := f) (F := F) (T := T) (ρ0 := ρ0) (ds := ds) (ρ := ρ0.set i (.val d)) (fun x => by rw [List.set_set]) (fun d hd => h1 d (List.mem_cons_of_mem _ hd)) (fun d hd => h2 d (List.mem_cons_of_mem _ hd))
    refine ⟨ρ', ?_⟩
    rw [loopC, nameA, Option.bind_some, h0, h1 d (List.mem_cons_self ..), Option.bind_some]
    cases hT : T d with
    | false => rw [if_neg (by simp), ih, List.filter_cons_of_neg (by simp [hT])]
    | true =>
      rw [if_pos rfl, emE, h2 d (List.mem_cons_self ..) hT, List.filter_cons_of_pos hT]
      simp [ih]
end Mine

end
section
open PySem PySem.W PySem.Calls PyProof.Rows
set_option Elab.async false
set_option maxRecDepth 100000
set_option linter.unusedSimpArgs false
namespace Mine

/-! the pieces of a text, as texts with their group -/
noncomputable def parse : Nat → List Nat → List (List Nat × Nat)
  | 0, _ => []
  | _ + 1, [] => []
  | f + 1, c :: r => if c ≠ 91 then (c :: r.takeWhile (· != 91), 1) :: parse f (r.dropWhile (· != 91))
    else match closeAt r with
      | some k => (91 :: r.take (k + 1), 2) :: parse f (r.drop (k + 1))
      | none => if 93 ∈ r then parse f r else [(91 :: r, 3)]
noncomputable def toks (l : List Nat) : List (List Nat × Nat) := parse (l.length + 1) l

/-! the matches, read -/
inductive ReadAs (l : List Nat) : List D → List (List Nat × Nat) → Prop
  | nil : ReadAs l [] []
  | cons {b e g : Nat} {p : List Nat} {ms : List D} {ps : List (List Nat × Nat)} (h : (l.drop b).take (e - b) = p) (r : ReadAs l ms ps) : ReadAs l (.mat l b e g :: ms) ((p, g) :: ps)
end Mine

end
section
open PySem PySem.W PySem.Calls PyProof.Rows
set_option Elab.async false
set_option maxRecDepth 100000
set_option linter.unusedSimpArgs false
namespace Mine

/-! equality of a datum with itself -/
mutual
theorem deq_self : ∀ d : D, pureD d = true → PyData.eqv (toPy d) (toPy d) = true
  | .none, _ => by simp [toPy, PyData.eqv]
  | .bool _, _ => by simp [toPy, PyData.eqv]
  | .int _, _ => by simp [toPy, PyData.eqv]
  | .str _, _ => by simp [toPy, PyData.eqv]
  | .list ds, h => by rw [toPy, PyData.eqv]; exact deqs_self ds (by rw [pureD] at h; exact h)
  | .tup ds, h => by rw [toPy, PyData.eqv]; exact deqs_self ds (by rw [pureD] at h; exact h)
  | .mat .., h => by rw [pureD] at h; cases h
  | .inst _, h => by rw [pureD] at h; cases h
theorem deqs_self : ∀ ds : List D, pureDs ds = true → PyData.eqvAll (toPys ds) (toPys ds) = true
  | [], _ => by simp [toPys, PyData.eqvAll]
  | d :: ds, h => by
    rw [pureDs, Bool.and_eq_true] at h
    rw [toPys, PyData.eqvAll, deq_self d h.1, deqs_self ds h.2]; rfl
end
theorem eq_self {d : D} (h : flatD d = true) : opEq d d = some true := by
  have hp : pureD d = true := (Bool.and_eq_true _ _ ▸ h : pureD d = true ∧ _).1
  unfold opEq deq
  rw [h, deq_self d hp]; rfl
theorem ne_self {d : D} (h : flatD d = true) : opNe d d = some false := by rw [opNe, eq_self h]; rfl
theorem flat_of {d : D} (h1 : pureD d = true) (h2 : (toPy d).depth ≤ 60) : flatD d = true := by
  unfold flatD; rw [h1, decide_eq_true h2]; rfl

/-! comprehensions, whole -/
theorem comp1 {x : Str} {it : Rho → Option (List D)} {i : Nat} {t : Rho → Option Bool} {f : Rho → Option D} {ρ ρ0 : Rho} {ds : List D} (F : D → D) (T : D → Bool) (h0 : rhoC [x] ρ = ρ0) (hit : it ρ = some ds)
    (ht : ∀ d ∈ ds, t (ρ0.set i (.val d)) = some (T d)) (hf : ∀ d ∈ ds, T d = true → f (ρ0.set i (.val d)) = some (F d)) (hz : ds.length ≤ 10000000) : compF [x] it (nameA i) t (emE f) ρ = some ((ds.filter T).map F) := by
  obtain ⟨ρ', hc⟩ := loopC_name (i := i) (t := t) (f := f) (F := F) (T := T) (ds := ds) (ρ0 := ρ0) (ρ := ρ0) (fun _ => rfl) ht hf
  have hsz : sizeLine = 16777216 := rfl
  have := List.length_filter_le T ds
  rw [compF, hit, Option.bind_some, h0, hc, Option.bind_some, if_pos (by simp; omega)]
theorem strsOf_strs : ∀ ls : List (List Nat), strsOf (ls.map D.str) = some ls
  | [] => rfl
  | l :: ls => by simp [strsOf, strsOf_strs ls]
theorem join_strs {ls : List (List Nat)} (h : ls.flatten.length ≤ 10000000) : joinF [.str [], .list (ls.map D.str)] = some (.str ls.flatten) := by
  have hsz : sizeLine = 16777216 := rfl
  simp only [joinF, strsOf_strs, Option.bind_some]
  rw [if_pos (by omega)]
theorem add_strs {a b : List Nat} (h : a.length + b.length ≤ 10000000) : opAdd (.str a) (.str b) = some (.str (a ++ b)) := by
  have hsz : sizeLine = 16777216 := rfl
  rw [opAdd, if_pos (by omega)]
/-! the forms, step by step -/
section
variable {ρ ρ' ρ'' : Rho} {a b c d r : D}
theorem setS_of {g : D → Rho → Option Rho} {f : Rho → Option D} (h : f ρ = some d) (hg : g d ρ = some ρ') : setS g f ρ = some (.next, ρ') := by rw [setS, h, Option.bind_some, hg]; rfl
theorem augS_of {i : Nat} {F : D → D → Option D} {g : Rho → Option D} (h1 : vE i ρ = some a) (h2 : g ρ = some b) (h3 : F a b = some c) (h4 : ρ.set i (.val c) = ρ') : augS i F g ρ = some (.next, ρ') := by rw [augS, h1, Option.bind_some, h2, Option.bind_some, h3, ← h4]; rfl
theorem ifS_f {t : Rho → Option Bool} {f g : Rho → Option (Out × Rho)} (h : t ρ = some false) : ifS t f g ρ = g ρ := by rw [ifS, h]; rfl
theorem ifS_t {t : Rho → Option Bool} {f g : Rho → Option (Out × Rho)} (h : t ρ = some true) : ifS t f g ρ = f ρ := by rw [ifS, h]; rfl
theorem forS_of {f : Rho → Option (List D)} {g : D → Rho → Option Rho} {bd : Rho → Option (Out × Rho)} {ds : List D} (h : f ρ = some ds) : forS f g bd ρ = loopS g bd ds ρ := by rw [forS, h]; rfl
theorem call2_of {F : List D → Option D} {f g : Rho → Option D} (h : f ρ = some d) (h' : g ρ = some c) (hF : F [d, c] = some r) : callE F (consF f (consF g nilF)) ρ = some r := by simp [callE, consF, nilF, h, h', hF]
theorem cmpB_of {F : D → D → Option Bool} {f g : Rho → Option D} {x : Bool} (h1 : f ρ = some a) (h2 : g ρ = some b) (h3 : F a b = some x) : cmpB F f g ρ = some x := by rw [cmpB, h1, Option.bind_some, h2, Option.bind_some, h3]
theorem binE_of {F : D → D → Option D} {f g : Rho → Option D} (h1 : f ρ = some a) (h2 : g ρ = some b) (h3 : F a b = some r) : binE F f g ρ = some r := by rw [binE, h1, Option.bind_some, h2, Option.bind_some, h3]
theorem andB_of {f g : Rho → Option Bool} {x y : Bool} (h1 : f ρ = some x) (h2 : g ρ = some y) : andB f g ρ = some (x && y) := by rw [andB, h1, Option.bind_some]; cases x <;> simp [h2]
theorem retS_of {f : Rho → Option D} (h : f ρ = some d) : retS f ρ = some (.ret d, ρ) := by rw [retS, h]; rfl
theorem runF_of {n m : Nat} {g : Rho → Option (Out × Rho)} {ds : List D} (h : ds.length = n) (hg : g (ds.map .val ++ List.replicate m .unb) = some (.ret r, ρ')) : runF n m g ds = some r := by rw [runF, if_pos h, hg]; rfl
end

/-- the block gives back r -/
noncomputable def Ret (g : Rho → Option (Out × Rho)) (ρ : Rho) (r : D) : Prop := ∃ ρ', g ρ = some (.ret r, ρ')
theorem Ret.next {f g : Rho → Option (Out × Rho)} {ρ ρ1 : Rho} {r : D} (h : f ρ = some (.next, ρ1)) (h2 : Ret g ρ1 r) : Ret (seqS f g) ρ r := let ⟨ρ', e⟩ := h2; ⟨ρ', (seqS_next h).trans e⟩
theorem Ret.stop {f g : Rho → Option (Out × Rho)} {ρ : Rho} {r : D} (h : Ret f ρ r) : Ret (seqS f g) ρ r := let ⟨ρ', e⟩ := h; ⟨ρ', seqS_ret e⟩
theorem Ret.of {f : Rho → Option D} {ρ : Rho} {r : D} (h : f ρ = some r) : Ret (retS f) ρ r := ⟨ρ, retS_of h⟩
theorem Ret.frz {i : Nat} {g : Rho → Option (Out × Rho)} {ρ ρ1 : Rho} {r : D} {xs : List D} (h1 : ρ[i]? = some (.own xs)) (h2 : ρ.set i (.val (.list xs)) = ρ1) (h : Ret g ρ1 r) : Ret (frzS i g) ρ r := let ⟨ρ', e⟩ := h; ⟨ρ', by rw [frzS, h1]; dsimp only; rw [h2]; exact e⟩
theorem Ret.t {t : Rho → Option Bool} {f g : Rho → Option (Out × Rho)} {ρ : Rho} {r : D} (h : t ρ = some true) (h2 : Ret f ρ r) : Ret (ifS t f g) ρ r := let ⟨ρ', e⟩ := h2; ⟨ρ', (ifS_t h).trans e⟩
theorem Ret.f {t : Rho → Option Bool} {f g : Rho → Option (Out × Rho)} {ρ : Rho} {r : D} (h : t ρ = some false) (h2 : Ret g ρ r) : Ret (ifS t f g) ρ r := let ⟨ρ', e⟩ := h2; ⟨ρ', (ifS_f h).trans e⟩
theorem runF_ret {n m : Nat} {g : Rho → Option (Out × Rho)} {ds : List D} {r : D} (h : ds.length = n) (hg : Ret g (ds.map .val ++ List.replicate m .unb) r) : runF n m g ds = some r := let ⟨_, e⟩ := hg; runF_of h e
end Mine

end
section
open PySem PySem.W PySem.Calls PyProof.Rows
set_option Elab.async false
set_option maxRecDepth 100000
namespace Mine

/-! range(n) -/
noncomputable def asRange : D → Option (List D)
  | .int n => if -16000000 ≤ n ∧ n ≤ 16000000 then some ((List.range n.toNat).map fun i => .int (i : Nat)) else none
  | _ => none
theorem si_range {J : Jd} {tgt e : PySem.Expr} {fn : Str} {p pos : Pos} {f : Rho → Option D} (he : SE J e f)
    (hv : (J.cx.mg fn).or (J.cx.mb fn) = some (.type "range")) (hl : J.sc.names.lookup fn = some .globalImplicit := by rfl) (hst : isStarred e = false := by rfl) (hdb : (fn == ("__debug__" : Str)) = false := by rfl) :
    SI J tgt (.Call (.Name fn p) [e] [] pos) (itE asRange f) := fun A env P O vm s ρ ds hA F h => by
  unfold itE at h
  rw [Option.bind_eq_some_iff] at h
  obtain ⟨d, hd, h⟩ := h
  unfold asRange at h
  split at h
  · rename_i n
    split at h
    · rename_i hn
      cases h
      show W _ _ A (do callWith pos (← eval (.Name fn p) env) [] (backTo pos (starEach [e] env)) []) _ s
      rw [eval_Name env fn p hdb]
      refine W.bind (W.bind (W.standAt (F.glob_ hl hv ?_)))
      have hb := backTo_plain pos env (es := [e]) (by simp [hst])
      have hes : SEs J [e] (consF f nilF) := ses_cons he ses_nil hst
      refine callWith_ok hb.1 (by rw [hb.2]; show 1 ≤ 30; decide) (W.mono (hes A env P O vm s ρ [.int n] pos hA F (by simp [consF, nilF, hd])) fun vs s₁ ⟨X1, r1⟩ => ⟨.inr (fun a e => by cases e), ?_⟩)
      rw [RdAll] at r1
      obtain ⟨v, l', rfl, r1, r2⟩ := r1
      rw [RdAll] at r2
      subst r2
      rw [Rd] at r1
      obtain ⟨tk, rfl⟩ := r1
      have F1 := F.ext X1
      have hsz := szl
      have hrs : Builtin.Range.rangeSize 0 n 1 = (n.toNat : Int) := by rw [rangeSize_one]; split <;> omega
      have fin : ∀ (s₂ : Shared) (r : Addr) (t u v : Tok), Ext s₁ s₂ → IsRange s₂.heap r 0 n 1 t u v → W J.cx.prog J.cx.w A (pyIter (.ref r)) (fun it s₃ => Ext s s₃ ∧ ((List.range n.toNat).map fun i => D.int (i : Nat)).length ≤ sizeLine ∧ ∃ I wr St, it = .ref I ∧
          Wk J.cx A tgt I wr s₃.heap.objs.size ((List.range n.toNat).map fun i => D.int (i : Nat)) (Av env P O) St ∧ St 0 s₃.heap ∧ (∀ b ∈ wr, s.heap.objs.size ≤ b ∧ b < s₃.heap.objs.size)) s₂ := fun s₂ r t u v X2 hr => by
        have F2 := F1.ext X2
        refine W.of_any (wpAny_pyIter_range hr (small_one (by decide) (by decide) (by omega) (by omega)) ?_)
        have hsp : ∀ o : Obj, (s₂.heap.push o).objs.size = s₂.heap.objs.size + 1 := fun o => Heap.size_push ..
        refine ⟨(X1.trans X2).trans (Ext.push _ _), by rw [List.length_map, List.length_range]; omega, s₂.heap.objs.size, [s₂.heap.objs.size], _, rfl, Wk.of (Walks.range hA.1 s₂.heap.objs.size 0 1 n.toNat) (by simp) ?_ (fun _ => True) (fun _ _ _ _ => trivial) ?_ ?_, ⟨?_, trivial⟩, ?_⟩
        · intro b hb
          rw [hsp]
          simp at hb
          rw [hb]; exact ⟨F2.new (Nat.le_refl _), Nat.lt_succ_self _⟩
        · intro h i v d _ ⟨t, e⟩ hd
          subst e
          rw [List.getElem?_map] at hd
          have hi : i < n.toNat := by
            rcases Nat.lt_or_ge i n.toNat with h | h
            · exact h
            · rw [List.getElem?_eq_none (by simpa using h)] at hd; cases hd
          rw [List.getElem?_range hi] at hd
          cases hd
          rw [Rd]
          exact ⟨t, by rw [Int.mul_one, Int.zero_add]⟩
        · rintro i h st
          exact ⟨_, _, st, rfl, by decide⟩
        · have e1 : (0 + ((0 : Nat) : Int) * 1) = 0 := by simp
          have e2 : ((n.toNat : Int) - ((0 : Nat) : Int)) = Builtin.Range.rangeSize 0 n 1 := by rw [hrs]; simp
          rw [e1, e2]
          exact Heap.get?_push_size _ rfl
        · intro b hb
          simp at hb
          rw [hb]
          exact ⟨Nat.le_trans X1.size X2.size, by show _ < (s₂.heap.push _).objs.size; rw [hsp]; exact Nat.lt_succ_self _⟩
      exact W.of_any (call_range_1 ⟨rfl, fin _ _ _ _ _ (Ext.push _ _) (IsRange.new ..)⟩)
    · cases h
  · cases h
end Mine

end
section
open PySem PySem.W PySem.Calls PyProof.Rows
set_option Elab.async false
set_option maxRecDepth 100000
namespace Mine

/-! a look at an own list -/
noncomputable def ownItemE (i : Nat) (g : Rho → Option D) : Rho → Option D := fun ρ => match ρ[i]? with | some (.own xs) => (g ρ).bind fun k => opItem (.list xs) k | _ => none
section
variable {J : Jd}
theorem load_own {x : Str} {p : Pos} {A : Around} {env : Env} {P : Avd} {O : Nat → Option Addr} {vm : Str → Option Value} {s : Shared} {ρ : Rho} {i : Nat} {xs : List D} {Q : Value → Shared → Prop} (F : FrV J.cx J.sc J.tab env P O vm s ρ) (ht : J.tab[i]? = some (some x)) (hr : ρ[i]? = some (.own xs))
    (hd : (x == ("__debug__" : Str) || x == ("__classdict__" : Str)) = false)
    (h : ∀ a vs n, O i = some a → s.heap.get? a = some { cls := .type "list", data := .seq vs n } → vs.size ≤ sizeLine → RdAll J.cx s.heap (Av env P O) xs vs.toList → Q (.ref a) s) : W J.cx.prog J.cx.w A (eval (.Name x p) env) Q s := by
  rw [Bool.or_eq_false_iff] at hd
  rw [eval_Name env x p hd.1]
  refine W.bind (W.standAt ?_)
  obtain ⟨a, vs, n, e1, e2, e3, e4, r⟩ := F.slots i x _ ht hr
  exact F.load ht e2 (h a vs n e1 e3 e4 r) hd.2

theorem se_ownItem {x : Str} {p pos : Pos} {slice : PySem.Expr} {g : Rho → Option D} (i : Nat) (hg : SE J slice g) (ht : J.tab[i]? = some (some x) := by rfl) (hd : (x == ("__debug__" : Str) || x == ("__classdict__" : Str)) = false := by rfl) (hs : notSlice slice = true := by rfl) :
    SE J (.Subscript (.Name x p) slice pos) (ownItemE i g) := fun A env P O vm s ρ d hA Fr h => by
  unfold ownItemE at h
  split at h
  · rename_i xs hr
    rw [Option.bind_eq_some_iff] at h
    obtain ⟨b, hb, h⟩ := h
    have hsz := szl
    rw [subscript_split]
    refine W.bind (load_own Fr ht hr hd fun a vs n e1 ho hz ra => W.bind (W.holding (W.mono (hg A env P O vm s ρ b hA Fr hb) fun y s₂ ⟨X2, r2⟩ => W.bind (W.standAt ?_))))
    have hsub : subscripted slice false (.ref a) y = operate [.ref a, y] (getItem (.ref a) y) := by cases slice <;> first | rfl | cases hs
    have ho2 := X2.keep _ _ ho
    have ra2 := ra.keep X2.keep
    cases b with
    | int i' =>
      replace h : (seqIndex? i' xs.length).bind (xs[·]?) = some d := h
      rw [Rd] at r2
      obtain ⟨u, rfl⟩ := r2
      rw [Option.bind_eq_some_iff] at h
      obtain ⟨k, hk, h⟩ := h
      obtain ⟨b1, b2, b3, b4⟩ := seqIndex_bound hk
      obtain ⟨v, hv, r⟩ := ra2.get h
      have hl := ra.length
      rw [Array.length_toList] at hl
      have hv' : vs[k]? = some v := by rw [← Array.getElem?_toList]; exact hv
      have hlist : s₂.heap.IsList a vs := ⟨_, ho2, rfl, n, rfl⟩
      by_cases hi : i' < 0
      · rw [if_pos hi] at b3
        refine W.of_any (tail_any hlist.typeIs F.slot_list_getitem.lookup (wpAny_getItem_list_neg hlist hi (by omega) (by omega) (x := v) ?_ ⟨X2, r⟩) hsub)
        rw [show (i' + (vs.size : Int)).toNat = k by rw [b3, hl]]; exact hv'
      · rw [if_neg hi] at b3
        refine W.of_any (tail_any hlist.typeIs F.slot_list_getitem.lookup (wpAny_getItem_list hlist (by omega) (by omega) (x := v) ?_ ⟨X2, r⟩) hsub)
        rw [← b3]; exact hv'
    | _ => simp [opItem] at h
  · cases h
end

/-! own lists, changed -/
noncomputable def appS (i : Nat) (f : Rho → Option D) : Rho → Option (Out × Rho) := fun ρ => match ρ[i]? with | some (.own xs) => (f ρ).bind fun d => if xs.length < 10000000 then some (.next, ρ.set i (.own (xs ++ [d]))) else none | _ => none
section
variable {J : Jd}
theorem inter_false {env : Env} (h : env.scope.kind = .function) : interactive env = false := by unfold interactive; rw [h]; rfl
theorem s1_append {x : Str} {p apos cpos pos : Pos} {e : PySem.Expr} {f : Rho → Option D} (i : Nat) (he : SE J e f) (ht : J.tab[i]? = some (some x) := by rfl) (hd : (x == ("__debug__" : Str) || x == ("__classdict__" : Str)) = false := by rfl)
    (hst : isStarred e = false := by rfl) (hp : apos.endLine = cpos.line := by rfl) : S1 J (.Expr (.Call (.Attribute (.Name x p) "append" apos) [e] [] cpos) pos) (appS i f) := fun A env P O vm s ρ out ρ' hA F h => by
  unfold appS at h
  split at h
  · rename_i xs hr
    rw [Option.bind_eq_some_iff] at h
    obtain ⟨d, hd', h⟩ := h
    split at h
    · rename_i hz
      cases h
      have hk : env.scope.kind = .function := by rw [F.scope]; exact F.kind
      have hsz := szl
      have hst' : [e].any isStarred = false := by simp [hst]
      rw [exec_Expr env _ _ (inter_false hk) rfl]
      refine W.bind (W.standAt ?_)
      rw [method_split rfl hst' (by show 1 < 29; decide) hp]
      refine W.bind (W.bind (load_own F ht hr hd fun a vs n e1 ho hvz ra => W.bind (W.standAt (W.bind (W.holding (W.of_any (getMethod_list_append ho rfl rfl ?_)))))))
      have hb := backTo_plain cpos env (es := [e]) hst'
      have hes : SEs J [e] (consF f nilF) := ses_cons he ses_nil hst
      refine callWith_ok hb.1 (by rw [hb.2]; show 1 ≤ 30; decide) (W.mono (hes A env P O vm s ρ [d] cpos hA F (by simp [consF, nilF, hd'])) fun us s₁ ⟨X1, r1⟩ => ⟨.inr (fun a e => by cases e), ?_⟩)
      rw [RdAll] at r1
      obtain ⟨v, l', rfl, r1, r2⟩ := r1
      rw [RdAll] at r2
      subst r2
      have hl := ra.length
      rw [Array.length_toList] at hl
      have F1 := F.ext X1
      refine W.of_any (wpAny_list_append_plain (hsz := hvz) ⟨n, X1.keep _ _ ho⟩ fun h' hp' hs' => ?_)
      obtain ⟨n', ho'⟩ := hp'
      obtain ⟨F2, T2⟩ := F1.mutate (s' := { s₁ with heap := h' }) (ds := xs ++ [d]) ht hr e1 rfl rfl hs' ho' (by rw [Array.size_push]; omega) (by rw [Array.toList_push]; exact (ra.keep X1.keep).append (RdAll.cons r1 RdAll.nil))
      rw [dropValue_plain (by intro a e; cases e)]
      exact W.pure ⟨rfl, O, vm, F2, X1.tr.trans T2⟩
    · cases h
  · cases h
end
end Mine

end
section
open PySem PySem.W PySem.Calls PyProof.Rows
set_option Elab.async false
set_option maxRecDepth 100000
namespace Mine
open PySem.Builtin.Re
open Sem (wp)

/-! the parts of a text between a sign -/
noncomputable def splitC (c : Nat) : List Nat → List (List Nat)
  | [] => [[]]
  | x :: r => if x = c then [] :: splitC c r else match splitC c r with
    | h :: t => (x :: h) :: t
    | [] => [[x]]
theorem splitC_free {c : Nat} : ∀ {p : List Nat}, c ∉ p → splitC c p = [p]
  | [], _ => rfl
  | x :: r, h => by
    rw [List.mem_cons, not_or] at h
    rw [splitC, if_neg (Ne.symm h.1), splitC_free h.2]
theorem splitC_app {c : Nat} {r : List Nat} : ∀ {p : List Nat}, c ∉ p → splitC c (p ++ c :: r) = p :: splitC c r
  | [], _ => by rw [List.nil_append, splitC, if_pos rfl]
  | x :: p, h => by
    rw [List.mem_cons, not_or] at h
    rw [List.cons_append, splitC, if_neg (Ne.symm h.1), splitC_app h.2]
theorem splitC_len (c : Nat) : ∀ l : List Nat, (splitC c l).length ≤ l.length + 1
  | [] => by simp [splitC]
  | x :: r => by
    have := splitC_len c r
    rw [splitC]
    split
    · simp; omega
    · cases h : splitC c r with
      | nil => simp
      | cons a t => rw [h] at this; simp at this ⊢; omega
theorem splitC_mem (c : Nat) : ∀ (l : List Nat), ∀ p ∈ splitC c l, (∀ x ∈ p, x ∈ l) ∧ p.length ≤ l.length
  | [], p, h => by simp [splitC] at h; subst h; exact ⟨fun x hx => hx, Nat.le_refl _⟩
  | x :: r, p, h => by
    have ih := splitC_mem c r
    rw [splitC] at h
    split at h
    · rcases List.mem_cons.mp h with rfl | h
      · exact ⟨fun x hx => by simp at hx, by simp⟩
      · exact ⟨fun y hy => List.mem_cons_of_mem _ ((ih p h).1 y hy), by have := (ih p h).2; simp; omega⟩
    · cases hs : splitC c r with
      | nil => rw [hs] at h; simp at h; subst h; exact ⟨fun y hy => by simp at hy; simp [hy], by simp⟩
      | cons a t =>
        rw [hs] at h ih
        rcases List.mem_cons.mp h with rfl | h
        · have := ih a (List.mem_cons_self ..)
          refine ⟨fun y hy => ?_, by simp; exact this.2⟩
          rcases List.mem_cons.mp hy with rfl | hy
          · simp
          · exact List.mem_cons_of_mem _ (this.1 y hy)
        · have := ih p (List.mem_cons_of_mem _ h)
          exact ⟨fun y hy => List.mem_cons_of_mem _ (this.1 y hy), by have := this.2; simp; omega⟩

theorem at_sign (l : List Nat) (c i : Nat) : StrLaws.At ⟨l.toArray⟩ ⟨#[c]⟩ (⟨l.toArray⟩ : Str).length i ↔ l[i]? = some c := by
  have := StrLaws.subAt_one ⟨l.toArray⟩ c i
  rw [show (⟨l.toArray⟩ : Str).cps.toList = l from rfl] at this
  exact this
theorem sub_at (l : List Nat) (a b : Nat) : Builtin.Str.strSub ⟨l.toArray⟩ a b = ⟨((l.drop a).take (b - a)).toArray⟩ := by
  apply Str.ext'
  apply Array.toList_inj.mp
  rw [StrLaws.strSub_toList]
theorem free_in {l : List Nat} {c a b : Nat} (h : ∀ k, a ≤ k → k < b → l[k]? ≠ some c) : c ∉ (l.drop a).take (b - a) := by
  intro hm
  obtain ⟨j, hj⟩ := List.getElem?_of_mem hm
  have hlt : j < b - a := by
    have h1 : j < ((l.drop a).take (b - a)).length := (List.getElem?_eq_some_iff.mp hj).1
    simp at h1; omega
  rw [List.getElem?_take_of_lt hlt, List.getElem?_drop] at hj
  exact h (a + j) (by omega) (by omega) hj
theorem parts_split {l : List Nat} {c : Nat} : ∀ (cuts : List Nat) (a f : Nat), StrLaws.ChainG ⟨l.toArray⟩ ⟨#[c]⟩ (⟨l.toArray⟩ : Str).length a cuts f → (∀ k, f ≤ k → ¬ StrLaws.At ⟨l.toArray⟩ ⟨#[c]⟩ (⟨l.toArray⟩ : Str).length k) →
    StrLaws.partsFrom ⟨l.toArray⟩ 1 a cuts = (splitC c (l.drop a)).map fun p => ⟨p.toArray⟩
  | [], a, f, h, hn => by
    have e : f = a := h
    subst e
    have hfree : c ∉ l.drop f := by
      intro hm
      obtain ⟨j, hj⟩ := List.getElem?_of_mem hm
      rw [List.getElem?_drop] at hj
      exact hn (f + j) (by omega) ((at_sign l c _).mpr hj)
    rw [StrLaws.partsFrom, splitC_free hfree, sub_at, str_len]
    rw [List.take_of_length_le (by rw [List.length_drop]; exact Nat.le_refl _)]; rfl
  | d :: r, a, f, h, hn => by
    obtain ⟨h1, h2, h3, h4⟩ := h
    have hd := (at_sign l c d).mp h2
    have ih := parts_split r (d + 1) f h4 hn
    obtain ⟨hdl, hdc⟩ := List.getElem?_eq_some_iff.mp hd
    have e : l.drop a = (l.drop a).take (d - a) ++ c :: l.drop (d + 1) := by
      have e1 : l.drop a = (l.drop a).take (d - a) ++ (l.drop a).drop (d - a) := (List.take_append_drop _ _).symm
      rw [List.drop_drop, show a + (d - a) = d by omega, List.drop_eq_getElem_cons hdl, hdc] at e1
      exact e1
    rw [StrLaws.partsFrom, e, splitC_app (free_in fun k k1 k2 hk => h3 k k1 k2 ((at_sign l c k).mpr hk)), List.map_cons, sub_at, ih]
theorem split_is (l : List Nat) (c : Nat) : Txt.split ⟨l.toArray⟩ ⟨#[c]⟩ = (splitC c l).map fun p => ⟨p.toArray⟩ := by
  obtain ⟨f, hc, hn⟩ := StrLaws.occ_tight ⟨l.toArray⟩ ⟨#[c]⟩ (Nat.le_refl 1)
  have hp := parts_split _ 0 f hc hn
  rw [List.drop_zero] at hp
  unfold Txt.split
  split
  · rename_i hk
    have hfree : c ∉ l := by
      rw [Bool.or_eq_true, decide_eq_true_eq, decide_eq_true_eq] at hk
      rcases hk with hk | hk
      · rw [str_len] at hk
        have : l = [] := List.length_eq_zero_iff.mp (by show l.length = 0; have : (⟨#[c]⟩ : Str).length = 1 := rfl; omega)
        rw [this]; simp
      · simpa using StrLaws.kind_free ⟨l.toArray⟩ c hk
    rw [splitC_free hfree]; rfl
  · split
    · rename_i he
      rw [List.isEmpty_iff] at he
      rw [he] at hp
      have : StrLaws.partsFrom ⟨l.toArray⟩ 1 0 [] = [⟨l.toArray⟩] := by
        rw [StrLaws.partsFrom, sub_at, str_len]; simp
      rw [← hp, this]
    · rw [StrLaws.partsBetween_eq]; exact hp

/-! a new list from a call -/
noncomputable def ConF (cx : Cx) (k : Nat) (fv : Value) (F : List D → Option (List D)) : Prop :=
  ∀ (A : Around) (V : Avd) (s : Shared) (ds : List D) (vs : List Value) (r : List D), Room A k → (∀ p, V p → p < s.heap.objs.size) → Base cx s.heap → RdAll cx s.heap V ds vs → F ds = some r →
    W cx.prog cx.w A (PySem.call fv vs) (fun v s' => Ext s s' ∧ ∃ a us n, v = .ref a ∧ s.heap.objs.size ≤ a ∧ s'.heap.get? a = some { cls := .type "list", data := .seq us n } ∧ us.size ≤ sizeLine ∧
      RdAll cx s'.heap (fun b => V b ∨ b = a) r us.toList) s
noncomputable def methL (p : D → Bool) (F : List D → Option (List D)) (f : Rho → Option D) (g : Rho → Option (List D)) : Rho → Option (List D) := fun ρ => (f ρ).bind fun a => (g ρ).bind fun as => if p a then F (a :: as) else none
theorem x_methF {J : Jd} {o : PySem.Expr} {name : Str} {id : String} {apos pos : Pos} {es : List PySem.Expr} {f : Rho → Option D} {g : Rho → Option (List D)} {p : D → Bool} {F : List D → Option (List D)} (hg : GetOk name id p) (hc : ConF J.cx 0 (.builtin id) F) (ho : SE J o f) (hes : SEs J es g)
    (hs : notSuperCall o = true := by rfl) (hst : es.any isStarred = false := by rfl) (hlen' : Nat.ble (es.length + 1) 29 = true := by rfl) (hp : apos.endLine = pos.line := by rfl) :
    SEF J (.Call (.Attribute o name apos) es [] pos) (methL p F f g) := fun A env P O vm s ρ d hA Fr h => by
  have hlen := le_of_ble hlen'
  unfold methL at h
  rw [Option.bind_eq_some_iff] at h
  obtain ⟨a, ha, h⟩ := h
  rw [Option.bind_eq_some_iff] at h
  obtain ⟨as, has, h⟩ := h
  split at h
  · rename_i hpa
    rw [method_split hs hst hlen hp]
    refine W.bind (W.mono (ho A env P O vm s ρ a hA Fr ha) fun v s₁ ⟨X1, r1⟩ => W.bind (W.standAt (W.bind (W.holding (W.of_any (hg J.cx A (Av env P O) s₁ a v _ _ hpa r1 ?_))))))
    have hb := backTo_plain pos env hst
    refine callWith_ok hb.1 (by rw [hb.2]; omega) (W.mono (hes A env P O vm s₁ ρ as pos hA (Fr.ext X1) has) fun vs s₂ ⟨X2, r2⟩ => ⟨.inr (by intro a e; cases e), ?_⟩)
    have X := X1.trans X2
    exact W.mono (hc A (Av env P O) s₂ (a :: as) (v :: vs) d (hA.le (Nat.zero_le _)) (fun q hq => (Fr.ext X).avLt hq) (Fr.ext X).baseOf (RdAll.cons (r1.keep X2.keep) r2) h) fun v s₃ ⟨X3, b, us, n, e1, e2, e3, e4, e5⟩ => ⟨X.trans X3, b, us, n, e1, Nat.le_trans X.size e2, e3, e4, e5⟩
  · cases h

theorem rd_strs {cx : Cx} {h : Heap} {V : Avd} : ∀ {ls : List (List Nat)} {l : List (Str × Tok)}, l.map (·.1) = ls.map (fun p => (⟨p.toArray⟩ : Str)) → (∀ p ∈ ls, (∀ c ∈ p, c < 0x110000) ∧ p.length ≤ sizeLine) → RdAll cx h V (ls.map D.str) (strValues l)
  | [], [], _, _ => RdAll.nil
  | [], _ :: _, e, _ => by simp at e
  | _ :: _, [], e, _ => by simp at e
  | p :: ls, (x, t) :: l, e, hp => by
    simp only [List.map_cons, List.cons.injEq] at e
    obtain ⟨rfl, e⟩ := e
    exact RdAll.cons (rd_str (hp p (List.mem_cons_self ..)).1 (hp p (List.mem_cons_self ..)).2) (rd_strs e fun q hq => hp q (List.mem_cons_of_mem _ hq))
noncomputable def splitF : List D → Option (List D)
  | [.str l, .str [c]] => if l.length ≤ 10000000 then some ((splitC c l).map .str) else none
  | _ => none
theorem split_raw {prog : Program} {w : World} {A : Around} {E : Value → Shared → Prop} {s : Shared} {x y : Str} {t u : Tok} {Q : Value → Shared → Prop} (hy : (y.length == 0) = false)
    (hq : ∀ l k, l.map (·.1) = Txt.split x y → Q (.ref s.heap.objs.size) { s with toks := k, heap := s.heap.push { cls := .type "list", data := .seq (strValues l).toArray } })
    (hsz : x.length ≤ sizeLine) (hsz2 : (Builtin.Str.partsBetween x (Builtin.Str.occurrences x y 0 x.length (x.length + 1)) y.length).length ≤ sizeLine) :
    wpAny (model prog w) A (PySem.call (.builtin "str.split") [.str x t, .str y u]) Q E s := by
  cases h1 : (decide (x.length < y.length) || decide (Builtin.Str.strKind x < Builtin.Str.strKind y))
  · cases hf : (Builtin.Str.occurrences x y 0 x.length (x.length + 1)).isEmpty
    · refine call_meets F.slot_str_split (typeIs_str _ _ _) F.entry_str_split (F.args_str_split_2 _ _) (meets_str_split_sep x y t u h1 hy hf hsz hsz2) ?_
      rw [strsFrom_eq]
      exact hq (numbered s.toks _) _ ((numbered_texts _ _).trans ((if_neg (ne_true_of_eq_false h1)).trans (if_neg (ne_true_of_eq_false hf))).symm)
    · exact call_meets F.slot_str_split (typeIs_str _ _ _) F.entry_str_split (F.args_str_split_2 _ _) (meets_str_split_not_found x y t u h1 hy hf)
        (hq [(x, t)] s.toks ((if_neg (ne_true_of_eq_false h1)).trans (if_pos hf)).symm)
  · exact call_meets F.slot_str_split (typeIs_str _ _ _) F.entry_str_split (F.args_str_split_2 _ _) (meets_str_split_cannot_occur x y t u h1)
      (hq [(x, t)] s.toks (if_pos h1).symm)
theorem con_split {cx : Cx} {k : Nat} : ConF cx k (.builtin "str.split") splitF := fun A V s ds vs r hA hV hb ra h => by
  unfold splitF at h
  split at h
  · rename_i l c
    split at h
    · rename_i hz
      cases h
      have hsz := szl
      rw [RdAll] at ra; obtain ⟨v, l1, rfl, ra, rb⟩ := ra
      rw [RdAll] at rb; obtain ⟨v2, l2, rfl, rb, rc⟩ := rb
      rw [RdAll] at rc; subst rc
      rw [Rd] at ra; obtain ⟨t1, rfl, hc1, hl1⟩ := ra
      rw [Rd] at rb; obtain ⟨t2, rfl, _, _⟩ := rb
      have hy : ((⟨[c].toArray⟩ : Str).length == 0) = false := rfl
      have hpl := splitC_len c l
      have hparts : (Builtin.Str.partsBetween ⟨l.toArray⟩ (Builtin.Str.occurrences ⟨l.toArray⟩ ⟨[c].toArray⟩ 0 (⟨l.toArray⟩ : Str).length ((⟨l.toArray⟩ : Str).length + 1)) (⟨[c].toArray⟩ : Str).length).length ≤ sizeLine := by
        obtain ⟨f, hc, hn⟩ := StrLaws.occ_tight ⟨l.toArray⟩ ⟨#[c]⟩ (Nat.le_refl 1)
        have hp := parts_split _ 0 f hc hn
        rw [List.drop_zero] at hp
        rw [StrLaws.partsBetween_eq]
        show (StrLaws.partsFrom ⟨l.toArray⟩ 1 0 _).length ≤ _
        rw [show (⟨[c].toArray⟩ : Str) = ⟨#[c]⟩ from rfl, hp, List.length_map]; omega
      refine W.of_any (split_raw hy (fun ll k hll => ⟨Ext.push _ _, _, (strValues ll).toArray, 0, rfl, Nat.le_refl _, Heap.get?_push_size _ rfl, ?_, ?_⟩) (by rw [str_len]; exact hl1) hparts)
      · rw [show (⟨[c].toArray⟩ : Str) = ⟨#[c]⟩ from rfl, split_is] at hll
        have := congrArg List.length hll
        simp only [List.length_map] at this
        have e2 : (strValues ll).toArray.size = ll.length := by simp [strValues]
        rw [e2, this]; omega
      · rw [show (⟨[c].toArray⟩ : Str) = ⟨#[c]⟩ from rfl, split_is] at hll
        exact rd_strs hll fun p hp => ⟨fun x hx => hc1 x ((splitC_mem c l p hp).1 x hx), Nat.le_trans (splitC_mem c l p hp).2 hl1⟩
    · cases h
  · cases h

/-! a match's places -/
end Mine

end
section
open PySem PySem.W PySem.Calls PyProof.Rows
set_option Elab.async false
set_option maxRecDepth 100000
namespace Mine

noncomputable def listL (f : Rho → Option (List D)) : Rho → Option (List D) := fun ρ => (f ρ).bind fun ds => if ds.length ≤ 1000 then some ds else none
section
variable {J : Jd}
theorem x_listF {es : List PySem.Expr} {pos : Pos} {f : Rho → Option (List D)} (hes : SEs J es f) : SEF J (.List es pos) (listL f) := sef_list hes
end
end Mine

end
section
open PySem PySem.W PySem.Calls PyProof.Rows
set_option Elab.async false
set_option maxRecDepth 100000
namespace Mine

/-! a text ahead of and behind a sign -/
/-! an own list's item, changed -/
theorem setItem_own {prog : Program} {w : World} {A : Around} {E : Value → Shared → Prop} {s : Shared} {l : Addr} {vs : Array Value} {n j : Nat} {k : Int} {t : Tok} {v : Value} {Q : Unit → Shared → Prop} (ho : s.heap.get? l = some { cls := .type "list", data := .seq vs n })
    (hk : seqIndex? k vs.size = some j) (hneg : k < 0) (hfit : -(2 ^ 63) ≤ k) (hQ : ∀ h', h'.get? l = some { cls := .type "list", data := .seq (vs.setIfInBounds j v) n } → Heap.SameBut l s.heap h' → Q () { s with heap := h' }) :
    wpAny (model prog w) A (setItem (.ref l) (.int k t) v) Q E s := by
  have hl : s.heap.IsList l vs := ⟨_, ho, rfl, n, rfl⟩
  have hj := (seqIndex_bound hk).2.2.2
  have hx' : vs[j]? = some vs[j] := Array.getElem?_eq_getElem hj
  unfold setItem
  try with_reducible refine wpAny_holding ?_
  first | refine wpAny_bind (wpAny_pure ?_) | skip
  refine wpAny_bind (wpAny_sequenceKey hl.typeIs (by decide) ?_)
  refine wpAny_bind (wpAny_callSpecial?_slot (name := Str.ofString "__setitem__") hl.typeIs slot_list_setitem
    (wpAny_call_entry slot_list_setitem hl.typeIs entry_list_setitem ?_ (args_list_setitem _ _ _)))
  show wpAny _ _ (Builtin.List.listSubscript? (.int k t) >>= _) _ _ s
  refine wpAny_bind (wpAny_listSubscript_int (fitsIndex_neg hneg hfit) ?_)
  obtain ⟨i, rfl⟩ : ∃ i : Nat, k = Int.negSucc i := by
    cases k with
    | ofNat n => exact absurd hneg (Int.not_lt.mpr (Int.natCast_nonneg n))
    | negSucc n => exact ⟨n, rfl⟩
  show wpAny _ _ ((Builtin.List.listItems (.ref l) >>= fun xs => pure ((seqIndex? (Int.negSucc i) xs.size).bind fun i => xs[i]?.map (i, ·))) >>= _) _ _ s
  refine wpAny_bind (wpAny_bind ?_)
  show wpAny _ _ (seqItems? (.ref l) >>= _) _ _ s
  refine wpAny_bind (wpAny_seqItems ho rfl (wpAny_pure (wpAny_pure ?_)))
  rw [hk]
  simp only [Option.bind_some, hx', Option.map_some]
  show wpAny _ _ (setSeqItemAt l j v >>= _) _ _ s
  have hm : Obj.mapSeq (·.setIfInBounds j v) { cls := .type "list", data := .seq vs n } = { cls := .type "list", data := .seq (vs.setIfInBounds j v) n } := by simp [Obj.mapSeq]
  refine wpAny_bind (wpAny_setSeqItemAt ho rfl ?_)
  have hfin := hQ _ (by rw [Heap.get?_update_self _ ho (by rw [hm]; rfl), hm]) (Heap.SameBut.update s.heap l (Obj.mapSeq (·.setIfInBounds j v)))
  first
    | exact wpAny_bind (wpAny_pure (wpAny_pure ⟨.none, rfl, wpAny_pure hfin⟩))
    | exact wpAny_pure ⟨.none, rfl, wpAny_pure hfin⟩

/-- xs[-1] = f -/
noncomputable def lastS (i : Nat) (f : Rho → Option D) : Rho → Option (Out × Rho) := fun ρ => match ρ[i]? with | some (.own xs) => (f ρ).bind fun d => if xs.length = 0 then none else some (.next, ρ.set i (.own (xs.set (xs.length - 1) d))) | _ => none
section
variable {J : Jd}
noncomputable abbrev minusOne (p1 p2 : Pos) (k : Nat) : PySem.Expr := .UnaryOp .USub (.Constant (.int 1) k p1) p2
theorem seqIndex_last {n : Nat} (h : n ≠ 0) : seqIndex? (-1) n = some (n - 1) := by
  rw [seqIndex_neg (by decide) (by omega)]
  congr 1; omega
theorem s1_last {x : Str} {p p1 p2 spos pos : Pos} {kk : Nat} {value : PySem.Expr} {f : Rho → Option D} (i : Nat) (hv : SE J value f) (ht : J.tab[i]? = some (some x) := by rfl) (hd : (x == ("__debug__" : Str) || x == ("__classdict__" : Str)) = false := by rfl) :
    S1 J (.Assign [.Subscript (.Name x p) (minusOne p1 p2 kk) spos] value pos) (lastS i f) := fun A env P O vm s ρ out ρ' hA Fr h => by
  unfold lastS at h
  split at h
  · rename_i xs hr
    rw [Option.bind_eq_some_iff] at h
    obtain ⟨d, hd', h⟩ := h
    split at h
    · cases h
    rename_i hne
    cases h
    rw [exec_Assign_Subscript (env := env) _ _ _ _ _ (by cases value <;> rfl)]
    refine W.bind (W.standAt (W.bind (W.mono (hv A env P O vm s ρ d hA Fr hd') fun v s₁ ⟨X1, r1⟩ => W.bind ?_)))
    have F1 := Fr.ext X1
    rw [assign_Subscript]
    refine W.bind (W.holding (load_own F1 ht hr hd fun a vs n e1 ho hvz ra => W.bind (W.holding (W.mono (se_neg se_int (J := J) A env P O vm s₁ ρ (.int (-1)) hA F1 rfl) fun iv s₂ ⟨X2, r2⟩ => ?_))))
    rw [Rd] at r2
    obtain ⟨tk, rfl⟩ := r2
    have F2 := F1.ext X2
    have hl := ra.length
    rw [Array.length_toList] at hl
    refine W.bind (W.standAt (W.bind (W.holding (W.of_any (setItem_own (X2.keep _ _ ho) (seqIndex_last (by rw [hl]; exact hne)) (by decide) (by decide) fun h' ho' hs' => W.release (W.pure ?_))))))
    obtain ⟨F3, T3⟩ := F2.mutate (s' := { s₂ with heap := h' }) (ds := xs.set (xs.length - 1) d) ht hr e1 rfl rfl hs' ho' (by simpa using hvz) (by rw [Array.toList_setIfInBounds, hl]; exact (ra.keep X2.keep).set _ (r1.keep X2.keep))
    exact ⟨rfl, O, vm, F3, (X1.trans X2).tr.trans T3⟩
  · cases h
end
end Mine

end
section
open PySem PySem.W PySem.Calls PyProof.Rows
set_option Elab.async false
set_option maxRecDepth 100000
namespace Mine

/-! enumerate(list) -/
end Mine

end
section
open PySem PySem.W PySem.Calls PyProof.Rows
set_option Elab.async false
set_option maxRecDepth 100000
namespace Mine

/-! a text, repeated -/
/-! a text, replaced -/
section
variable {J : Jd}
end

/-! every second sign -/
end Mine

end
section
open PySem PySem.W PySem.Calls PyProof.Rows
set_option Elab.async false
set_option maxRecDepth 100000
namespace Mine
open Sem (wp)
open AutoSeq1 (wpAny_loadPart')

/-! reversed(text) -/
section
variable {prog : Program} {w : World} {A : Around} {E : Value → Shared → Prop} {s : Shared}
end
end Mine

end
section
open PySem PySem.W PySem.Calls PyProof.Rows
set_option Elab.async false
set_option maxRecDepth 100000
namespace Mine
open Sem (wp)

/-! for .. in reversed(text) -/
end Mine

end
section
open PySem PySem.W PySem.Calls PyProof.Rows
set_option Elab.async false
set_option maxRecDepth 100000
namespace Mine
open Sem (wp)

/-! a text's iterator, asked by zip -/
section
variable {prog : Program} {w : World} {A : Around} {E : Value → Shared → Prop} {s : Shared}
theorem nextS_item {it : Addr} {x : Str} {t : Tok} {i c : Nat} {Q : Value → Shared → Prop} (hit : s.heap.IsStrIter it (strIterType x) x t i) (hx : x.cps[i]? = some c)
    (hQ : ∀ h', h'.IsStrIter it (strIterType x) x t (i + 1) → Heap.SameBut it s.heap h' → Q (.str ⟨#[c]⟩ s.toks) { s with heap := h', toks := s.toks + 1 }) :
    wpAny (model prog w) A (Builtin.SmallTypes.nextOf (.ref it)) Q E s := by
  obtain ⟨o, ho, hc, hd⟩ := id hit
  unfold Builtin.SmallTypes.nextOf
  by_cases ha : x.cps.all (· < 128) = true
  · have hT : strIterType x = "str_ascii_iterator" := by unfold strIterType; rw [if_pos ha]
    have hti := hit.typeIs
    rw [hT] at hti
    refine wpAny_bind (wpAny_callSpecial?_slot (name := Str.ofString "__next__") hti F.slot_str_ascii_iterator_next
      (wpAny_call_entry F.slot_str_ascii_iterator_next hti F.entry_str_ascii_iterator_next ?_ (F.args_str_ascii_iterator_next_1 _)))
    show wpAny _ _ (field (.ref it) 0 >>= _) _ _ s
    refine wpAny_bind (wpAny_field ho hd (x := .str x t) rfl ?_)
    show wpAny _ _ (field (.ref it) 1 >>= _) _ _ s
    refine wpAny_bind (wpAny_field ho hd (x := .int i 0) rfl ?_)
    simp only [Int.toNat_natCast, hx]
    refine wpAny_bind (wpAny_setField ho hd (by simp) (wpAny_bind (wpAny_mkStr (wpAny_pure ⟨_, rfl, wpAny_pure (hQ _ ?_ (Heap.SameBut.update ..))⟩) (by show 1 ≤ sizeLine; decide))))
    exact ⟨_, Heap.get?_update_self _ ho (Obj.isFreed_of_fields (Obj.data_mapFields hd _)), (Obj.cls_mapFields ..).trans hc, by
      rw [Obj.data_mapFields hd]; simp [rawInt]⟩
  · have hT : strIterType x = "str_iterator" := by unfold strIterType; rw [if_neg ha]
    have hti := hit.typeIs
    rw [hT] at hti
    refine wpAny_bind (wpAny_callSpecial?_slot (name := Str.ofString "__next__") hti F.slot_str_iterator_next
      (wpAny_call_entry F.slot_str_iterator_next hti F.entry_str_iterator_next ?_ (F.args_str_iterator_next_1 _)))
    show wpAny _ _ (field (.ref it) 0 >>= _) _ _ s
    refine wpAny_bind (wpAny_field ho hd (x := .str x t) rfl ?_)
    show wpAny _ _ (field (.ref it) 1 >>= _) _ _ s
    refine wpAny_bind (wpAny_field ho hd (x := .int i 0) rfl ?_)
    simp only [Int.toNat_natCast, hx]
    refine wpAny_bind (wpAny_setField ho hd (by simp) (wpAny_bind (wpAny_mkStr (wpAny_pure ⟨_, rfl, wpAny_pure (hQ _ ?_ (Heap.SameBut.update ..))⟩) (by show 1 ≤ sizeLine; decide))))
    exact ⟨_, Heap.get?_update_self _ ho (Obj.isFreed_of_fields (Obj.data_mapFields hd _)), (Obj.cls_mapFields ..).trans hc, by
      rw [Obj.data_mapFields hd]; simp [rawInt]⟩
/-- the objects of a zip, apart -/
structure ZA (z TI TO i1 i2 l2 : Addr) : Prop where
  nd : [z, TI, TO, i1, i2].Nodup
  l2 : l2 ≠ z ∧ l2 ≠ TO ∧ l2 ≠ i1 ∧ l2 ≠ i2
structure ZAt (h : Heap) (z TI TO i1 i2 l2 : Addr) (f0 : Value) (x : Str) (t : Tok) (ys : Array Value) (i : Nat) : Prop where
  z : IsZip h z TI TO f0
  TI : IsPair h TI (.ref i1) (.ref i2)
  TO : ∃ a b, IsPair h TO a b
  i1 : h.IsStrIter i1 (strIterType x) x t i
  i2 : h.IsListIter i2 l2 i
  l2 : ∃ n, h.get? l2 = some { cls := .type "list", data := .seq ys n }

theorem zipS_item {z TI TO i1 i2 l2 : Addr} {x : Str} {t : Tok} {ys : Array Value} {i c : Nat} {y : Value} {Q : Option Value → Shared → Prop} (D : ZA z TI TO i1 i2 l2) (Z : ZAt s.heap z TI TO i1 i2 l2 .none x t ys i) (hx : x.cps[i]? = some c) (hy : ys[i]? = some y)
    (hQ : ∀ h' tk k, ZAt h' z TI TO i1 i2 l2 (rawInt s.heap.objs.size) x t ys (i + 1) → IsPair h' s.heap.objs.size (.str ⟨#[c]⟩ tk) y → h'.objs.size = s.heap.objs.size + 1 →
      (∀ b o, b ∉ [z, TO, i1, i2] → s.heap.get? b = some o → h'.get? b = some o) → Q (some (.ref s.heap.objs.size)) { s with heap := h', toks := k }) :
    wpAny (model prog w) A (pyNext (.ref z)) Q E s := by
  obtain ⟨nd, dl1, dl2, dl3, dl4⟩ := D
  simp only [List.nodup_cons, List.mem_cons, List.not_mem_nil, or_false, not_or] at nd
  obtain ⟨⟨n1, n2, n3, n4⟩, ⟨n5, n6, n7⟩, ⟨n8, n9⟩, n10, _⟩ := nd
  obtain ⟨hz, hTI, ⟨a, b, hTO⟩, h1, h2, ⟨n, hl2⟩⟩ := Z
  have hT : s.TypeIs (.ref z) "zip" := ⟨_, hz, rfl⟩
  unfold pyNext
  refine wpAny_bind (wpAny_attempt (wpAny_callSpecial?_slot (name := Str.ofString "__next__") hT F.slot_zip_next
    (wpAny_call_entry F.slot_zip_next hT F.entry_zip_next ?_ (F.args_zip_next_1 _))))
  show wpAny _ _ (field (.ref z) 2 >>= _) _ _ _
  refine wpAny_bind (wpAny_field hz rfl (x := .bool false) rfl ?_)
  show wpAny _ _ (field (.ref z) 3 >>= _) _ _ _
  refine wpAny_bind (wpAny_field hz rfl (x := .ref TI) rfl ?_)
  refine wpAny_bind (wpAny_seqItems hTI rfl ?_)
  show wpAny _ _ (Builtin.SmallTypes.ownedTupleIsFree (.ref z) >>= _) _ _ _
  refine wpAny_bind ?_
  unfold Builtin.SmallTypes.ownedTupleIsFree
  refine wpAny_bind (wpAny_field hz rfl (x := .none) rfl (wpAny_pure ?_))
  simp only [if_true]
  refine wpAny_bind (wpAny_rule ?_)
  refine wpAny_bind (wpAny_field hz rfl (x := .ref TO) rfl ?_)
  refine wpAny_bind (wpAny_setField_rec hz (by simp) fun h₁ hz₁ hs₁ => ?_)
  replace hz₁ : IsZip h₁ z TI TO .ellipsis := hz₁
  refine wpAny_bind ?_
  simp only [List.zipIdx_cons, List.zipIdx_nil, List.forIn_cons, List.forIn_nil]
  refine wpAny_bind (wpAny_bind (wpAny_onRaise ?_))
  show wpAny _ _ (Builtin.SmallTypes.nextOf (.ref i1) >>= _) _ _ _
  refine wpAny_bind (nextS_item (s := { s with heap := h₁ }) (h1.extBut hs₁.extBut (Ne.symm n3)) hx fun h₂ h1₂ hs₂ => wpAny_pure ?_)
  have hTO₂ : IsPair h₂ TO a b := hs₂.extBut _ _ n8 (hs₁.extBut _ _ (Ne.symm n2) hTO)
  refine wpAny_bind (wpAny_seqItems hTO₂ rfl ?_)
  refine wpAny_bind (wpAny_updateSeq_pair hTO₂ fun h₃ hTO₃ hs₃ => ?_)
  replace hTO₃ : IsPair h₃ TO (.str ⟨#[c]⟩ s.toks) b := hTO₃
  refine wpAny_bind (wpAny_letGo (wpAny_pure ?_))
  refine wpAny_bind (wpAny_bind (wpAny_onRaise ?_))
  show wpAny _ _ (Builtin.SmallTypes.nextOf (.ref i2) >>= _) _ _ _
  have hl23 : h₃.get? l2 = some { cls := .type "list", data := .seq ys n } := hs₃.extBut _ _ dl2 (hs₂.extBut _ _ dl3 (hs₁.extBut _ _ dl1 hl2))
  refine wpAny_bind (wpAny_nextOf_list_item (((h2.extBut hs₁.extBut (Ne.symm n4)).extBut hs₂.extBut (Ne.symm n10)).extBut hs₃.extBut (Ne.symm n9)) ⟨_, hl23, rfl, n, rfl⟩ hy fun h₄ h2₄ hs₄ => wpAny_pure ?_)
  have hTO₄ : IsPair h₄ TO (.str ⟨#[c]⟩ s.toks) b := hs₄.extBut _ _ n9 hTO₃
  refine wpAny_bind (wpAny_seqItems hTO₄ rfl ?_)
  refine wpAny_bind (wpAny_updateSeq_pair hTO₄ fun h₅ hTO₅ hs₅ => ?_)
  replace hTO₅ : IsPair h₅ TO (.str ⟨#[c]⟩ s.toks) y := hTO₅
  refine wpAny_bind (wpAny_letGo (wpAny_pure (wpAny_pure ?_)))
  refine wpAny_bind (wpAny_seqItems hTO₅ rfl ?_)
  refine wpAny_bind (wpAny_newTuple ?_)
  have hsz : h₅.objs.size = s.heap.objs.size := by rw [hs₅.1, hs₄.1, hs₃.1, hs₂.1, hs₁.1]
  have keep : ∀ b o, b ≠ z → b ≠ TO → b ≠ i1 → b ≠ i2 → s.heap.get? b = some o → h₅.get? b = some o := fun b o c1 c2 c3 c4 e =>
    hs₅.extBut _ _ c2 (hs₄.extBut _ _ c4 (hs₃.extBut _ _ c2 (hs₂.extBut _ _ c3 (hs₁.extBut _ _ c1 e))))
  have hz₅ : IsZip h₅ z TI TO .ellipsis := hs₅.extBut _ _ n2 (hs₄.extBut _ _ n4 (hs₃.extBut _ _ n2 (hs₂.extBut _ _ n3 hz₁)))
  have h1₅ : h₅.IsStrIter i1 (strIterType x) x t (i + 1) := ((h1₂.extBut hs₃.extBut (Ne.symm n8)).extBut hs₄.extBut n10).extBut hs₅.extBut (Ne.symm n8)
  have h2₅ : h₅.IsListIter i2 l2 (i + 1) := h2₄.extBut hs₅.extBut (Ne.symm n9)
  have hTI₅ := keep _ _ (Ne.symm n1) n5 n6 n7 hTI
  have hl2₅ := keep _ _ dl1 dl2 dl3 dl4 hl2
  show wpAny _ _ (Builtin.SmallTypes.ownedTupleHandOut (.ref z) (.ref h₅.objs.size) >>= _) _ _ _
  refine wpAny_bind ?_
  unfold Builtin.SmallTypes.ownedTupleHandOut
  have hz₆ : IsZip (h₅.push { cls := .type "tuple", data := .seq #[.str ⟨#[c]⟩ s.toks, y] }) z TI TO .ellipsis := Heap.get?_push_of_some _ hz₅
  have hzlt : z < h₅.objs.size := Heap.lt_size hz₅
  refine wpAny_bind (wpAny_setField_rec hz₆ (by simp) fun h₇ hz₇ hs₇ => ?_)
  replace hz₇ : IsZip h₇ z TI TO (rawInt h₅.objs.size) := hz₇
  refine wpAny_setField_rec hz₇ (by simp) fun h₈ hz₈ hs₈ => ?_
  replace hz₈ : IsZip h₈ z TI TO (rawInt h₅.objs.size) := hz₈
  have up : ∀ b o, b ≠ z → h₅.get? b = some o → h₈.get? b = some o := fun b o c1 e => hs₈.extBut _ _ c1 (hs₇.extBut _ _ c1 (Heap.get?_push_of_some _ e))
  have hT₈ : IsPair h₈ h₅.objs.size (.str ⟨#[c]⟩ s.toks) y := hs₈.extBut _ _ (Nat.ne_of_gt hzlt) (hs₇.extBut _ _ (Nat.ne_of_gt hzlt) (Heap.get?_push_size _ rfl))
  have hz8 : h₈.objs.size = h₅.objs.size + 1 := by rw [hs₈.1, hs₇.1, Heap.size_push]
  rw [hsz] at hz₈ hT₈ hz8
  refine wpAny_pure ⟨_, rfl, wpAny_pure ?_⟩
  show Q (some (.ref h₅.objs.size)) _
  rw [hsz]
  refine hQ h₈ _ _ ⟨hz₈, up _ _ (Ne.symm n1) hTI₅, ⟨_, _, up _ _ (Ne.symm n2) hTO₅⟩, ?_, ?_, n, up _ _ dl1 hl2₅⟩ hT₈ hz8 fun b o hb e => ?_
  · obtain ⟨o, e1, e2⟩ := h1₅; exact ⟨o, up _ _ (Ne.symm n3) e1, e2⟩
  · obtain ⟨o, e1, e2⟩ := h2₅; exact ⟨o, up _ _ (Ne.symm n4) e1, e2⟩
  · simp only [List.mem_cons, List.not_mem_nil, or_false, not_or] at hb
    exact up b o hb.1 (keep b o hb.1 hb.2.1 hb.2.2.1 hb.2.2.2 e)
end
end Mine

end
section
open PySem PySem.W PySem.Calls PyProof.Rows
set_option Elab.async false
set_option maxRecDepth 100000
namespace Mine
open Sem (wp)

/-! for .. in zip(text, list) -/
end Mine

end
section
open PySem PySem.W PySem.Calls PyProof.Rows
set_option Elab.async false
set_option maxRecDepth 100000
namespace Mine

/-! own += list -/
theorem rec_con {cx : Cx} {fv : Value} {c : Nat} {r : Nat → List D → Option D} (h0 : ∀ ds, r 0 ds = none) (h : ∀ n, Con cx (n + c) fv (r n) → Con cx (n + c + 1) fv (r (n + 1))) : ∀ n, Con cx (n + c) fv (r n)
  | 0 => fun A V s ds vs d _ _ _ _ e => by rw [h0] at e; cases e
  | n + 1 => by
    have := h n (rec_con h0 h n)
    rw [show n + 1 + c = n + c + 1 by omega]
    exact this
theorem ble_self (n : Nat) : Nat.ble n n = true := Nat.ble_eq_true_of_le (Nat.le_refl n)
end Mine

end
section
open PySem PySem.W PySem.Calls PyProof.Rows
set_option Elab.async false
set_option maxRecDepth 100000
namespace Mine
open Sem (wp)

/-! set(text) where the text is slashes -/
noncomputable abbrev slash : Str := ⟨#[47]⟩
noncomputable def someS (i : Nat) : Str → Bool := fun k => decide (0 < i) && decide (k = slash)
section
variable {prog : Program} {w : World} {A : Around} {R : Result → Shared → Prop} {I : Addr} {n : Nat} {P : Nat → Value → Prop} {St : Nat → Heap → Prop}
theorem set_loop (W : Walks prog w A.in1 I [I] [I] n P St) (S : Addr) (hSI : S ≠ I) (hP : ∀ i v, P i v → ∃ t, v = .str slash t) :
    ∀ (k i : Nat) (s : Shared), n - i = k → i ≤ n → St i s.heap → s.heap.SetOf (strKind prog w) S (someS i) (if i = 0 then 0 else 1) →
      (∀ h' tk, (∀ b o, b ≠ S → b ≠ I → s.heap.get? b = some o → h'.get? b = some o) → h'.SetOf (strKind prog w) S (someS n) (if n = 0 then 0 else 1) → R (.ok (.ret .none)) { s with heap := h', toks := tk }) →
      codeAny (model prog w) A (.builtin "set.update.loop" ⟨[.ref S, .ref I], []⟩) R s := by
  intro k
  induction k with
  | zero =>
    intro i s hk hi hst hS hR
    have hin : i = n := by omega
    subst hin
    refine codeAny_builtin F.entry_set_update_loop ?_
    rw [Around.under_plainId F.plain_set_update_loop _]
    show wpAny _ A.in1 (pyNext (.ref I) >>= _) _ _ s
    refine wpAny_bind (W.done s _ _ hst fun h' tk hm => ?_)
    show wpAny _ A.in1 (ret Value.none) _ _ _
    refine wpAny_pure (hR h' tk (fun b o _ hb e => hm b o (by simpa using hb) e) ?_)
    obtain ⟨o, es, ep, t, ho, rest⟩ := hS
    exact ⟨o, es, ep, t, hm S _ (by simpa using hSI) ho, rest⟩
  | succ k ih =>
    intro i s hk hi hst hS hR
    have hlt : i < n := by omega
    refine codeAny_builtin F.entry_set_update_loop ?_
    rw [Around.under_plainId F.plain_set_update_loop _]
    show wpAny _ A.in1 (pyNext (.ref I) >>= _) _ _ s
    refine wpAny_bind (W.item i s _ _ hlt hst fun v h₁ tk hPv hst' hm => ?_)
    obtain ⟨t, rfl⟩ := hP i v hPv
    have hS' : h₁.SetOf (strKind prog w) S (someS i) (if i = 0 then 0 else 1) := by
      obtain ⟨o, es, ep, tb, ho, rest⟩ := hS
      exact ⟨o, es, ep, tb, hm S _ (by simpa using hSI) ho, rest⟩
    show wpAny _ A.in1 (holding [Value.str slash t] (setAdd S (.str slash t)) >>= _) _ _ _
    refine wpAny_bind (wpAny_holding ?_)
    unfold setAdd
    refine wpAny_holding ?_
    refine wpAny_bind ((strKind prog w).pyHash (k := slash) (strKind_is _ _ _ _) ?_)
    refine wpAny_setAddHashed_of (knd := strKind prog w) (s := { s with heap := h₁, toks := tk + 1 }) (strKind_is _ _ _ _) rfl hS' (by unfold scanBound; split <;> omega) fun h' hsb hS2 => ?_
    have hSi : h'.SetOf (strKind prog w) S (someS (i + 1)) (if i + 1 = 0 then 0 else 1) := by
      refine SetOf_congr hS2 (fun k' => ?_) ?_
      · unfold someS
        by_cases h0 : 0 < i <;> simp [h0]
      · unfold someS
        rw [if_neg (Nat.succ_ne_zero i)]
        by_cases h0 : i = 0
        · subst h0; simp
        · have : 0 < i := by omega
          simp [this, h0]
    refine wpAny_pure ⟨plainId_quiet F.plain_set_update_loop _, ih (i + 1) _ (by omega) hlt (W.frame _ h₁ _ hst' fun b hb o e => ?_) hSi fun h'' tk'' hm'' hS'' => ?_⟩
    · rw [hsb.2 b (fun h : b = S => hSI (h ▸ (by simpa using hb)))]; exact e
    · refine hR h'' tk'' (fun b o h1 h2 e => hm'' b o h1 h2 ?_) hS''
      show h'.get? b = some o
      rw [hsb.2 b h1]
      exact hm b o (by simpa using h2) e
end
theorem sub_str_set : isSubtype (.type "str") (.type "set") = pure false := by rw [isSubtype_type]; kernel_rfl
theorem sub_str_fs : isSubtype (.type "str") (.type "frozenset") = pure false := by rw [isSubtype_type]; kernel_rfl
section
variable {prog : Program} {w : World} {A : Around} {E : Value → Shared → Prop} {s : Shared}
set_option maxHeartbeats 3200000 in
theorem call_set {x : Str} {tk0 : Tok} {Q : Value → Shared → Prop} (hh : A.handled = none) (hx : ∀ (i c : Nat), x.cps[i]? = some c → c = 47) (hn : x.cps.size ≠ 0)
    (h : ∀ (h' : Heap) (tk : Nat), h'.SetOf (strKind prog w) s.heap.objs.size (someS 1) 1 → (∀ b o, s.heap.get? b = some o → h'.get? b = some o) → Q (.ref s.heap.objs.size) { s with heap := h', toks := tk }) :
    wpAny (model prog w) A (call (.type "set") [.str x tk0]) Q E s := by
  obtain ⟨c, tl, hmro⟩ := F.called_set.mro
  have hmade := F.called_set.made
  have hsub := F.called_set.sub
  refine wpAny_call (codeAny_of_tree ?_)
  show wpAny _ _ (callAny (.type "set") _) _ _ _
  refine wpAny_pure ⟨Code.quiet_builtin _ (by decide +kernel), codeAny_builtin F.entry_type_call ?_⟩
  rw [Around.under_plain (weight_type_call_type "set" [.str x tk0] []) rfl]
  have h1 := F.called_set.notType
  have h2 := F.called_set.canCreate
  have hct := F.typeCall_set_1 (.str x tk0)
  repeat (any_goals (first | assumption | wp_step))
  refine codeAny_mono (code_set_new_1 (.str x tk0) (E := E) (Q₁ := fun obj s₁ => ∃ led : Bool, obj = .ref s.heap.objs.size ∧ s₁ = { s with heap := s.heap.push { cls := .type "set", dict := none, data := .set #[] 0 (.fresh 0 0 led) } }) fun led => ⟨led, rfl, rfl⟩) fun r s₁ hr => ?_
  cases r with
  | error e => exact hr
  | ok fl =>
    cases fl with
    | ret obj =>
      obtain ⟨led, rfl, rfl⟩ := hr
      have hS : (s.heap.push { cls := .type "set", dict := none, data := .set #[] 0 (.fresh 0 0 led) }).get? s.heap.objs.size = some { cls := .type "set", dict := none, data := .set #[] 0 (.fresh 0 0 led) } := Heap.get?_push_size _ rfl
      have hT : Shared.TypeIs { s with heap := s.heap.push { cls := .type "set", dict := none, data := .set #[] 0 (.fresh 0 0 led) } } (.ref s.heap.objs.size) "set" := ⟨_, hS, rfl⟩
      have hli := F.called_set.init.lookup
      have hbi := F.called_set.init.bind (.ref s.heap.objs.size)
      repeat (any_goals (first | assumption | wp_step))
      refine codeAny_mono (codeAny_call_builtin (R := wants (fun r s₂ => r = .none ∧ ∃ h' tk, s₂ = { s with heap := h', toks := tk } ∧
          h'.SetOf (strKind prog w) s.heap.objs.size (someS 1) 1 ∧ (∀ b o, s.heap.get? b = some o → h'.get? b = some o)) E) F.called_set.init.plain F.entry_set_init (check_set_init_1 hT ?_)) fun r₂ s₂ hr₂ => ?_
      · have hss := sub_str_set
        have hsf := sub_str_fs
        have hne : (Value.type "str" == Value.type "dict") = false := by decide
        unfold Builtin.«set.__init__» noKeywords Builtin.Frozenset.updateFrom
        generalize hPI : pyIter = PI
        wp_walk
        subst hPI
        refine wpAny_pyIter_str fun o St hW hst => ?_
        refine wpAny_bind (wpAny_runValue ?_)
        have hh3 : A.in1.in1.in1.handled = none := by simp [hh]
        refine set_loop (hW _ hh3) s.heap.objs.size (by rw [Heap.size_push]; exact Nat.ne_of_lt (Nat.lt_succ_self _)) (fun i v hv => ?_) (x.cps.size - 0) 0 _ (by omega) (Nat.zero_le _) hst ?hS0 ?hR
        · obtain ⟨c, u, hc, rfl⟩ := hv
          exact ⟨u, by rw [hx i c hc]⟩
        case hS0 =>
          have hget : ((s.heap.push { cls := .type "set", dict := none, data := .set #[] 0 (.fresh 0 0 led) }).push o).get? s.heap.objs.size
              = some { cls := .type "set", dict := none, data := .set #[] 0 (.fresh 0 0 led) } := Heap.get?_push_of_some _ hS
          exact SetOf_congr ((setObjOf_fresh (knd := strKind prog w) led).setOf hget (by unfold scanBound; omega)) (fun _ => rfl) rfl
        case hR =>
          intro h' tk hm hS'
          rw [if_neg hn] at hS'
          show wpAny _ _ _ _ _ _
          refine wpAny_pure ?_
          show wpAny _ _ (ret Value.none) _ _ _
          refine wpAny_pure ⟨rfl, h', tk, rfl, SetOf_congr hS' (fun k => ?_) rfl, fun b o' e => ?_⟩
          · unfold someS
            have : 0 < x.cps.size := by omega
            simp [this]
          · have hb := Heap.lt_size e
            exact hm b o' (Nat.ne_of_lt hb) (by rw [Heap.size_push]; exact Nat.ne_of_lt (Nat.lt_succ_of_lt hb)) (Heap.get?_push_of_some _ (Heap.get?_push_of_some _ e))
      · cases r₂ with
        | error e => exact hr₂
        | ok fl₂ =>
          cases fl₂ with
          | ret r =>
            obtain ⟨rfl, h', tk, rfl, hS', hk'⟩ := hr₂
            repeat (any_goals (first | assumption | wp_step))
            exact h _ _ hS' hk'
          | _ => exact hr₂.elim
    | _ => exact hr.elim
end
end Mine

end
section
open PySem PySem.W PySem.Calls PyProof.Rows
set_option Elab.async false
set_option maxRecDepth 100000
namespace Mine
open Sem (wp)
theorem entry_set_le : entryFor table "set.__le__" = some Builtin.«frozenset.__le__» :=
  entryFor_alias (id' := "frozenset.__le__") (by kernel_rfl) (by first | rfl | decide +kernel | (unfold String.splitOn; simp +decide [String.splitOnAux])) (by decide +kernel) (by kernel_rfl)
theorem one_elem {prog : Program} {w : World} {es : Array (Int × Value)} (hn : es.size = 1) (he : ElemsOf (PySem.strKind prog w) es.toList) (hm : ∀ k : Str, someS 1 k = true ↔ ∃ e ∈ es.toList, (PySem.strKind prog w).is k e.2 = true) :
    ∃ t, es = #[((PySem.strKind prog w).hash slash, .str slash t)] := by
  obtain ⟨l⟩ := es
  match l, hn with
  | [(h0, x0)], _ =>
    obtain ⟨e, h1, h2⟩ := (hm slash).mp rfl
    have : e = (h0, x0) := by simpa using h1
    subst this
    obtain ⟨⟨k, hk, hh⟩, _⟩ := he (h0, x0) (by simp)
    have hks := (PySem.strKind prog w).inj x0 k slash hk h2
    subst hks
    have hs : ∃ t, x0 = .str slash t := by
      simp only [PySem.strKind] at h2
      cases x0 <;> simp [Value.isStrOf] at h2
      exact ⟨_, by rw [h2]⟩
    obtain ⟨t, rfl⟩ := hs
    exact ⟨t, by simp only at hh; rw [hh]⟩
theorem quiet_str (x : Str) (t : Tok) : Builtin.Frozenset.quietEq (.str x t) = pure true := rfl
theorem sub_set_set : isSubtype (.type "set") (.type "set") = pure true := by rw [isSubtype_type]; kernel_rfl
section
variable {prog : Program} {w : World} {A : Around} {E : Value → Shared → Prop} {s : Shared}
set_option maxHeartbeats 3200000 in
theorem set_le {a b : Addr} {Q : Value → Shared → Prop} (ha : s.heap.SetOf (strKind prog w) a (someS 1) 1) (hb : s.heap.SetOf (strKind prog w) b (someS 1) 1) (hu : A.units < cLine) (h : Q (.bool true) s) :
    wpAny (model prog w) A (richCompare .LtE (.ref a) (.ref b)) Q E s := by
  have ha' := ha
  have hb' := hb
  obtain ⟨oa, ea, pa, ta, hoa, ⟨hca, _, _⟩, hda, hela, hma, _, hfa, hna⟩ := ha
  obtain ⟨ob, eb, pb, tb, hob, ⟨hcb, _, _⟩, hdb, helb, hmb, _, hfb, hnb⟩ := hb
  have hTa : s.TypeIs (.ref a) "set" := ⟨_, hoa, hca⟩
  have hTb : s.TypeIs (.ref b) "set" := ⟨_, hob, hcb⟩
  refine wpAny_richCompare_same_room hTa hTb F.slot_set_le ?_ hu
  refine wpAny_call_entry F.slot_set_le hTa entry_set_le ?_ (F.args_set_le_2 _ _)
  obtain ⟨t0, hea⟩ := one_elem hna hela hma
  obtain ⟨t1, heb⟩ := one_elem hnb helb hmb
  have hsub := sub_set_set
  have hcond : ∀ {n : Nat} {t : SetTable}, t.fits n = true → ¬ ((t.place.size != n || decide (t.fill > t.mask)) = true) := fun hf => by
    simp only [SetTable.fits, Bool.and_eq_true, beq_iff_eq, decide_eq_true_eq] at hf
    simp [hf.1, Nat.not_lt.mpr hf.2]
  wp_walk
  rw [hda]
  dsimp only
  rw [if_neg (hcond hfa)]
  refine wpAny_pure (wpAny_pure (wpAny_pure (wpAny_bind ?_)))
  unfold Builtin.Frozenset.sizeOf
  refine wpAny_bind (wpAny_setEntries_of hob hdb hfb (wpAny_pure ?_))
  refine wpAny_bind ?_
  unfold Builtin.Frozenset.subsetOf Builtin.Frozenset.sizeOf
  refine wpAny_bind (wpAny_bind (wpAny_setEntries_of hoa hda hfa (wpAny_pure ?_)))
  refine wpAny_bind (wpAny_bind (wpAny_setEntries_of hob hdb hfb (wpAny_pure ?_)))
  rw [if_neg (by omega)]
  refine wpAny_bind (wpAny_setEpoch_of hoa hda hfa ?_)
  unfold Builtin.Frozenset.walkUnseen
  refine wpAny_bind (wpAny_bind (wpAny_setEntries_of hoa hda hfa (wpAny_bind (wpAny_setEntries_of hob hdb hfb ?_))))
  subst hea heb
  show wpAny _ _ (forIn ([_, _] : List (Int × Value)) _ _ >>= _) _ _ _
  simp only [List.forIn_cons, List.forIn_nil, quiet_str, pure_bind, Bool.not_true, Bool.false_eq_true, if_false]
  refine wpAny_pure ?_
  show wpAny _ _ (forIn ([_] : List (Int × Value)) _ _ >>= _) _ _ _
  simp only [List.forIn_cons, List.forIn_nil]
  refine wpAny_bind (wpAny_bind (wpAny_bind (wpAny_holding (wpAny_setFind_of (knd := PySem.strKind prog w) (strKind_is _ _ _ _) rfl hb' fun r hr => ?_))))
  rw [if_neg (by rw [Option.isNone_iff_eq_none]; intro e; rw [e] at hr; exact absurd hr (by decide))]
  unfold Builtin.Frozenset.unchanged
  refine wpAny_bind (wpAny_bind (wpAny_setEpoch_of hoa hda hfa ?_))
  rw [if_neg (by simp)]
  exact wpAny_pure (wpAny_pure (wpAny_pure (wpAny_pure (wpAny_pure ⟨_, rfl, ⟨(by intro e; cases e), h⟩⟩))))
end
end Mine

end
section
open PySem PySem.W PySem.Calls PyProof.Rows
set_option Elab.async false
set_option maxRecDepth 100000
namespace Mine
open Sem (wp)

/-! an object of the one class -/
noncomputable def sepsObj (P : Params) (tk : Tok) (v : Value) : Obj := { cls := .type "dict", data := .dict #[{ hash := PyData.keyHash P (Str.ofString "seps"), key := .str (Str.ofString "seps") tk, val := v }] 1 }
noncomputable def instRel (P : Params) (C : Addr) : Heap → Avd → List Nat → Value → Prop := fun h Av q v =>
  ∃ x dx tk t, v = .ref x ∧ h.get? x = some (instObj C dx) ∧ h.get? dx = some (sepsObj P tk (.str ⟨q.toArray⟩ t)) ∧ ¬ Av x ∧ ¬ Av dx ∧ (∀ c ∈ q, c = 47) ∧ q.length ≤ 1000
theorem instRel_mono {P : Params} {C : Addr} {h h' : Heap} {Av Av' : Avd} {q : List Nat} {v : Value} (hk : ∀ a o, ¬ Av a → h.get? a = some o → h'.get? a = some o) (ha : ∀ a, Av' a → Av a ∨ h.get? a = Option.none) : instRel P C h Av q v → instRel P C h' Av' q v := by
  rintro ⟨x, dx, tk, t, e, h1, h2, a1, a2, hq⟩
  exact ⟨x, dx, tk, t, e, hk _ _ a1 h1, hk _ _ a2 h2, not_av ha a1 h1, not_av ha a2 h2, hq⟩
theorem put_seps (P : Params) (tk : Tok) (v : Value) : Obj.putName (Str.ofString "seps") (PyData.keyHash P (Str.ofString "seps")) (.str (Str.ofString "seps") tk) v emptyDict = sepsObj P tk v := rfl

theorem glob_any {cx : Cx} {M : Model} {A : Around} {E : Value → Shared → Prop} {s : Shared} {env : Env} {x : Str} {v : Value} {Q : Value → Shared → Prop} (hb : ∀ a o, cx.h₁.get? a = some o → s.heap.get? a = some o)
    (hk : env.scope.kind = .function) (hkx : env.kindOf x = some .globalImplicit) (hg : env.globals = mainGlobals) (hbl : env.builtins = builtinsNs) (hv : (cx.mg x).or (cx.mb x) = some v) (hQ : Q v s) : wpAny M A (loadName env x) Q E s := by
  have hgn : s.heap.Ns mainGlobals cx.mg := cx.hg.keeps hb
  have hbn : s.heap.Ns builtinsNs cx.mb := cx.hb.keeps hb
  unfold loadName
  simp only [Env.blockKind, hk, hkx, ScopeKind.isAnnotationScope, Bool.false_and, Bool.false_eq_true, if_false]
  unfold loadGlobal
  rw [hg, hbl]
  refine wpAny_bind (wpAny_nsGet hgn ?_)
  cases hm : cx.mg x with
  | some v' =>
    rw [hm] at hv
    cases hv
    exact wpAny_pure hQ
  | none =>
    rw [hm] at hv
    refine wpAny_bind (wpAny_nsGet hbn ?_)
    have hv' : cx.mb x = some v := hv
    rw [hv']
    exact wpAny_pure hQ

theorem callWith_type1' {M : Model} {A : Around} {E : Value → Shared → Prop} {s : Shared} {pos : Pos} {Q : Value → Shared → Prop} {T : String} {t : Sem Value} (h : wpAny M A t (fun v s₁ => wpAny M A (call (.type T) [v]) Q E s₁) E s) : wpAny M A (callWith pos (.type T) [] [(false, t)] []) Q E s :=
  PyProof.Rows.callWith_type rfl (Calls.evalArgs_plain (Calls.spliced_cons (wpAny_mono h (fun _ _ h₁ => Calls.spliced_nil h₁) fun _ _ e => e)))
noncomputable abbrev initScope : Scope := { kind := .function, names := [(Str.ofString "self", .local), (Str.ofString "seps", .local), (Str.ofString "set", .globalImplicit), (Str.ofString "_default_seps", .globalImplicit)], isGenerator := false, isCoroutine := false }
noncomputable abbrev initBody (p1 p2 p3 p4 p5 p6 p7 p8 p9 p10 p11 p12 p13 p14 : Pos) (msg : Option PySem.Expr) : List Stmt :=
  [.Assert (.BoolOp .And [.Name (Str.ofString "seps") p1, .Compare (.Call (.Name (Str.ofString "set") p2) [.Name (Str.ofString "seps") p3] [] p4) [.LtE] [.Call (.Name (Str.ofString "set") p5) [.Name (Str.ofString "_default_seps") p6] [] p7] p8] p9) msg p10,
   .Assign [.Attribute (.Name (Str.ofString "self") p11) (Str.ofString "seps") p12] (.Name (Str.ofString "seps") p13) p14]

noncomputable def makeF : List D → Option D
  | [.str q] => if q ≠ [] ∧ (∀ c ∈ q, c = 47) ∧ q.length ≤ 1000 then some (.inst q) else none
  | _ => none

theorem con_class {cx : Cx} {K : Frag} {C fI : Addr} {o : Obj} {fd : FuncData} {dt : Tok} {p1 p2 p3 p4 p5 p6 p7 p8 p9 p10 p11 p12 p13 p14 : Pos} {msg : Option PySem.Expr}
    (hI : cx.inst = instRel cx.w.params C) (X : K.In cx.h₁) (hm : makesIn K C = true) (hi : findIn K (.ref C) "__init__" = some (some (.ref fI))) (hf : typeIn K (.ref fI) = some (.type "function"))
    (ho : cx.h₁.get? fI = some o) (hd : o.data = .func fd) (hcd : cx.h₁.CodeRec fd.code fd.qualname) (hbody : fd.body = .stmts (initBody p1 p2 p3 p4 p5 p6 p7 p8 p9 p10 p11 p12 p13 p14 msg)) (hsc : fd.scope = initScope)
    (hg : fd.globals = mainGlobals) (hbl : fd.builtins = builtinsNs) (hcl : fd.closure = [])
    (hbind : ∀ (s : Shared) (x y : Value), (∀ a o, cx.h₁.get? a = some o → s.heap.get? a = some o) → BindsTo s fd ⟨[x, y], []⟩ [(Str.ofString "self", x), (Str.ofString "seps", y)])
    (hset : (cx.mg (Str.ofString "set")).or (cx.mb (Str.ofString "set")) = some (.type "set")) (hdef : (cx.mg (Str.ofString "_default_seps")).or (cx.mb (Str.ofString "_default_seps")) = some (.str slash dt))
    (hs : findIn K (.ref C) "__setattr__" = some (some (.builtin "object.__setattr__"))) (hp : plainOver K C = true) (ht : takerIn K C (Str.ofString "seps") = some none) (hh : (clsIn K C).any (·.hasDict) = true) :
    Con cx 4 (.ref C) makeF := fun A V s ds vs r hA hV hb ra h => by
  unfold makeF at h
  split at h
  · split at h
    · rename_i q hq
      cases h
      rw [RdAll] at ra; obtain ⟨v, l, rfl, ra, rb⟩ := ra
      rw [RdAll] at rb; subst rb
      rw [Rd] at ra; obtain ⟨t, rfl, _, hz⟩ := ra
      obtain ⟨hne, hsl, hlen⟩ := hq
      refine W.call (_root_.Mine.C.of_any ?_)
      obtain ⟨h0, g, d, tk, os⟩ := s
      have XK : K.In h0 := X.keeps hb.2
      refine make_core (makes_of XK hm) (looks_findIn XK hi) (fun self => bind_fn XK self hf) (.inl rfl) ?_
      have hk1 : ∀ b o, h0.get? b = some o → ((h0.push emptyDict).push (instObj C h0.objs.size)).get? b = some o := fun b o e => Heap.get?_push_of_some _ (Heap.get?_push_of_some _ e)
      have hbk : ∀ a o, cx.h₁.get? a = some o → ((h0.push emptyDict).push (instObj C h0.objs.size)).get? a = some o := fun a o e => hk1 a o (hb.2 a o e)
      have hdep : (A.under (.builtin "type.__call__" ⟨.ref C :: [.str ⟨q.toArray⟩ t], []⟩)).depth = A.depth + 1 := depth_under_make _ _ _
      have hun : (A.under (.builtin "type.__call__" ⟨.ref C :: [.str ⟨q.toArray⟩ t], []⟩)).units = A.units + 1 := units_under_make _ _ _
      have hha : (A.under (.builtin "type.__call__" ⟨.ref C :: [.str ⟨q.toArray⟩ t], []⟩)).handled = none := hA.1
      generalize (A.under (.builtin "type.__call__" ⟨.ref C :: [.str ⟨q.toArray⟩ t], []⟩)) = B at *
      have hszh : ((h0.push emptyDict).push (instObj C h0.objs.size)).objs.size = h0.objs.size + 2 := by rw [Heap.size_push, Heap.size_push]
      refine codeAny_call_def (binds := [(Str.ofString "self", .ref (h0.objs.size + 1)), (Str.ofString "seps", .str ⟨q.toArray⟩ t)]) (by have := hA.2.1; omega) (hbk fI o ho) hd ((cx.lim.keeps hb.2).keeps hk1) (hcd.keeps hbk) hbody
        (hbind _ _ _ hbk) (by rw [hsc]; decide) (by rw [hsc]; intro x hx; simp only [List.mem_cons, List.not_mem_nil, or_false] at hx; rcases hx with rfl | rfl <;> rfl) ?_ (by rw [hsc]) (by rw [hsc]) (by rw [hsc])
      intro h1 hns hk2
      dsimp only at hns hk2 ⊢
      rw [hszh] at hns ⊢
      have F : Fr h0 (h0.objs.size + 2) h1 (fun x => ([(Str.ofString "self", .ref (h0.objs.size + 1)), (Str.ofString "seps", .str ⟨q.toArray⟩ t)] : List (Str × Value)).reverse.lookup x) := ⟨hns, fun b o e => hk2 b o (hk1 b o e), by omega⟩
      have hget1 : h0.get? h0.objs.size = none := get_none (Nat.le_refl _)
      have hget2 : h0.get? (h0.objs.size + 1) = none := get_none (Nat.le_succ _)
      have N : News h0 (h0.objs.size + 2) h1 ([(h0.objs.size + 1, instObj C h0.objs.size)] ++ (h0.objs.size, emptyDict) :: []) := by
        intro p hp
        simp only [List.cons_append, List.nil_append, List.mem_cons, List.not_mem_nil, or_false] at hp
        rcases hp with rfl | rfl
        · exact ⟨hk2 _ _ (by heap_get), by simp, hget2⟩
        · exact ⟨hk2 _ _ (by heap_get), by simp, hget1⟩
      generalize hL : h0.objs.size + 2 = L at *
      have henv : callEnv fd L fI = callEnv fd L fI := rfl
      generalize hE : callEnv fd L fI = env at *
      have hEk : env.scope.kind = .function := by rw [← hE]; show fd.scope.kind = _; rw [hsc]
      have hEn : ∀ x, env.kindOf x = initScope.names.lookup x := fun x => by rw [← hE]; show fd.scope.names.lookup x = _; rw [hsc]
      have hEg : env.globals = mainGlobals := by rw [← hE]; exact hg
      have hEb : env.builtins = builtinsNs := by rw [← hE]; exact hbl
      have hEl : env.locals = L := by rw [← hE]; rfl
      generalize hm' : (fun x => ([(Str.ofString "self", .ref (h0.objs.size + 1)), (Str.ofString "seps", .str ⟨q.toArray⟩ t)] : List (Str × Value)).reverse.lookup x) = m at *
      have hmself : m (Str.ofString "self") = some (.ref (h0.objs.size + 1)) := by rw [← hm']; rfl
      have hmseps : m (Str.ofString "seps") = some (.str ⟨q.toArray⟩ t) := by rw [← hm']; rfl
      have hloc : ∀ {A' : Around} {E' : Value → Shared → Prop} {s' : Shared} {x : Str} {p : Pos} {v : Value} {Q : Value → Shared → Prop}, Fr h0 L s'.heap m → m x = some v → env.kindOf x = some .local → (x == ("__debug__" : Str)) = false → Q v s' → wpAny (model cx.prog cx.w) A' (eval (.Name x p) env) Q E' s' :=
        fun F' hv hk' hdb hQ => wpAny_Name (wpAny_loadName_local hEk hk' (hEl ▸ F'.ns) hv hQ) hdb
      have hglo : ∀ {A' : Around} {E' : Value → Shared → Prop} {s' : Shared} {x : Str} {p : Pos} {v : Value} {Q : Value → Shared → Prop}, Fr h0 L s'.heap m → (cx.mg x).or (cx.mb x) = some v → env.kindOf x = some .globalImplicit → (x == ("__debug__" : Str)) = false → Q v s' → wpAny (model cx.prog cx.w) A' (eval (.Name x p) env) Q E' s' :=
        fun F' hv hk' hdb hQ => wpAny_Name (glob_any (fun a o e => F'.keep a o (hb.2 a o e)) hEk hk' hEg hEb hv hQ) hdb
      refine wpAny_mono (Q := fun f s' => ((match f with | .ret v => v | _ => Value.none) = .none) ∧ Ext ⟨h0, g, d, tk, os⟩ s' ∧ ∃ tk', s'.heap.get? (h0.objs.size + 1) = some (instObj C h0.objs.size) ∧ s'.heap.get? h0.objs.size = some (sepsObj cx.w.params tk' (.str ⟨q.toArray⟩ t))) (E := fun _ _ => False) ?_ ?_ (fun _ _ x => x.elim)
      · refine wpAny_execs_cons ?_
        refine wpAny_Assert_holds (isTrue_and (isTrue_plain (hloc F hmseps (by rw [hEn]; rfl) (by decide) ?_)))
        refine P.truthy_str (by simp only [Str.length, List.size_toArray]; omega) ?_
        rw [show ((({ cps := q.toArray } : Str).length : Int) != 0) = true from by simp [Str.length, hne]]
        refine isTrue_and (wpAny_isTrue_Compare1 ?_)
        -- set(seps)
        refine Call_Name1 (hglo F hset (by rw [hEn]; rfl) (by decide) (callWith_type1' (hloc F hmseps (by rw [hEn]; rfl) (by decide) ?_)))
        have hhd : (B.deeper env).handled = none := hha
        refine call_set hhd (fun i c hc => ?_) (by simp [hne]) fun h2 tk2 S2 k2 => ?_
        · rw [← Array.getElem?_toList] at hc
          exact hsl c (List.mem_of_getElem? hc)
        dsimp only at S2 k2 ⊢
        have F2 := F.keeps k2
        have N2 := N.grown k2
        -- set(_default_seps)
        refine Call_Name1 (hglo F2 hset (by rw [hEn]; rfl) (by decide) (callWith_type1' (hglo F2 hdef (by rw [hEn]; rfl) (by decide) ?_)))
        refine call_set hhd (fun i c hc => ?_) (by decide) fun h3 tk3 S3 k3 => ?_
        · match i, hc with
          | 0, hc => simpa using hc.symm
          | i + 1, hc => simp at hc
        dsimp only at S3 k3 ⊢
        have F3 := F2.keeps k3
        have N3 := N2.grown k3
        have S2' : h3.SetOf (PySem.strKind cx.prog cx.w) h1.objs.size (someS 1) 1 := by
          obtain ⟨o', es, ep, t', ho', rest⟩ := S2
          exact ⟨o', es, ep, t', k3 _ _ ho', rest⟩
        show wpAny _ _ (richCompare .LtE _ _) _ _ _
        refine set_le (s := ⟨h3, g, d, tk3, os⟩) S2' S3 (by show B.units + 3 < cLine; have := hA.2.2; omega) ?_
        refine wpAny_truthy_bool ?_
        refine isTrue_and_nil ⟨rfl, ?_⟩
        -- self.seps = seps
        refine wpAny_execs_cons (plainObj_wpAny_Assign_Attribute (hloc F3 hmseps (by rw [hEn]; rfl) (by decide) (hloc F3 hmself (by rw [hEn]; rfl) (by decide) ?_)) rfl)
        have I3 : InstAt h3 (h0.objs.size + 1) (instObj C h0.objs.size) C (some emptyDict) := ⟨(N3 (h0.objs.size + 1, instObj C h0.objs.size) (by simp)).1, rfl, rfl, (N3 (h0.objs.size, emptyDict) (by simp)).1⟩
        have X3 : K.In h3 := XK.keeps F3.keep
        refine set_plain X3 I3 hs ?_
        refine osa_dict (s := ⟨h3, g, d, tk3 + 1, os⟩) F3 N3 X3 I3 rfl hp ht hh rfl (fun p hp' => by rw [List.mem_singleton] at hp'; subst hp'; exact Nat.succ_ne_self _) (fun p hp' => by cases hp') (put_seps _ _ _) (es := [_]) rfl (by simp) fun h4 F4 N4 => ?_
        refine wpAny_execs_nil ⟨rfl, ⟨rfl, rfl, ?_, F4.keep⟩, tk3 + 1, (N4 (h0.objs.size + 1, instObj C h0.objs.size) (by simp)).1, (N4 (h0.objs.size, sepsObj cx.w.params (tk3 + 1) (.str ⟨q.toArray⟩ t)) (List.mem_append_right _ (List.mem_singleton.mpr rfl))).1⟩
        exact Nat.le_of_lt (Heap.lt_size (N4 (h0.objs.size, sepsObj cx.w.params (tk3 + 1) (.str ⟨q.toArray⟩ t)) (List.mem_append_right _ (List.mem_singleton.mpr rfl))).1)
      · rintro f s' ⟨e1, Xt, tk', g1, g2⟩
        refine ⟨e1, _, rfl, Xt, ?_⟩
        rw [Rd, hI]
        exact ⟨_, _, tk', t, rfl, g1, g2, fun x => absurd (hV _ x) (by simp), fun x => absurd (hV _ x) (by simp), hsl, hlen⟩
    · cases h
  · cases h
end Mine

end
section
open PySem PySem.W PySem.Calls PyProof.Rows
set_option Elab.async false
set_option maxRecDepth 100000
namespace Mine

/-! a method's own call -/
noncomputable def methDef (name qn : Str) (params : Arguments) (body : List Stmt) (scope : Scope) (pm code doc : Value) : FuncData :=
  { name, qualname := qn, params, body := .stmts body, scope, globals := mainGlobals, closure := [], defaults := .none, kwdefaults := .none, doc, pyModule := pm, code, builtins := builtinsNs }
theorem con_meth {cx : Cx} {k : Nat} {a : Addr} {o : Obj} {name qn : Str} {params : Arguments} {body : List Stmt} {scope : Scope} {pm cd doc : Value} {xs rest : List Str} {g : Rho → Option (Out × Rho)}
    (ho : cx.h₁.get? a = some o) (hd : o.data = .func (methDef name qn params body scope pm cd doc)) (hcd : cx.h₁.CodeRec cd qn)
    (hbody : SS ⟨cx, scope, (xs ++ rest).map some, k⟩ body g)
    (hbind : ∀ vs : List Value, vs.length = xs.length → bindArgs (methDef name qn params body scope pm cd doc) ⟨vs, []⟩ = pure (xs.zip vs))
    (hnd : decide (xs ++ rest).Nodup = true := by decide) (hnames : decide (scope.names.map (·.1)).Nodup = true := by decide)
    (hknown : ((xs ++ rest).all fun x => scope.names.lookup x == some .local || scope.names.lookup x == some .cell) = true := by decide)
    (hco : scope.isCoroutine = false := by rfl) (hgen : scope.isGenerator = false := by rfl) (hk : scope.kind = .function := by rfl) : Con cx (k + 1) (.ref a) (runF xs.length rest.length g) := fun A V s ds vs r hA hV hbase' ra h => by
  have hbase := hbase'.2
  unfold runF at h
  split at h
  · rename_i hlen
    have hnd := of_decide_eq_true hnd
    have hnames := of_decide_eq_true hnames
    have hkn : ∀ x ∈ xs ++ rest, scope.names.lookup x = some .local ∨ scope.names.lookup x = some .cell := fun x hx => by
      have := List.all_eq_true.mp hknown x hx
      simpa using this
    have hlv : vs.length = xs.length := by rw [ra.length, hlen]
    rw [Option.map_eq_some_iff] at h
    obtain ⟨⟨out, ρ'⟩, hg, h⟩ := h
    refine W.call (C.call_function (by have := hA.2.1; omega) (hbase a o ho) hd hco hgen rfl (hcd.keeps hbase) ?_)
    rw [hbind vs hlv]
    have hmem : ∀ x, scope.names.lookup x = some .cell → (x, NameKind.cell) ∈ scope.names := fun x hx => mem_of_lookup hx
    refine wpAny_pure (wpAny_newFunctionEnv_cells hk (fun x hx => ?_) fun env he s' x => ?_)
    · have hx' : x.1 ∈ xs := (List.of_mem_zip hx).1
      rcases hkn x.1 (List.mem_append_left _ hx') with h1 | h1
      · exact .inl h1
      · exact .inr ⟨h1, cellsFrom_has _ _ _ _ (hmem _ h1)⟩
    refine ⟨(cx.lim.keeps hbase).keeps x.toInCall.keep, C.func ?_⟩
    obtain ⟨hh, tk, hs'⟩ := x.toInCall.same
    have hkeep := x.toInCall.keep
    have hEs : env.scope = scope := by rw [he]; rfl
    have hEl : env.locals = s.heap.objs.size := by rw [he]; rfl
    have hEc : env.cells = cellsFrom (s.heap.objs.size + 1) scope.names [] := by rw [he]; rfl
    have hEg : env.globals = mainGlobals := by rw [he]; rfl
    have hEb : env.builtins = builtinsNs := by rw [he]; rfl
    have hsz : s.heap.objs.size ≤ s'.heap.objs.size := by
      have h0 := x.toInCall.ns.lt
      rw [hEl] at h0; exact Nat.le_of_lt h0
    have X : Ext s s' := ⟨by rw [hs'], by rw [hs'], hsz, hkeep⟩
    have hkind : ∀ y, env.kindOf y = scope.names.lookup y := fun y => by show env.scope.names.lookup y = _; rw [hEs]
    have hge1 : cx.h₁.objs.size ≤ s.heap.objs.size := hbase'.1
    let vm : Str → Option Value := fun y => if scope.names.lookup y = some .local then bindL env.kindOf (xs.zip vs) (fun _ => none) y else bindC env.kindOf (xs.zip vs) (fun _ => none) y
    have hvm : ∀ y, vm y = (xs.zip vs).reverse.lookup y := fun y => by
      show (if scope.names.lookup y = some .local then _ else _) = _
      split
      · rename_i hy; rw [bindL_get _ _ _ _ (by rw [hkind]; exact hy)]; simp
      · rename_i hy; rw [bindC_get _ _ _ _ (by rw [hkind]; exact hy)]; simp
    have F : FrV cx scope ((xs ++ rest).map some) env V (fun _ => none) vm s' (ds.map .val ++ List.replicate rest.length .unb) := {
      scope := hEs, kind := hk, glob := hEg, blt := hEb
      base := fun b o' e => hkeep b o' (hbase b o' e)
      ns := ⟨_, x.toInCall.ns, fun y hy => by show _ = (if scope.names.lookup y = some .local then _ else _); rw [if_pos hy]⟩
      cell := fun y c hc => by
        have := x.cell y c hc
        have hy : scope.names.lookup y ≠ some .local := by
          have hm := mem_of_lookup hc
          rw [hEc] at hm
          rcases cellsFrom_mem _ _ _ _ _ hm with h' | h'
          · cases h'
          · rw [lookup_of_mem hnames h']; intro e; cases e
        show s'.heap.IsCell c (if scope.names.lookup y = some .local then _ else _)
        rw [if_neg hy]; exact this
      apart := x.apart
      fresh := fun b hb => by
        rcases hb with ⟨j, hj⟩ | hb | ⟨y, hy⟩
        · cases hj
        · subst hb; exact ⟨by rw [hEl]; exact hge1, x.toInCall.ns.lt⟩
        · have h0 := x.above y b (mem_of_lookup hy)
          exact ⟨by rw [hEl] at h0; exact Nat.le_trans hge1 (Nat.le_of_lt h0), (x.cell y b hy).lt⟩
      nsCell := fun y hy => Nat.lt_irrefl _ (x.above y _ (mem_of_lookup hy))
      av := fun b hb => Nat.lt_of_lt_of_le (hV b hb) hsz
      len := by simp [hlen]
      tabInj := fun i j y h1 h2 => by
        rw [List.getElem?_map, Option.map_eq_some_iff] at h1 h2
        obtain ⟨y1, h1, e1⟩ := h1
        obtain ⟨y2, h2, e2⟩ := h2
        cases e1; cases e2
        have hi : i < (xs ++ rest).length := by
          rcases Nat.lt_or_ge i (xs ++ rest).length with h' | h'
          · exact h'
          · rw [List.getElem?_eq_none h'] at h1; cases h1
        exact (List.getElem?_inj hi hnd).mp (h1.trans h2.symm)
      cellNL := fun y c hc => by
        have hm := mem_of_lookup hc
        rw [hEc] at hm
        rcases cellsFrom_mem _ _ _ _ _ hm with h' | h'
        · cases h'
        · rw [lookup_of_mem hnames h']; intro e; cases e
      known := fun i y h1 => by
        rw [List.getElem?_map, Option.map_eq_some_iff] at h1
        obtain ⟨y1, h1, e1⟩ := h1
        cases e1
        rcases hkn y (List.mem_of_getElem? h1) with h' | h'
        · exact .inl h'
        · exact .inr ⟨.inl h', by rw [hEc]; exact cellsFrom_has _ _ _ _ (hmem _ h')⟩
      slots := fun i y sl h1 h2 => by
        rw [List.getElem?_map, Option.map_eq_some_iff] at h1
        obtain ⟨y1, h1, e1⟩ := h1
        cases e1
        rcases Nat.lt_or_ge i xs.length with hi | hi
        · rw [List.getElem?_append_left hi] at h1
          rw [List.getElem?_append_left (by simpa [hlen] using hi), List.getElem?_map, Option.map_eq_some_iff] at h2
          obtain ⟨d', h2, e2⟩ := h2
          subst e2
          obtain ⟨v', hv', q⟩ := ra.get h2
          refine ⟨v', by rw [hvm]; exact lookup_zip_rev (List.nodup_append.mp hnd).1 hlv h1 hv', ?_⟩
          refine q.mono (fun b o' _ e => hkeep b o' e) fun b hb => ?_
          rcases hb with hb | ⟨j, hj⟩ | hb | ⟨z, hz⟩
          · exact .inl hb
          · cases hj
          · exact .inr (get_none (by rw [hb, hEl]; exact Nat.le_refl _))
          · exact .inr (get_none (by have h0 := x.above z b (mem_of_lookup hz); rw [hEl] at h0; exact Nat.le_of_lt h0))
        · rw [List.getElem?_append_right (by simpa [hlen] using hi)] at h2
          have := List.mem_of_getElem? h2
          rw [List.mem_replicate] at this
          rw [this.2]; trivial
      ownInj := fun i j b h1 _ => by cases h1
      ownSlot := fun i b h1 => by cases h1
      ownApart := fun i b h1 => by cases h1
      ownNP := fun i b h1 => by cases h1 }
    have hA' : Room (A.deeper env) k := ⟨hA.1, by show A.depth + 1 + k < _; have := hA.2.1; omega, by show A.units + 3 + 8 * k + 200 < _; have := hA.2.2; omega⟩
    refine W.mono (hbody (A.deeper env) env V (fun _ => none) vm s' _ out ρ' hA' F hg) fun fl s₂ ⟨ok, O2, vm2, F2, T2⟩ => ?_
    have X2 : Ext s s₂ := ⟨T2.gens.trans X.gens, T2.os.trans X.os, Nat.le_trans X.size T2.size, fun b o' e => T2.keep b o' (fun hm => by
      have hb := Heap.lt_size e
      rcases hm with ⟨j, hj⟩ | hm | ⟨z, hz⟩
      · cases hj
      · rw [hm, hEl] at hb; exact Nat.lt_irrefl _ hb
      · have h0 := x.above z b (mem_of_lookup hz); rw [hEl] at h0; exact Nat.lt_irrefl _ (Nat.lt_trans hb h0)) (hkeep b o' e)⟩
    cases out with
    | next =>
      have : fl = .next := ok
      subst this
      cases h
      exact ⟨_, rfl, X2, by rw [Rd]⟩
    | ret d =>
      obtain ⟨v, rfl, q⟩ := ok
      cases h
      exact ⟨v, rfl, X2, q⟩
  · cases h

/-! a call of the class -/
section
variable {prog : Program} {w : World} {A : Around} {s : Shared}
theorem callWith_mach {pos : Pos} {f : Value} {first : List Value} {args : List (Bool × Sem Value)} {Q : Value → Shared → Prop} (hs : args.any (·.1) = false)
    (h : W prog w A (spliced args) (fun vs s₁ => W prog w A (keeperOf f) (fun k s' => k = .machine ∧ s' = s₁) s₁ ∧ W prog w A (PySem.call f (first ++ vs)) Q s₁) s) : W prog w A (callWith pos f first args []) Q s := by
  unfold callWith
  refine W.bind (W.holding (evalArgs_ok hs (W.mono h fun vs s₁ ⟨hk, h₁⟩ => W.bind (W.standAt ?_))))
  refine W.bind (W.mono hk fun k s' ⟨e1, e2⟩ => ?_)
  subst e1 e2
  simp only [hs, List.any_nil, Bool.or_false]
  exact W.bind (W.mono h₁ fun r s₂ hr => W.bind (W.holding (W.point (W.pure hr))))
end
theorem keep_cls {prog : Program} {w : World} {A : Around} {s : Shared} {C : Addr} (Y : Makes (model prog w) s.heap C) : W prog w A (keeperOf (.ref C)) (fun k s' => k = .machine ∧ s' = s) s := by
  refine W.of_any ?_
  obtain ⟨⟨oc, od, cd, sl, hC, e1, e2, e4⟩, made, base, self, top, call, typ⟩ := Y
  unfold keeperOf
  refine wpAny_bind (wpAny_load hC ?_)
  dsimp only
  refine wpAny_bind (call.here ?_)
  exact wpAny_pure ⟨rfl, rfl⟩
section
variable {J : Jd}
theorem x_make {fn : Str} {C : Addr} {K : Frag} {p pos : Pos} {es : List PySem.Expr} {F : List D → Option D} {g : Rho → Option (List D)} {k : Nat} (hc : Con J.cx k (.ref C) F) (X : K.In J.cx.h₁) (hm : makesIn K C = true) (hv : (J.cx.mg fn).or (J.cx.mb fn) = some (.ref C)) (hes : SEs J es g)
    (hk : Nat.ble k J.k = true := by rfl) (hl : J.sc.names.lookup fn = some .globalImplicit := by rfl) (hst : es.any isStarred = false := by rfl) (hdb : (fn == ("__debug__" : Str)) = false := by rfl) :
    SE J (.Call (.Name fn p) es [] pos) (callE F g) := fun A env P O vm s ρ d hA Fr h => by
  unfold callE at h
  rw [Option.bind_eq_some_iff] at h
  obtain ⟨ds, hds, h⟩ := h
  show W _ _ A (do callWith pos (← eval (.Name fn p) env) [] (backTo pos (starEach es env)) []) _ s
  rw [eval_Name env fn p hdb]
  refine W.bind (W.bind (W.standAt (Fr.glob_ hl hv ?_)))
  have hb := backTo_plain pos env hst
  refine callWith_mach hb.1 (W.mono (hes A env P O vm s ρ ds pos hA Fr hds) fun vs s₁ ⟨X1, r1⟩ => ⟨keep_cls (makes_of (X.keeps (Fr.ext X1).base) hm), ?_⟩)
  exact W.mono (hc A (Av env P O) s₁ ds vs d (hA.le (le_of_ble hk)) (fun q hq => (Fr.ext X1).avLt hq) (Fr.ext X1).baseOf r1 h) fun v s₂ ⟨X2, r2⟩ => ⟨X1.trans X2, r2⟩
end

/-! methods of that object -/
noncomputable def isInstD : D → Bool | .inst _ => true | _ => false
structure MethK (cx : Cx) (K : Frag) (C : Addr) (name : Str) (f : Addr) : Prop where
  inst : cx.inst = instRel cx.w.params C
  inK : K.In cx.h₁
  ga : findIn K (.ref C) "__getattribute__" = some (some (.builtin "object.__getattribute__"))
  no : findIn K (.ref C) "__getattr__" = some none
  found : findIn K (.ref C) name = some (some (.ref f))
  fn : typeIn K (.ref f) = some (.type "function")
  other : (PySem.Value.str (Str.ofString "seps") 0).isStr name = false
  keep : KeepOk (.ref f) cx.h₁
theorem get_inst {cx : Cx} {K : Frag} {C f : Addr} {name : Str} (M : MethK cx K C name f) {A : Around} {V : Avd} {s : Shared} {d : D} {v : Value} {pl : Sem Bool} {Q : Value × List Value → Shared → Prop} (hb : ∀ a o, cx.h₁.get? a = some o → s.heap.get? a = some o) (hp : isInstD d = true) (r : Rd cx s.heap V d v)
    (h : Q (.ref f, [v]) s) : wpAny (model cx.prog cx.w) A (getMethod v name pl) Q (fun _ _ => False) s := by
  unfold isInstD at hp
  split at hp
  · rw [Rd, M.inst] at r
    obtain ⟨x, dx, tk, t, rfl, h1, h2, _⟩ := r
    refine method_fn (M.inK.keeps hb) (ox := instObj C dx) (od := some (sepsObj cx.w.params tk (.str _ t))) ⟨h1, rfl, rfl, h2⟩ M.ga M.no M.found M.fn ?_ h
    show (lookIn name _).map _ = _
    unfold lookIn sepsObj
    have : (PySem.Value.str (Str.ofString "seps") tk).isStr name = false := M.other
    simp [this, DictEntry.refKey]
  · cases hp
section
variable {J : Jd}
theorem x_methI {o : PySem.Expr} {name : Str} {C fa : Addr} {K : Frag} {apos pos : Pos} {es : List PySem.Expr} {f : Rho → Option D} {g : Rho → Option (List D)} {F : List D → Option D} {k : Nat} (M : MethK J.cx K C name fa) (hc : Con J.cx k (.ref fa) F) (ho : SE J o f) (hes : SEs J es g)
    (hk : Nat.ble k J.k = true := by rfl) (hs : notSuperCall o = true := by rfl) (hst : es.any isStarred = false := by rfl) (hlen : Nat.ble (es.length + 1) 29 = true := by rfl) (hp : apos.endLine = pos.line := by rfl) :
    SE J (.Call (.Attribute o name apos) es [] pos) (methE isInstD F f g) := fun A env P O vm s ρ d hA Fr h => by
  unfold methE at h
  rw [Option.bind_eq_some_iff] at h
  obtain ⟨a, ha, h⟩ := h
  rw [Option.bind_eq_some_iff] at h
  obtain ⟨as, has, h⟩ := h
  split at h
  · rename_i hpa
    have hlen' := le_of_ble hlen
    rw [method_split hs hst (by omega) hp]
    refine W.bind (W.mono (ho A env P O vm s ρ a hA Fr ha) fun v s₁ ⟨X1, r1⟩ => W.bind (W.standAt (W.bind (W.holding (W.of_any (get_inst M (Fr.ext X1).base hpa r1 ?_))))))
    have hb := backTo_plain pos env hst
    refine callWith_ok hb.1 (by rw [hb.2]; omega) (W.mono (hes A env P O vm s₁ ρ as pos hA (Fr.ext X1) has) fun vs s₂ ⟨X2, r2⟩ => ⟨?_, ?_⟩)
    · rcases M.keep with ⟨a, o, fd, e, ho, hd⟩ | hk
      · exact .inl ⟨a, o, fd, e, (Fr.ext (X1.trans X2)).base a o ho, hd⟩
      · exact .inr hk
    have X := X1.trans X2
    exact W.mono (hc A (Av env P O) s₂ (a :: as) (v :: vs) d (hA.le (le_of_ble hk)) (fun q hq => (Fr.ext X).avLt hq) (Fr.ext X).baseOf (RdAll.cons (r1.keep X2.keep) r2) h) fun v s₃ ⟨X3, r3⟩ => ⟨X.trans X3, r3⟩
  · cases h
end
end Mine

end
section
open PySem PySem.W PySem.Calls PyProof.Rows
set_option Elab.async false
set_option maxRecDepth 100000
namespace Mine

/-! texts with places to fill -/
noncomputable def strOnly (f : Rho → Option D) : Rho → Option D := fun ρ => (f ρ).bind fun d => match d with | .str l => some (.str l) | _ => none
noncomputable def catE (f : Rho → Option D) (g : Rho → Option (List Nat)) : Rho → Option (List Nat) := fun ρ => (f ρ).bind fun d => match d with | .str l => (g ρ).map (l ++ ·) | _ => none
noncomputable def endE : Rho → Option (List Nat) := fun _ => some []
noncomputable def joinE (g : Rho → Option (List Nat)) : Rho → Option D := fun ρ => (g ρ).bind fun l => if l.length ≤ 1000000 then some (.str l) else none
theorem strs_append (a b : List Nat) : (⟨a.toArray⟩ : Str) ++ (⟨b.toArray⟩ : Str) = ⟨(a ++ b).toArray⟩ := by
  show (Str.mk _) = _
  simp
section
variable {J : Jd}
theorem se_fv {value : PySem.Expr} {pos : Pos} {f : Rho → Option D} (hv : SE J value f) : SE J (.FormattedValue value (-1) none pos) (strOnly f) := fun A env P O vm s ρ d hA F h => by
  unfold strOnly at h
  rw [Option.bind_eq_some_iff] at h
  obtain ⟨d0, h0, h⟩ := h
  split at h
  · cases h
    show W _ _ A (do let v ← eval value env; standAt pos; formatted pos (← holding [v] (converted (-1) v)) none) _ s
    refine W.bind (W.mono (hv A env P O vm s ρ _ hA F h0) fun v s₁ ⟨X1, r1⟩ => W.bind (W.standAt ?_))
    show W _ _ A (do let v' ← holding [v] (pure v); formatField v' Str.empty) _ s₁
    refine W.bind (W.holding (W.pure ?_))
    rw [Rd] at r1
    obtain ⟨t, rfl, hc, hz⟩ := r1
    refine W.of_any (formatField_str (fun t' tk => ⟨X1.trans (Ext.toks _), ?_⟩) (by simpa [Str.length] using hz))
    rw [Rd]
    exact ⟨t', rfl, hc, hz⟩
  · cases h
noncomputable def JP (J : Jd) (es : List PySem.Expr) (g : Rho → Option (List Nat)) : Prop :=
  ∀ (A : Around) (env : Env) (P : Avd) (O : Nat → Option Addr) (vm : Str → Option Value) (s : Shared) (ρ : Rho) (acc r : List Nat), Room A J.k → FrV J.cx J.sc J.tab env P O vm s ρ → g ρ = some r → (∀ c ∈ acc, c < 0x110000) → (acc ++ r).length ≤ 1000000 →
    W J.cx.prog J.cx.w A (joinParts ⟨acc.toArray⟩ (evalEach es env)) (fun v s' => Ext s s' ∧ Rd J.cx s'.heap (Av env P O) (.str (acc ++ r)) v) s
theorem jp_nil : JP J [] endE := fun A env P O vm s ρ acc r hA F h hc hz => by
  cases h
  rw [List.append_nil] at hz ⊢
  have hsz := szl
  refine W.of_any (joinParts_nil ⟨Ext.toks _, ?_⟩ (by simp [Str.length]; omega))
  rw [Rd]
  exact ⟨_, rfl, hc, by omega⟩
theorem jp_cons {e : PySem.Expr} {es : List PySem.Expr} {f : Rho → Option D} {g : Rho → Option (List Nat)} (he : SE J e f) (hes : JP J es g) : JP J (e :: es) (catE f g) := fun A env P O vm s ρ acc r hA F h hc hz => by
  unfold catE at h
  rw [Option.bind_eq_some_iff] at h
  obtain ⟨d0, h0, h⟩ := h
  have hsz := szl
  split at h
  · rw [Option.map_eq_some_iff] at h
    obtain ⟨r', h1, rfl⟩ := h
    rename_i l
    show W _ _ A (joinParts _ (eval e env :: evalEach es env)) _ s
    rw [joinParts]
    refine W.bind (W.mono (he A env P O vm s ρ _ hA F h0) fun v s₁ ⟨X1, r1⟩ => ?_)
    rw [Rd] at r1
    obtain ⟨t, rfl, hcl, hzl⟩ := r1
    simp only [List.length_append] at hz
    have hz' : ¬ ((⟨acc.toArray⟩ : Str).length + (⟨l.toArray⟩ : Str).length > sizeLine) := by simp only [Str.length, List.size_toArray]; omega
    refine W.bind (W.pure ?_)
    show W _ _ A (if (⟨acc.toArray⟩ : Str).length + (⟨l.toArray⟩ : Str).length > sizeLine then _ else _) _ s₁
    rw [if_neg hz', strs_append, ← List.append_assoc]
    have hnext := hes A env P O vm s₁ ρ (acc ++ l) r' hA (F.ext X1) h1 (fun c hm => (List.mem_append.mp hm).elim (hc c) (hcl c)) (by simp only [List.length_append]; omega)
    first
      | exact W.mono hnext fun v s₂ ⟨X2, r2⟩ => ⟨X1.trans X2, r2⟩
      | exact W.bind (W.pure (W.mono hnext fun v s₂ ⟨X2, r2⟩ => ⟨X1.trans X2, r2⟩))
  · cases h
theorem se_joined {e1 e2 : PySem.Expr} {es : List PySem.Expr} {pos : Pos} {g : Rho → Option (List Nat)} (h : JP J (e1 :: e2 :: es) g) : SE J (.JoinedStr (e1 :: e2 :: es) pos) (joinE g) := fun A env P O vm s ρ d hA F h0 => by
  unfold joinE at h0
  rw [Option.bind_eq_some_iff] at h0
  obtain ⟨r, hr, h0⟩ := h0
  split at h0
  · cases h0
    show W _ _ A (joinParts Str.empty (evalEach (e1 :: e2 :: es) env)) _ s
    exact h A env P O vm s ρ [] r hA F hr (fun _ hm => nomatch hm) (by simpa)
  · cases h0
end
end Mine

end
section
open PySem PySem.W PySem.Calls PyProof.Rows
set_option Elab.async false
set_option maxRecDepth 100000
namespace Mine
open Builtin Builtin.Str

/-! text.index(sign, i) -/
theorem gives_index_from (x y : Str) (i : Int) (t u v : Tok) (k : Nat) (rest : List Nat) (h : occurrences x y (fromIndex x.length i) x.length 1 = k :: rest) : Gives («str.index» ⟨[.str x t, .str y u, .int i v], []⟩) (.int k) := by
  show Gives (match occurrences x y (fromIndex x.length i) (min x.length x.length) 1 with | k :: _ => retInt k | [] => (do rule "str.index.not-found"; raiseError "ValueError" "substring not found")) _
  rw [Nat.min_self, h]
  exact .of_eq rfl
noncomputable def indexF : List D → Option D
  | [.str a, .str b, .int i] => if 0 ≤ Txt.find3 ⟨a.toArray⟩ ⟨b.toArray⟩ i then some (.int (Txt.find3 ⟨a.toArray⟩ ⟨b.toArray⟩ i)) else none
  | _ => none
theorem con_index {cx : Cx} {k : Nat} : Con cx k (.builtin "str.index") indexF := fun A V s ds vs r hA hV hb ra h => by
  unfold indexF at h
  split at h
  · rename_i a b i
    split at h
    · rename_i hi
      cases h
      rw [RdAll] at ra; obtain ⟨v, l1, rfl, ra, rb⟩ := ra
      rw [RdAll] at rb; obtain ⟨v2, l2, rfl, rb, rc⟩ := rb
      rw [RdAll] at rc; obtain ⟨v3, l3, rfl, rc, rd⟩ := rc
      rw [RdAll] at rd; subst rd
      rw [Rd] at ra; obtain ⟨t1, rfl, _, _⟩ := ra
      rw [Rd] at rb; obtain ⟨t2, rfl, _, _⟩ := rb
      rw [Rd] at rc; obtain ⟨t3, rfl⟩ := rc
      unfold Txt.find3 at hi ⊢
      cases ho : occurrences (⟨a.toArray⟩ : Str) ⟨b.toArray⟩ (fromIndex (⟨a.toArray⟩ : Str).length i) (⟨a.toArray⟩ : Str).length 1 with
      | nil => rw [ho] at hi; exact absurd hi (by decide)
      | cons k' rest =>
        exact W.of_any (call_gives F.slot_str_index (typeIs_str _ _ _) F.entry_str_index (F.args_str_index_3 _ _ _) (gives_index_from _ _ i t1 t2 t3 k' rest ho) ⟨Ext.toks _, by rw [Rd]; exact ⟨_, rfl⟩⟩)
    · cases h
  · cases h

section
variable {J : Jd}
theorem x_comp2 {scope : Scope} {elt tgt iter tgt2 iter2 : PySem.Expr} {ifs ifs2 : List PySem.Expr} {pos : Pos} {g g2 : D → Rho → Option Rho} {t t2 : Rho → Option Bool} {fe : Rho → Option D} {f f2 : Rho → Option (List D)} (vars : List Str) (cs : CompSc J scope vars) (hi : SI J tgt iter f) (ht : SAL (Jc J scope vars) tgt g) (hts : TsOk (Jc J scope vars) ifs t)
    (hi2 : SI (Jc J scope vars) tgt2 iter2 f2) (ht2 : SAL (Jc J scope vars) tgt2 g2) (hts2 : TsOk (Jc J scope vars) ifs2 t2) (he : SE (Jc J scope vars) elt fe) :
    SEF J (.ListComp elt [⟨tgt, iter, ifs, 0⟩, ⟨tgt2, iter2, ifs2, 0⟩] scope pos) (compF vars f g t (nestE f2 g2 t2 (emE fe))) := sef_comp cs turn_two0 hi ht hts (em_nest turn_two1 hi2 ht2 hts2 (em_last he))
end
end Mine

end
section
open PySem PySem.W PySem.Calls PyProof.Rows
set_option Elab.async false
set_option maxRecDepth 100000
set_option linter.unusedSimpArgs false
namespace Mine

/-! closeAt of longer texts -/
/-! the pieces have signs, and not too many -/
/-! a text's runs, each [ left out -/
/-! a text's last piece -/
/-! the pieces' forms -/
/-! a ] behind an open end -/
theorem splitC_ne (c : Nat) : ∀ l : List Nat, splitC c l ≠ []
  | [] => by simp [splitC]
  | x :: r => by
    rw [splitC]
    split
    · simp
    · split <;> simp
end Mine

end
section
open PySem PySem.W PySem.Calls PyProof.Rows
set_option Elab.async false
set_option maxRecDepth 100000
set_option maxHeartbeats 4000000
namespace Mine

noncomputable def pextend : Rho → Option (Out × Rho) := seqS (retS (joinE (catE (cE (.str [40, 63, 115, 58])) (catE (strOnly (vE 1)) (catE (cE (.str [41, 92, 90])) (endE)))))) (skS)
noncomputable def pmatch_dirs : Rho → Option (Out × Rho) := seqS (retS (joinE (catE (strOnly (vE 1)) (catE (cE (.str [91, 47, 93, 63])) (endE))))) (skS)
noncomputable def p_law_ends (G : List D → Option D) : Rho → Option (Out × Rho) := seqS (ownS 4 (listL (consF (listE (consF (vE 2) (nilF))) (nilF)))) (seqS (setS (nameA 5) (cE (.int 0))) (seqS (whileS (cmpB opLt (vE 5) (callE lenF (consF (vE 0) (nilF)))) (seqS (setS (nameA 6) (ownItemE 4 (negE (cE (.int 1))))) (seqS (setS (nameA 7) (cE (.int 1))) (seqS (ifS (cmpB opEq (itemE (vE 0) (vE 5)) (cE (.str [124]))) (seqS (appS 4 (listE (consF (vE 2) (nilF)))) (skS)) (seqS (ifS (cmpB opEq (cutE (vE 0) (intP (vE 5)) (intP (binE opAdd (vE 5) (cE (.int 4))))) (cE (.str [40, 63, 115, 58]))) (seqS (setS (nameA 7) (binE opSub (binE opAdd (methE isStrD indexF (vE 0) (consF (cE (.str [41])) (consF (vE 5) (nilF)))) (cE (.int 1))) (vE 5))) (seqS (lastS 4 (listF (compF ["place", "end"] (itE asList (vE 6)) (nameA 8) tt (nestE (itE asList (callE G (consF (cutE (vE 0) (intP (binE opAdd (vE 5) (cE (.int 4)))) (intP (binE opSub (binE opAdd (vE 5) (vE 7)) (cE (.int 1))))) (consF (vE 1) (consF (vE 8) (consF (cE (.bool true)) (nilF))))))) (nameA 9) tt (emE (vE 9)))))) (skS))) (seqS (ifS (cmpB opEq (cutE (vE 0) (intP (vE 5)) (intP (binE opAdd (vE 5) (cE (.int 2))))) (cE (.str [92, 90]))) (seqS (setS (nameA 7) (cE (.int 2))) (seqS (lastS 4 (listF (compF ["place"] (itE asList (vE 6)) (nameA 8) (cmpB opEq (vE 8) (callE lenF (consF (vE 1) (nilF)))) (emE (vE 8))))) (skS))) (seqS (ifS (cmpB opEq (cutE (vE 0) (intP (vE 5)) (intP (binE opAdd (vE 5) (cE (.int 4))))) (cE (.str [91, 47, 93, 63]))) (seqS (setS (nameA 7) (cE (.int 4))) (seqS (lastS 4 (binE opAdd (vE 6) (listF (compF ["place"] (itE asList (vE 6)) (nameA 8) (cmpB opEq (cutE (vE 1) (intP (vE 8)) (intP (binE opAdd (vE 8) (cE (.int 1))))) (cE (.str [47]))) (emE (binE opAdd (vE 8) (cE (.int 1)))))))) (skS))) (seqS (ifS (cmpB opEq (itemE (vE 0) (vE 5)) (cE (.str [46]))) (seqS (lastS 4 (listF (compF ["place"] (itE asList (vE 6)) (nameA 8) (andB (cmpB opLt (vE 8) (callE lenF (consF (vE 1) (nilF)))) (orB (truB (vE 3)) (cmpB opNe (itemE (vE 1) (vE 8)) (cE (.str [10]))))) (emE (binE opAdd (vE 8) (cE (.int 1))))))) (skS)) (seqS (lastS 4 (listF (compF ["place"] (itE asList (vE 6)) (nameA 8) (cmpB opEq (cutE (vE 1) (intP (vE 8)) (intP (binE opAdd (vE 8) (cE (.int 1))))) (itemE (vE 0) (vE 5))) (emE (binE opAdd (vE 8) (cE (.int 1))))))) (skS))) (skS))) (skS))) (skS))) (skS))) (seqS (augS 5 opIAdd (vE 7)) (skS))))) 20000000) (frzS 4 (seqS (retS (listF (compF ["way", "place"] (itE asList (vE 4)) (nameA 8) tt (nestE (itE asList (vE 8)) (nameA 9) tt (emE (vE 9)))))) (skS)))))
noncomputable def r_law_ends : Nat → List D → Option D
  | 0 => fun _ => none
  | n + 1 => runF 4 4 (p_law_ends (r_law_ends n))
noncomputable def p_law_whole : Rho → Option (Out × Rho) := seqS (ifS (cmpB opNe (callE lenF (consF (vE 0) (nilF))) (callE lenF (consF (vE 1) (nilF)))) (seqS (retS (cE (.bool false))) (skS)) (skS)) (seqS (retS (asD (cmpB opEq (listF (compF ["k"] (itE asRange (callE lenF (consF (vE 0) (nilF)))) (nameA 2) (cmpB opNotIn (itemE (vE 0) (vE 2)) (listE (consF (cE (.str [46])) (consF (itemE (vE 1) (vE 2)) (nilF))))) (emE (vE 2)))) (listE (nilF))))) (skS))
noncomputable def plaw : Rho → Option (Out × Rho) := seqS (setS (nameA 1) (listE (consF (cE (.str [97])) (consF (cE (.str [98])) (consF (cE (.str [46])) (consF (cE (.str [47])) (consF (cE (.str [124])) (consF (cE (.str [10])) (consF (cE (.str [])) (nilF)))))))))) (seqS (setS (nameA 2) (listE (consF (cE (.str [97])) (consF (cE (.str [98])) (consF (cE (.str [10])) (consF (cE (.str [47])) (consF (cE (.str [])) (consF (cE (.str [10])) (consF (cE (.str [99])) (nilF)))))))))) (seqS (setS (nameA 3) (methE isStrD joinF (cE (.str [])) (consF (listF (compF ["x"] (itE asList (vE 0)) (nameA 9) (tt) (emE (itemE (vE 1) (binE opMod (vE 9) (cE (.int 7))))))) (nilF)))) (seqS (setS (nameA 4) (methE isStrD joinF (cE (.str [])) (consF (listF (compF ["x"] (itE asList (vE 0)) (nameA 9) (tt) (emE (itemE (listE (consF (itemE (vE 2) (binE opMod (vE 9) (cE (.int 7)))) (consF (cE (.str [])) (consF (cE (.str [97])) (consF (cE (.str [98])) (consF (cE (.str [47])) (consF (cE (.str [10])) (consF (cE (.str [99])) (nilF))))))))) (binE opMod (binE opDiv (vE 9) (cE (.int 7))) (cE (.int 7))))))) (nilF)))) (seqS (setS (nameA 5) (listF (methL isStrD splitF (vE 3) (consF (cE (.str [124])) (nilF))))) (seqS (setS (nameA 6) (callE makeF (consF (cE (.str [47])) (nilF)))) (seqS (forS (itE asList (listE (consF (vE 4) (consF (binE opAdd (vE 4) (cE (.str [47]))) (consF (binE opAdd (vE 4) (cE (.str [10]))) (nilF)))))) (nameA 7) (seqS (setS (nameA 8) (asD (cmpB opNe (listF (compF ["way"] (itE asList (vE 5)) (nameA 9) (truB (callE (runF 2 0 p_law_whole) (consF (vE 9) (consF (vE 7) (nilF))))) (emE (vE 9)))) (listE (nilF))))) (seqS (ifS (cmpB opNe (asD (cmpB opNe (callE (r_law_ends 100) (consF (methE isInstD (runF 2 0 pextend) (vE 6) (consF (vE 3) (nilF))) (consF (vE 7) (consF (cE (.int 0)) (consF (cE (.bool false)) (nilF)))))) (listE (nilF)))) (vE 8)) (seqS (retS (cE (.bool false))) (skS)) (skS)) (seqS (setS (nameA 8) (orE (vE 8) (andE (asD (cmpB opEq (cutE (vE 7) (intP (negE (cE (.int 1)))) (noP)) (cE (.str [47])))) (callE (runF 2 0 p_law_whole) (consF (itemE (vE 5) (negE (cE (.int 1)))) (consF (cutE (vE 7) (noP) (intP (negE (cE (.int 1))))) (nilF))))))) (seqS (ifS (cmpB opNe (asD (cmpB opNe (callE (r_law_ends 100) (consF (methE isInstD (runF 2 0 pextend) (vE 6) (consF (methE isInstD (runF 2 0 pmatch_dirs) (vE 6) (consF (vE 3) (nilF))) (nilF))) (consF (vE 7) (consF (cE (.int 0)) (consF (cE (.bool false)) (nilF)))))) (listE (nilF)))) (vE 8)) (seqS (retS (cE (.bool false))) (skS)) (skS)) (skS)))))) (seqS (retS (cE (.bool true))) (skS))))))))
end Mine

end
section
open PySem PySem.W PySem.Calls PyProof.Rows
set_option Elab.async false
set_option maxRecDepth 100000
set_option linter.unusedSimpArgs false
namespace Mine

theorem appS_of {i : Nat} {f : Rho → Option D} {ρ ρ' : Rho} {xs : List D} {d : D} (h1 : ρ[i]? = some (.own xs)) (h2 : f ρ = some d) (h3 : xs.length < 10000000) (h4 : ρ.set i (.own (xs ++ [d])) = ρ') : appS i f ρ = some (.next, ρ') := by
  rw [appS, h1]; simp only [h2, Option.bind_some, if_pos h3, h4]
theorem lastS_of {i : Nat} {f : Rho → Option D} {ρ ρ' : Rho} {xs : List D} {d : D} (h1 : ρ[i]? = some (.own xs)) (h2 : f ρ = some d) (h3 : xs.length ≠ 0) (h4 : ρ.set i (.own (xs.set (xs.length - 1) d)) = ρ') : lastS i f ρ = some (.next, ρ') := by
  rw [lastS, h1]; simp only [h2, Option.bind_some, if_neg h3, h4]
theorem ownS_of {i : Nat} {f : Rho → Option (List D)} {ρ ρ' : Rho} {xs : List D} (h1 : f ρ = some xs) (h2 : ρ.set i (.own xs) = ρ') : ownS i f ρ = some (.next, ρ') := by
  rw [ownS, h1, Option.map_some, h2]
theorem list1_of {ρ : Rho} {a : D} {f : Rho → Option D} (h1 : f ρ = some a) : listE (consF f nilF) ρ = some (.list [a]) := by simp [listE, consF, nilF, h1]
theorem ownLast_of {ρ : Rho} {i : Nat} {xs : List D} {d : D} (h : ρ[i]? = some (.own (xs ++ [d]))) : ownItemE i (negE (cE (.int 1))) ρ = some d := by
  rw [ownItemE, h]
  show (opItem (.list (xs ++ [d])) (.int (-1))) = _
  rw [opItem, seqIndex_last (by simp)]
  simp
theorem whileS_t {t : Rho → Option Bool} {f : Rho → Option (Out × Rho)} {n : Nat} {ρ ρ1 : Rho} (h1 : t ρ = some true) (h2 : f ρ = some (.next, ρ1)) : whileS t f (n + 1) ρ = whileS t f n ρ1 := by rw [whileS, h1, Option.bind_some, if_pos rfl, h2]; rfl
theorem whileS_f {t : Rho → Option Bool} {f : Rho → Option (Out × Rho)} {n : Nat} {ρ : Rho} (h1 : t ρ = some false) : whileS t f (n + 1) ρ = some (.next, ρ) := by rw [whileS, h1, Option.bind_some, if_neg (by decide)]
theorem pures_of : ∀ ds : List D, (∀ d ∈ ds, pureD d = true) → pureDs ds = true
  | [], _ => rfl
  | d :: ds, h => by rw [pureDs, h d (by simp), pures_of ds fun x hx => h x (by simp [hx])]; rfl
theorem depth_ints : ∀ ks : List Nat, PyData.depthAll (toPys (ks.map fun k => .int (k : Nat))) ≤ 1
  | [] => by simp [toPys, PyData.depthAll]
  | k :: ks => by
    have := depth_ints ks
    simp [toPys, toPy, PyData.depthAll, PyData.depth]
    omega
noncomputable abbrev psD (ps : List Nat) : D := .list (ps.map fun p => .int (p : Nat))
theorem flat_ps (ps : List Nat) : flatD (psD ps) = true := by
  refine flat_of ?_ ?_
  · rw [pureD]
    refine pures_of _ fun d hd => ?_
    obtain ⟨x, _, rfl⟩ := List.mem_map.mp hd
    rfl
  · rw [toPy, PyData.depth]
    have := depth_ints ps
    omega
theorem eq_ps_nil (ps : List Nat) : opEq (psD ps) (.list []) = some (decide (ps = [])) := by
  have h0 : flatD (.list []) = true := flat_ps []
  rw [opEq, flat_ps, h0]
  cases ps with
  | nil => simp [deq, toPy, toPys, PyData.eqv, PyData.eqvAll]
  | cons p ps => simp [deq, toPy, toPys, PyData.eqv, PyData.eqvAll]
theorem ne_ps_nil (ps : List Nat) : opNe (psD ps) (.list []) = some (decide (ps ≠ [])) := by
  rw [opNe, eq_ps_nil]; simp
theorem cut_any {α : Type} (l : List α) (i j : Nat) : cut l (some (i : Int)) (some (j : Int)) = (l.drop i).take (j - i) := by
  rcases Nat.lt_or_ge l.length i with h | h
  · rw [List.drop_eq_nil_of_le (Nat.le_of_lt h), List.take_nil]
    unfold cut
    simp only [Option.elim, clip_nat]
    rw [Nat.min_eq_right (Nat.le_of_lt h), List.drop_length, List.take_nil]
  · exact cut_both l i j h

/-! what a way fits -/
noncomputable def okAt (t : List Nat) (c p : Nat) : Bool := if c = 46 then decide (p < t.length) else decide (t[p]? = some c)
noncomputable def stepT (t : List Nat) (c : Nat) (ps : List Nat) : List Nat := (ps.filter fun p => okAt t c p).map (· + 1)
noncomputable def runW (t : List Nat) : List Nat → List Nat → List Nat
  | [], ps => ps
  | c :: r, ps => runW t r (stepT t c ps)
noncomputable def fits (t : List Nat) : List Nat → Nat → Bool
  | [], _ => true
  | c :: r, p => okAt t c p && fits t r (p + 1)
theorem runW_nil (t : List Nat) : ∀ w : List Nat, runW t w [] = []
  | [] => rfl
  | c :: r => by rw [runW]; exact runW_nil t r
theorem runW_one (t : List Nat) : ∀ (w : List Nat) (p : Nat), runW t w [p] = if fits t w p then [p + w.length] else []
  | [], p => rfl
  | c :: r, p => by
    rw [runW, fits]
    cases h : okAt t c p with
    | true => simp [stepT, h, runW_one t r, Nat.add_assoc, Nat.add_comm 1]
    | false => simp [stepT, h, runW_nil]
noncomputable def runP (t : List Nat) (st : Nat) : List Nat → List (List Nat) → List Nat → List (List Nat)
  | [], V, ps => V ++ [ps]
  | c :: r, V, ps => if c = 124 then runP t st r (V ++ [ps]) [st] else runP t st r V (stepT t c ps)
noncomputable def outW (t : List Nat) (st : Nat) (ps : List Nat) : List (List Nat) → List (List Nat)
  | [] => []
  | w :: r => runW t w ps :: r.map fun w => runW t w [st]
theorem outW_same (t : List Nat) (st : Nat) : ∀ ws : List (List Nat), outW t st [st] ws = ws.map fun w => runW t w [st]
  | [] => rfl
  | _ :: _ => rfl
theorem runP_split (t : List Nat) (st : Nat) : ∀ (P : List Nat) (V : List (List Nat)) (ps : List Nat), runP t st P V ps = V ++ outW t st ps (splitC 124 P)
  | [], V, ps => rfl
  | c :: r, V, ps => by
    rw [runP, splitC]
    by_cases h : c = 124
    · rw [if_pos h, if_pos h, runP_split t st r, outW_same]
      simp [outW, runW]
    · rw [if_neg h, if_neg h, runP_split t st r]
      have hne := splitC_ne 124 r
      cases hs : splitC 124 r with
      | nil => exact absurd hs hne
      | cons w ws => rfl
theorem fits_all (t : List Nat) : ∀ (w : List Nat) (p : Nat), fits t w p = (List.range w.length).all fun k => okAt t (w.getD k 0) (p + k)
  | [], p => rfl
  | c :: r, p => by
    rw [fits, fits_all t r, List.length_cons, List.range_succ_eq_map, List.all_cons, List.all_map]
    congr 1
    refine List.all_congr rfl fun k => ?_
    show _ = okAt t ((c :: r).getD (k + 1) 0) (p + (k + 1))
    rw [show p + (k + 1) = p + 1 + k from by omega]
    rfl
noncomputable def wholeB (w t : List Nat) : Bool := decide (w.length = t.length) && fits t w 0

/-! _law_whole -/
theorem whole_ok {w t : List Nat} (hw : w.length ≤ 1000) (ht : t.length ≤ 1000) : runF 2 0 p_law_whole [.str w, .str t] = some (.bool (wholeB w t)) := by
  by_cases hl : w.length = t.length
  · refine runF_ret rfl (Ret.next (ρ1 := [.val (.str w), .val (.str t)]) ((ifS_f (cmpB_of (a := .int (w.length : Nat)) (b := .int (t.length : Nat)) rfl rfl ?_)).trans rfl) ?_)
    · rw [opNe, eq_int]; simp [hl]
    refine Ret.stop (Ret.of ?_)
    have hc : compF ["k"] (itE asRange (callE lenF (consF (vE 0) (nilF)))) (nameA 2) (cmpB opNotIn (itemE (vE 0) (vE 2)) (listE (consF (cE (.str [46])) (consF (itemE (vE 1) (vE 2)) (nilF))))) (emE (vE 2)) [.val (.str w), .val (.str t)] =
        some (((List.range w.length).filter fun k => !okAt t (w.getD k 0) k).map fun k => .int (k : Nat)) := by
      have hit : itE asRange (callE lenF (consF (vE 0) (nilF))) [.val (.str w), .val (.str t)] = some ((List.range w.length).map fun i => .int (i : Nat)) := by
        show asRange (.int (w.length : Nat)) = _
        rw [asRange, if_pos (by omega)]; rfl
      rw [comp1 (ds := (List.range w.length).map fun i => .int (i : Nat)) id (fun d => match d with | .int k => !okAt t (w.getD k.toNat 0) k.toNat | _ => true) rfl hit (fun d hd => ?_) (fun d hd _ => ?_) (by simp; omega)]
      · rw [List.map_id, List.filter_map]; rfl
      · obtain ⟨k, hk, rfl⟩ := List.mem_map.mp hd
        have hk' := List.mem_range.mp hk
        have hk2 : k < t.length := by omega
        have h1 : itemE (vE 0) (vE 2) [.val (.str w), .val (.str t), .val (.int (k : Nat))] = some (.str [w[k]]) := binE_of rfl rfl (item_str w k hk')
        have h2 : itemE (vE 1) (vE 2) [.val (.str w), .val (.str t), .val (.int (k : Nat))] = some (.str [t[k]]) := binE_of rfl rfl (item_str t k hk2)
        show cmpB opNotIn (itemE (vE 0) (vE 2)) (listE (consF (cE (.str [46])) (consF (itemE (vE 1) (vE 2)) (nilF)))) [.val (.str w), .val (.str t), .val (.int (k : Nat))] = _
        refine cmpB_of h1 (b := .list [.str [46], .str [t[k]]]) (by simp [listE, consF, nilF, h2, cE]) ?_
        have hgw : w.getD k 0 = w[k] := by simp [hk']
        show (opIn _ _).map not = _
        rw [opIn]
        · rw [flat_str]
          simp only [pureDs, pureD, Bool.and_true, Bool.true_and, if_true, Option.map_some, List.any_cons, List.any_nil, deq_str, Bool.or_false]
          show _ = some (!okAt t (w.getD ((k : Int).toNat) 0) ((k : Int).toNat))
          rw [Int.toNat_natCast, hgw, okAt, List.getElem?_eq_getElem hk2]
          by_cases h46 : w[k] = 46
          · simp [h46, hk2]
          · have : ¬ (46 = w[k]) := fun e => h46 e.symm
            simp [h46, this]
      · obtain ⟨k, hk, rfl⟩ := List.mem_map.mp hd
        rfl
    show (cmpB opEq (listF (compF ["k"] (itE asRange (callE lenF (consF (vE 0) (nilF)))) (nameA 2) (cmpB opNotIn (itemE (vE 0) (vE 2)) (listE (consF (cE (.str [46])) (consF (itemE (vE 1) (vE 2)) (nilF))))) (emE (vE 2)))) (listE nilF) [.val (.str w), .val (.str t)]).map D.bool = _
    rw [cmpB_of (x := decide (((List.range w.length).filter fun k => !okAt t (w.getD k 0) k) = [])) (by rw [listF, hc]; rfl) (b := .list []) rfl (eq_ps_nil _)]
    show some (D.bool _) = _
    congr 2
    rw [wholeB, decide_eq_true hl, Bool.true_and, fits_all]
    rw [Bool.eq_iff_iff]
    simp [List.filter_eq_nil_iff, List.all_eq_true]
  · refine runF_ret rfl (Ret.stop (Ret.t (cmpB_of (a := .int (w.length : Nat)) (b := .int (t.length : Nat)) rfl rfl ?_) (Ret.stop (Ret.of ?_))))
    · rw [opNe, eq_int]
      have : ¬ ((w.length : Int) = (t.length : Int)) := by omega
      simp [this]
    · rw [wholeB, decide_eq_false hl]; rfl
end Mine

end
section
open PySem PySem.W PySem.Calls PyProof.Rows
set_option Elab.async false
set_option maxRecDepth 100000
set_option linter.unusedSimpArgs false
namespace Mine

/-! _law_ends: its parts -/
noncomputable def cond12 : Rho → Option Bool := cmpB opLt (vE 5) (callE lenF (consF (vE 0) (nilF)))
noncomputable def t124 : Rho → Option Bool := cmpB opEq (itemE (vE 0) (vE 5)) (cE (.str [124]))
noncomputable def tGrp : Rho → Option Bool := cmpB opEq (cutE (vE 0) (intP (vE 5)) (intP (binE opAdd (vE 5) (cE (.int 4))))) (cE (.str [40, 63, 115, 58]))
noncomputable def tEnd : Rho → Option Bool := cmpB opEq (cutE (vE 0) (intP (vE 5)) (intP (binE opAdd (vE 5) (cE (.int 2))))) (cE (.str [92, 90]))
noncomputable def tOpt : Rho → Option Bool := cmpB opEq (cutE (vE 0) (intP (vE 5)) (intP (binE opAdd (vE 5) (cE (.int 4))))) (cE (.str [91, 47, 93, 63]))
noncomputable def tDot : Rho → Option Bool := cmpB opEq (itemE (vE 0) (vE 5)) (cE (.str [46]))
noncomputable def sAlt : Rho → Option (Out × Rho) := seqS (appS 4 (listE (consF (vE 2) (nilF)))) (skS)
noncomputable def cGrp (G : List D → Option D) : Rho → Option (List D) := compF ["place", "end"] (itE asList (vE 6)) (nameA 8) tt (nestE (itE asList (callE G (consF (cutE (vE 0) (intP (binE opAdd (vE 5) (cE (.int 4)))) (intP (binE opSub (binE opAdd (vE 5) (vE 7)) (cE (.int 1))))) (consF (vE 1) (consF (vE 8) (consF (cE (.bool true)) (nilF))))))) (nameA 9) tt (emE (vE 9)))
noncomputable def sGrp (G : List D → Option D) : Rho → Option (Out × Rho) := seqS (setS (nameA 7) (binE opSub (binE opAdd (methE isStrD indexF (vE 0) (consF (cE (.str [41])) (consF (vE 5) (nilF)))) (cE (.int 1))) (vE 5))) (seqS (lastS 4 (listF (cGrp G))) (skS))
noncomputable def cEnd : Rho → Option (List D) := compF ["place"] (itE asList (vE 6)) (nameA 8) (cmpB opEq (vE 8) (callE lenF (consF (vE 1) (nilF)))) (emE (vE 8))
noncomputable def sEnd : Rho → Option (Out × Rho) := seqS (setS (nameA 7) (cE (.int 2))) (seqS (lastS 4 (listF cEnd)) (skS))
noncomputable def cOpt : Rho → Option (List D) := compF ["place"] (itE asList (vE 6)) (nameA 8) (cmpB opEq (cutE (vE 1) (intP (vE 8)) (intP (binE opAdd (vE 8) (cE (.int 1))))) (cE (.str [47]))) (emE (binE opAdd (vE 8) (cE (.int 1))))
noncomputable def sOpt : Rho → Option (Out × Rho) := seqS (setS (nameA 7) (cE (.int 4))) (seqS (lastS 4 (binE opAdd (vE 6) (listF cOpt))) (skS))
noncomputable def cDot : Rho → Option (List D) := compF ["place"] (itE asList (vE 6)) (nameA 8) (andB (cmpB opLt (vE 8) (callE lenF (consF (vE 1) (nilF)))) (orB (truB (vE 3)) (cmpB opNe (itemE (vE 1) (vE 8)) (cE (.str [10]))))) (emE (binE opAdd (vE 8) (cE (.int 1))))
noncomputable def sDot : Rho → Option (Out × Rho) := seqS (lastS 4 (listF cDot)) (skS)
noncomputable def cSig : Rho → Option (List D) := compF ["place"] (itE asList (vE 6)) (nameA 8) (cmpB opEq (cutE (vE 1) (intP (vE 8)) (intP (binE opAdd (vE 8) (cE (.int 1))))) (itemE (vE 0) (vE 5))) (emE (binE opAdd (vE 8) (cE (.int 1))))
noncomputable def sSig : Rho → Option (Out × Rho) := seqS (lastS 4 (listF cSig)) (skS)
noncomputable def br12 (G : List D → Option D) : Rho → Option (Out × Rho) := ifS t124 sAlt (seqS (ifS tGrp (sGrp G) (seqS (ifS tEnd sEnd (seqS (ifS tOpt sOpt (seqS (ifS tDot sDot sSig) skS)) skS)) skS)) skS)
noncomputable def b12 (G : List D → Option D) : Rho → Option (Out × Rho) := seqS (setS (nameA 6) (ownItemE 4 (negE (cE (.int 1))))) (seqS (setS (nameA 7) (cE (.int 1))) (seqS (br12 G) (seqS (augS 5 opIAdd (vE 7)) (skS))))
noncomputable def cAll : Rho → Option (List D) := compF ["way", "place"] (itE asList (vE 4)) (nameA 8) tt (nestE (itE asList (vE 8)) (nameA 9) tt (emE (vE 9)))
theorem ends_is (G : List D → Option D) : p_law_ends G = seqS (ownS 4 (listL (consF (listE (consF (vE 2) (nilF))) (nilF)))) (seqS (setS (nameA 5) (cE (.int 0))) (seqS (whileS cond12 (b12 G) 20000000) (frzS 4 (seqS (retS (listF cAll)) skS)))) := rfl

/-! comprehensions over places -/
theorem comp_places {it : Rho → Option (List D)} {t : Rho → Option Bool} {f : Rho → Option D} {ρ ρ0 : Rho} {ps : List Nat} (F : Nat → Nat) (T : Nat → Bool) (h0 : rhoC ["place"] ρ = ρ0) (hit : it ρ = some (ps.map fun p => .int (p : Nat)))
    (ht : ∀ p ∈ ps, t (ρ0.set 8 (.val (.int (p : Nat)))) = some (T p)) (hf : ∀ p ∈ ps, T p = true → f (ρ0.set 8 (.val (.int (p : Nat)))) = some (.int (F p : Nat))) (hz : ps.length ≤ 10000000) : listF (compF ["place"] it (nameA 8) t (emE f)) ρ = some (psD ((ps.filter T).map F)) := by
  rw [listF, comp1 (ds := ps.map fun p => .int (p : Nat)) (fun d => match d with | .int k => .int (F k.toNat : Nat) | d => d) (fun d => match d with | .int k => T k.toNat | _ => true) h0 hit (fun d hd => ?_) (fun d hd h => ?_) (by simpa using hz)]
  · rw [Option.map_some, psD, List.filter_map, List.map_map, List.map_map]; rfl
  · obtain ⟨p, hp, rfl⟩ := List.mem_map.mp hd
    exact ht p hp
  · obtain ⟨p, hp, rfl⟩ := List.mem_map.mp hd
    exact hf p hp h
section
variable {a0 a1 a2 a3 a4 a5 a6 a7 : Slot}
theorem loop9 : ∀ (es : List D) (x8 x9 : Slot), ∃ y9, loopC (nameA 9) tt (emE (vE 9)) es [a0, a1, a2, a3, a4, a5, a6, a7, x8, x9] = some (es, [a0, a1, a2, a3, a4, a5, a6, a7, x8, y9])
  | [], x8, x9 => ⟨x9, rfl⟩
  | e :: es, x8, x9 => by
    obtain ⟨y9, h⟩ := loop9 es x8 (.val e)
    refine ⟨y9, ?_⟩
    show ((loopC (nameA 9) tt (emE (vE 9)) es [a0, a1, a2, a3, a4, a5, a6, a7, x8, .val e]).map fun y => ([e] ++ y.1, y.2)) = _
    rw [h]; rfl
theorem loop8 {f2 : Rho → Option (List D)} {G : D → List D} : ∀ (ds : List D) (x8 x9 : Slot), (∀ d ∈ ds, ∀ x9, f2 [a0, a1, a2, a3, a4, a5, a6, a7, .val d, x9] = some (G d)) →
    ∃ y8 y9, loopC (nameA 8) tt (nestE f2 (nameA 9) tt (emE (vE 9))) ds [a0, a1, a2, a3, a4, a5, a6, a7, x8, x9] = some (ds.flatMap G, [a0, a1, a2, a3, a4, a5, a6, a7, y8, y9])
  | [], x8, x9, _ => ⟨x8, x9, rfl⟩
  | d :: ds, x8, x9, h => by
    obtain ⟨z9, h9⟩ := loop9 (a0 := a0) (a1 := a1) (a2 := a2) (a3 := a3) (a4 := a4) (a5 := a5) (a6 := a6) (a7 := a7) (G d) (.val d) x9
    obtain ⟨y8, y9, ih⟩ := loop8 (f2 := f2) (G := G) ds (.val d) z9 fun d' hd' => h d' (by simp [hd'])
    refine ⟨y8, y9, ?_⟩
    show ((nestE f2 (nameA 9) tt (emE (vE 9)) [a0, a1, a2, a3, a4, a5, a6, a7, .val d, x9]).bind fun x => (loopC (nameA 8) tt (nestE f2 (nameA 9) tt (emE (vE 9))) ds x.2).map fun y => (x.1 ++ y.1, y.2)) = _
    rw [nestE, h d (by simp), Option.bind_some, h9, Option.bind_some, ih]
    rfl
end

/-! a turn of the loop within a group -/
noncomputable def sgn (c : Nat) : Prop := c ≠ 40 ∧ c ≠ 41 ∧ c ≠ 91 ∧ c ≠ 92
noncomputable abbrev WD (W : List (List Nat)) : List D := W.map psD
section
variable {G : List D → Option D} {t : List Nat} {st : Nat}
noncomputable abbrev rh (l t : List Nat) (st : Nat) (fr : Bool) (W : List (List Nat)) (i : Nat) (s6 s7 : Slot) : Rho := [.val (.str l), .val (.str t), .val (.int (st : Nat)), .val (.bool fr), .own (WD W), .val (.int (i : Nat)), s6, s7]
theorem take1 (t : List Nat) (p : Nat) : (t.drop p).take 1 = (t[p]?).toList := by
  rw [List.take_one, List.head?_drop]
theorem head_ne {l p : List Nat} {i c d k : Nat} (hl : l[i]? = some c) (hc : c ≠ d) : ¬ ((l.drop i).take k = d :: p) := fun e => by
  have h1 : ((l.drop i).take k)[0]? = some d := by rw [e]; rfl
  rw [List.getElem?_take] at h1
  split at h1
  · rw [List.getElem?_drop, Nat.add_zero, hl] at h1
    exact hc (Option.some.inj h1)
  · cases h1
theorem cut_of {l : List Nat} {st i k : Nat} {fr : Bool} {W : List (List Nat)} {s6 s7 : Slot} : cutE (vE 0) (intP (vE 5)) (intP (binE opAdd (vE 5) (cE (.int (k : Nat))))) (rh l t st fr W i s6 s7) = some (.str ((l.drop i).take k)) := by
  show some (D.str (cut l (some (i : Int)) (some ((i : Int) + (k : Int))))) = _
  rw [show ((i : Int) + (k : Int)) = ((i + k : Nat) : Int) from by omega, cut_any, Nat.add_sub_cancel_left]
theorem item_of {l : List Nat} {st i c : Nat} {fr : Bool} {W : List (List Nat)} {s6 s7 : Slot} (h : l[i]? = some c) : itemE (vE 0) (vE 5) (rh l t st fr W i s6 s7) = some (.str [c]) := by
  obtain ⟨hi, rfl⟩ := List.getElem?_eq_some_iff.mp h
  exact binE_of rfl rfl (item_str l i hi)
theorem last_set (V : List (List Nat)) (ps qs : List Nat) : (WD (V ++ [ps])).set ((WD (V ++ [ps])).length - 1) (psD qs) = WD (V ++ [qs]) := by
  simp [WD]
theorem turn12 {l : List Nat} {i c : Nat} {V : List (List Nat)} {ps : List Nat} {s6 s7 : Slot} (hc : sgn c) (hi : l[i]? = some c) (hV : V.length < 1000000) (hps : ps.length ≤ 1000000) :
    ∃ B6 B7, b12 G (rh l t st true (V ++ [ps]) i s6 s7) = some (.next, rh l t st true (if c = 124 then V ++ [ps] ++ [[st]] else V ++ [stepT t c ps]) (i + 1) B6 B7) := by
  refine ⟨.val (psD ps), .val (.int 1), ?_⟩
  have hlast : ownItemE 4 (negE (cE (.int 1))) (rh l t st true (V ++ [ps]) i s6 s7) = some (psD ps) := ownLast_of (xs := WD V) (by simp [WD])
  refine (seqS_next (ρ' := rh l t st true (V ++ [ps]) i (.val (psD ps)) s7) (setS_of hlast rfl)).trans ?_
  refine (seqS_next (ρ' := rh l t st true (V ++ [ps]) i (.val (psD ps)) (.val (.int 1))) (setS_of rfl rfl)).trans ?_
  have hfin : ∀ W', seqS (augS 5 opIAdd (vE 7)) (skS) (rh l t st true W' i (.val (psD ps)) (.val (.int 1))) = some (.next, rh l t st true W' (i + 1) (.val (psD ps)) (.val (.int 1))) := fun W' =>
    (seqS_next (augS_of rfl rfl rfl rfl)).trans rfl
  have hit := item_of (t := t) (st := st) (fr := true) (W := V ++ [ps]) (s6 := .val (psD ps)) (s7 := .val (.int 1)) hi
  by_cases h1 : c = 124
  · rw [if_pos h1]
    refine (seqS_next (ρ' := rh l t st true (V ++ [ps] ++ [[st]]) i (.val (psD ps)) (.val (.int 1))) ((ifS_t (cmpB_of hit rfl (by rw [eq_str, h1]; rfl))).trans ((seqS_next (appS_of (xs := WD (V ++ [ps])) rfl (list1_of (a := .int (st : Nat)) rfl) (by simp; omega) ?_)).trans rfl))).trans (hfin _)
    simp [rh, WD]
  · rw [if_neg h1]
    have e1 : t124 (rh l t st true (V ++ [ps]) i (.val (psD ps)) (.val (.int 1))) = some false := cmpB_of hit rfl (by rw [eq_str]; simp [h1])
    have e2 : tGrp (rh l t st true (V ++ [ps]) i (.val (psD ps)) (.val (.int 1))) = some false := cmpB_of (cut_of (k := 4)) rfl (by rw [eq_str, decide_eq_false (head_ne hi hc.1)])
    have e3 : tEnd (rh l t st true (V ++ [ps]) i (.val (psD ps)) (.val (.int 1))) = some false := cmpB_of (cut_of (k := 2)) rfl (by rw [eq_str, decide_eq_false (head_ne hi hc.2.2.2)])
    have e4 : tOpt (rh l t st true (V ++ [ps]) i (.val (psD ps)) (.val (.int 1))) = some false := cmpB_of (cut_of (k := 4)) rfl (by rw [eq_str, decide_eq_false (head_ne hi hc.2.2.1)])
    have e5 : tDot (rh l t st true (V ++ [ps]) i (.val (psD ps)) (.val (.int 1))) = some (decide (c = 46)) := cmpB_of hit rfl (by rw [eq_str]; simp)
    have hset : ∀ {f : Rho → Option (List D)}, listF f (rh l t st true (V ++ [ps]) i (.val (psD ps)) (.val (.int 1))) = some (psD (stepT t c ps)) → seqS (lastS 4 (listF f)) skS (rh l t st true (V ++ [ps]) i (.val (psD ps)) (.val (.int 1))) = some (.next, rh l t st true (V ++ [stepT t c ps]) i (.val (psD ps)) (.val (.int 1))) := fun hf =>
      (seqS_next (lastS_of (xs := WD (V ++ [ps])) rfl hf (by simp) (by rw [last_set]; rfl))).trans rfl
    have hb : ifS tDot sDot sSig (rh l t st true (V ++ [ps]) i (.val (psD ps)) (.val (.int 1))) = some (.next, rh l t st true (V ++ [stepT t c ps]) i (.val (psD ps)) (.val (.int 1))) := by
      by_cases h46 : c = 46
      · rw [decide_eq_true h46] at e5
        refine (ifS_t e5).trans (hset ?_)
        refine (comp_places (ps := ps) (fun p => p + 1) (fun p => okAt t c p) rfl rfl (fun p hp => ?_) (fun p hp _ => rfl) (by omega)).trans rfl
        rw [okAt, if_pos h46]
        refine (andB_of (x := decide (p < t.length)) (y := true) (cmpB_of (a := .int (p : Nat)) (b := .int (t.length : Nat)) rfl rfl ?_) rfl).trans (by simp)
        show some (decide ((p : Int) < (t.length : Int))) = _
        congr 1; rw [decide_eq_decide]; omega
      · rw [decide_eq_false h46] at e5
        refine (ifS_f e5).trans (hset ?_)
        refine (comp_places (ps := ps) (fun p => p + 1) (fun p => okAt t c p) rfl rfl (fun p hp => ?_) (fun p hp _ => rfl) (by omega)).trans rfl
        rw [okAt, if_neg h46]
        obtain ⟨hlt, rfl⟩ := List.getElem?_eq_some_iff.mp hi
        refine cmpB_of (a := .str ((t.drop p).take 1)) (b := .str [l[i]]) ?_ (binE_of rfl rfl (item_str l i hlt)) ?_
        · show some (D.str (cut t (some (p : Int)) (some ((p : Int) + 1)))) = _
          rw [show ((p : Int) + 1) = ((p + 1 : Nat) : Int) from by omega, cut_any, Nat.add_sub_cancel_left]
        · rw [eq_str, take1]
          congr 1; rw [decide_eq_decide]
          cases t[p]? <;> simp
    refine (seqS_next ((ifS_f e1).trans ((seqS_next ((ifS_f e2).trans ((seqS_next ((ifS_f e3).trans ((seqS_next ((ifS_f e4).trans ((seqS_next hb).trans rfl))).trans rfl))).trans rfl))).trans rfl))).trans (hfin _)
end
end Mine

end
section
open PySem PySem.W PySem.Calls PyProof.Rows
set_option Elab.async false
set_option maxRecDepth 100000
set_option linter.unusedSimpArgs false
namespace Mine
section
variable {G : List D → Option D} {t : List Nat} {st : Nat}
theorem cond_t {l : List Nat} {fr : Bool} {W : List (List Nat)} {i : Nat} {s6 s7 : Slot} (h : i < l.length) : cond12 (rh l t st fr W i s6 s7) = some true := by
  refine cmpB_of (a := .int (i : Nat)) (b := .int (l.length : Nat)) rfl rfl ?_
  show some (decide ((i : Int) < (l.length : Int))) = _
  congr 1; rw [decide_eq_true_iff]; omega
theorem cond_f {l : List Nat} {fr : Bool} {W : List (List Nat)} {i : Nat} {s6 s7 : Slot} (h : l.length ≤ i) : cond12 (rh l t st fr W i s6 s7) = some false := by
  refine cmpB_of (a := .int (i : Nat)) (b := .int (l.length : Nat)) rfl rfl ?_
  show some (decide ((i : Int) < (l.length : Int))) = _
  congr 1; rw [decide_eq_false_iff_not]; omega
theorem stepT_len (t : List Nat) (c : Nat) (ps : List Nat) : (stepT t c ps).length ≤ ps.length := by
  rw [stepT, List.length_map]; exact List.length_filter_le _ _
theorem loopN {l X : List Nat} : ∀ (r : List Nat) (i : Nat) (V : List (List Nat)) (ps : List Nat) (s6 s7 : Slot) (n : Nat), l.drop i = r ++ X → (∀ c ∈ r, sgn c) → ps.length ≤ 1 → V.length + r.length < 1000000 →
    ∃ B6 B7, whileS cond12 (b12 G) (r.length + n) (rh l t st true (V ++ [ps]) i s6 s7) = whileS cond12 (b12 G) n (rh l t st true (runP t st r V ps) (i + r.length) B6 B7)
  | [], i, V, ps, s6, s7, n, _, _, _, _ => ⟨s6, s7, by rw [List.length_nil, Nat.zero_add]; rfl⟩
  | c :: r, i, V, ps, s6, s7, n, hd, hc, hp, hv => by
    have hi : l[i]? = some c := by
      have : (l.drop i)[0]? = some c := by rw [hd]; rfl
      rwa [List.getElem?_drop, Nat.add_zero] at this
    have hlt : i < l.length := (List.getElem?_eq_some_iff.mp hi).1
    have hd' : l.drop (i + 1) = r ++ X := by rw [← List.drop_drop, hd]; rfl
    simp only [List.length_cons] at hv
    obtain ⟨C6, C7, ht⟩ := turn12 (G := G) (t := t) (st := st) (s6 := s6) (s7 := s7) (V := V) (ps := ps) (hc c (by simp)) hi (by omega) (by omega)
    rw [List.length_cons, show r.length + 1 + n = (r.length + n) + 1 from by omega, whileS_t (cond_t hlt) ht, runP]
    have hc' : ∀ x ∈ r, sgn x := fun x hx => hc x (by simp [hx])
    rw [show i + (r.length + 1) = i + 1 + r.length from by omega]
    by_cases h : c = 124
    · rw [if_pos h, if_pos h]
      exact loopN r (i + 1) (V ++ [ps]) [st] C6 C7 n hd' hc' (by simp) (by simp; omega)
    · rw [if_neg h, if_neg h]
      exact loopN r (i + 1) V (stepT t c ps) C6 C7 n hd' hc' (Nat.le_trans (stepT_len _ _ _) hp) (by omega)
/-! the turn of [/]? -/
noncomputable def optT (t : List Nat) (ps : List Nat) : List Nat := ps ++ (ps.filter fun p => decide (t[p]? = some 47)).map (· + 1)
theorem turnOpt {l : List Nat} {i : Nat} {V : List (List Nat)} {ps : List Nat} {s6 s7 : Slot} (hd : l.drop i = [91, 47, 93, 63]) (hps : ps.length ≤ 1000000) :
    ∃ B6 B7, b12 G (rh l t st true (V ++ [ps]) i s6 s7) = some (.next, rh l t st true (V ++ [optT t ps]) (i + 4) B6 B7) := by
  have hi : l[i]? = some 91 := by
    have : (l.drop i)[0]? = some 91 := by rw [hd]; rfl
    rwa [List.getElem?_drop, Nat.add_zero] at this
  refine ⟨.val (psD ps), .val (.int 4), ?_⟩
  have hlast : ownItemE 4 (negE (cE (.int 1))) (rh l t st true (V ++ [ps]) i s6 s7) = some (psD ps) := ownLast_of (xs := WD V) (by simp [WD])
  refine (seqS_next (ρ' := rh l t st true (V ++ [ps]) i (.val (psD ps)) s7) (setS_of hlast rfl)).trans ?_
  refine (seqS_next (ρ' := rh l t st true (V ++ [ps]) i (.val (psD ps)) (.val (.int 1))) (setS_of rfl rfl)).trans ?_
  have hit := item_of (t := t) (st := st) (fr := true) (W := V ++ [ps]) (s6 := .val (psD ps)) (s7 := .val (.int 1)) hi
  have e1 : t124 (rh l t st true (V ++ [ps]) i (.val (psD ps)) (.val (.int 1))) = some false := cmpB_of hit rfl (by rw [eq_str]; simp)
  have e2 : tGrp (rh l t st true (V ++ [ps]) i (.val (psD ps)) (.val (.int 1))) = some false := cmpB_of (cut_of (k := 4)) rfl (by rw [eq_str, decide_eq_false (head_ne hi (by decide))])
  have e3 : tEnd (rh l t st true (V ++ [ps]) i (.val (psD ps)) (.val (.int 1))) = some false := cmpB_of (cut_of (k := 2)) rfl (by rw [eq_str, decide_eq_false (head_ne hi (by decide))])
  have e4 : tOpt (rh l t st true (V ++ [ps]) i (.val (psD ps)) (.val (.int 1))) = some true := cmpB_of (cut_of (k := 4)) rfl (by rw [eq_str, hd]; rfl)
  have hcomp : listF cOpt (rh l t st true (V ++ [ps]) i (.val (psD ps)) (.val (.int 4))) = some (psD ((ps.filter fun p => decide (t[p]? = some 47)).map (· + 1))) := by
    refine comp_places (ps := ps) (fun p => p + 1) (fun p => decide (t[p]? = some 47)) rfl rfl (fun p hp => ?_) (fun p hp _ => rfl) (by omega)
    refine cmpB_of (a := .str ((t.drop p).take 1)) (b := .str [47]) ?_ rfl ?_
    · show some (D.str (cut t (some (p : Int)) (some ((p : Int) + 1)))) = _
      rw [show ((p : Int) + 1) = ((p + 1 : Nat) : Int) from by omega, cut_any, Nat.add_sub_cancel_left]
    · rw [eq_str, take1]
      congr 1; rw [decide_eq_decide]
      cases t[p]? <;> simp
  have hfl : ((ps.filter fun p => decide (t[p]? = some 47)).map (· + 1)).length ≤ ps.length := by rw [List.length_map]; exact List.length_filter_le _ _
  have hadd : binE opAdd (vE 6) (listF cOpt) (rh l t st true (V ++ [ps]) i (.val (psD ps)) (.val (.int 4))) = some (psD (optT t ps)) := by
    refine binE_of rfl hcomp ?_
    have hsz := szl
    rw [psD, opAdd, if_pos (by simp only [List.length_map] at hfl ⊢; omega), psD, optT, List.map_append]
  have hs : sOpt (rh l t st true (V ++ [ps]) i (.val (psD ps)) (.val (.int 1))) = some (.next, rh l t st true (V ++ [optT t ps]) i (.val (psD ps)) (.val (.int 4))) := by
    refine (seqS_next (ρ' := rh l t st true (V ++ [ps]) i (.val (psD ps)) (.val (.int 4))) (setS_of rfl rfl)).trans ?_
    exact (seqS_next (lastS_of (xs := WD (V ++ [ps])) rfl hadd (by simp) (by rw [last_set]; rfl))).trans rfl
  refine (seqS_next ((ifS_f e1).trans ((seqS_next ((ifS_f e2).trans ((seqS_next ((ifS_f e3).trans ((seqS_next ((ifS_t e4).trans hs)).trans rfl))).trans rfl))).trans rfl))).trans ?_
  exact (seqS_next (augS_of rfl rfl rfl rfl)).trans rfl
/-! the end of it -/
noncomputable def itemsD : D → List D | .list xs => xs | _ => []
theorem flat_items : ∀ W : List (List Nat), (WD W).flatMap itemsD = W.flatten.map fun p => .int (p : Nat)
  | [] => rfl
  | ps :: W => by
    show itemsD (psD ps) ++ (WD W).flatMap itemsD = _
    rw [flat_items W, List.flatten_cons, List.map_append]; rfl
theorem all_of {l : List Nat} {fr : Bool} {W : List (List Nat)} {i : Nat} {s6 s7 : Slot} (hz : W.flatten.length ≤ 1000000) :
    Ret (frzS 4 (seqS (retS (listF cAll)) skS)) (rh l t st fr W i s6 s7) (psD W.flatten) := by
  refine Ret.frz (xs := WD W) (ρ1 := [.val (.str l), .val (.str t), .val (.int (st : Nat)), .val (.bool fr), .val (.list (WD W)), .val (.int (i : Nat)), s6, s7]) rfl rfl (Ret.stop (Ret.of ?_))
  have hit : itE asList (vE 4) [.val (.str l), .val (.str t), .val (.int (st : Nat)), .val (.bool fr), .val (.list (WD W)), .val (.int (i : Nat)), s6, s7] = some (WD W) := rfl
  obtain ⟨y8, y9, h8⟩ := loop8 (a0 := .val (.str l)) (a1 := .val (.str t)) (a2 := .val (.int (st : Nat))) (a3 := .val (.bool fr)) (a4 := .val (.list (WD W))) (a5 := .val (.int (i : Nat))) (a6 := hideOwn s6) (a7 := hideOwn s7) (f2 := itE asList (vE 8)) (G := itemsD) (WD W) .unb .unb (fun d hd x9 => by
    obtain ⟨ps, _, rfl⟩ := List.mem_map.mp hd
    rfl)
  have hfl : (WD W).flatMap itemsD = W.flatten.map fun p => .int (p : Nat) := flat_items W
  rw [hfl] at h8
  have hsz := szl
  show (compF _ _ _ _ _ _).map D.list = _
  rw [compF, hit, Option.bind_some]
  show ((loopC (nameA 8) tt (nestE (itE asList (vE 8)) (nameA 9) tt (emE (vE 9))) (WD W) [.val (.str l), .val (.str t), .val (.int (st : Nat)), .val (.bool fr), .val (.list (WD W)), .val (.int (i : Nat)), hideOwn s6, hideOwn s7, .unb, .unb]).bind _).map D.list = _
  rw [h8, Option.bind_some, if_pos (by simp only [List.length_map]; omega)]
  rfl
theorem start_of {G : List D → Option D} {l : List Nat} {fr : Bool} {r : D} (h : ∀ s6 s7, Ret (seqS (whileS cond12 (b12 G) 20000000) (frzS 4 (seqS (retS (listF cAll)) skS))) (rh l t st fr [[st]] 0 s6 s7) r) :
    runF 4 4 (p_law_ends G) [.str l, .str t, .int (st : Nat), .bool fr] = some r := by
  rw [ends_is]
  refine runF_ret rfl (Ret.next (ρ1 := [.val (.str l), .val (.str t), .val (.int (st : Nat)), .val (.bool fr), .own (WD [[st]]), .unb, .unb, .unb]) (ownS_of (xs := WD [[st]]) ?_ rfl) ?_)
  · rfl
  · exact Ret.next (setS_of (d := .int (0 : Nat)) rfl rfl) (h _ _)
theorem flat_len : ∀ (W : List (List Nat)) (k : Nat), (∀ ps ∈ W, ps.length ≤ k) → W.flatten.length ≤ W.length * k
  | [], _, _ => by simp
  | ps :: W, k, h => by
    have h1 := h ps (by simp)
    have h2 := flat_len W k fun x hx => h x (by simp [hx])
    rw [List.flatten_cons, List.length_append, List.length_cons, Nat.succ_mul]
    omega
theorem runW_len (t : List Nat) (w : List Nat) (p : Nat) : (runW t w [p]).length ≤ 1 := by rw [runW_one]; split <;> simp
theorem inner_ok {n : Nat} {P : List Nat} (hP : ∀ c ∈ P, sgn c) (hl : P.length ≤ 1000) : r_law_ends (n + 1) [.str P, .str t, .int (st : Nat), .bool true] = some (psD ((splitC 124 P).map fun w => runW t w [st]).flatten) := by
  refine start_of fun s6 s7 => ?_
  obtain ⟨B6, B7, h⟩ := loopN (G := r_law_ends n) (t := t) (st := st) (l := P) (X := []) P 0 [] [st] s6 s7 (20000000 - P.length) (by simp) hP (by simp) (by simp; omega)
  rw [show P.length + (20000000 - P.length) = 20000000 from by omega, runP_split, outW_same, List.nil_append, List.nil_append, Nat.zero_add] at h
  have hs := splitC_len 124 P
  refine Ret.next (h.trans ((show whileS cond12 _ (20000000 - P.length) _ = _ from by
    rw [show 20000000 - P.length = (20000000 - P.length - 1) + 1 from by omega]
    exact whileS_f (cond_f (Nat.le_refl _))))) (all_of ?_)
  have := flat_len ((splitC 124 P).map fun w => runW t w [st]) 1 (fun ps hps => by obtain ⟨w, _, rfl⟩ := List.mem_map.mp hps; exact runW_len t w st)
  rw [List.length_map] at this
  omega
theorem inner2_ok {n : Nat} {P w : List Nat} {U : List (List Nat)} (hP : ∀ c ∈ P, sgn c) (hl : P.length ≤ 1000) (hU : splitC 124 P = U ++ [w]) :
    r_law_ends (n + 1) [.str (P ++ [91, 47, 93, 63]), .str t, .int (st : Nat), .bool true] = some (psD ((U.map fun w => runW t w [st]) ++ [optT t (runW t w [st])]).flatten) := by
  refine start_of fun s6 s7 => ?_
  obtain ⟨B6, B7, h⟩ := loopN (G := r_law_ends n) (t := t) (st := st) (l := P ++ [91, 47, 93, 63]) (X := [91, 47, 93, 63]) P 0 [] [st] s6 s7 (20000000 - P.length) (by simp) hP (by simp) (by simp; omega)
  rw [show P.length + (20000000 - P.length) = 20000000 from by omega, runP_split, outW_same, List.nil_append, List.nil_append, Nat.zero_add, hU, List.map_append] at h
  have hs := splitC_len 124 P
  rw [hU, List.length_append] at hs
  obtain ⟨C6, C7, h2⟩ := turnOpt (G := r_law_ends n) (t := t) (st := st) (l := P ++ [91, 47, 93, 63]) (i := P.length) (V := U.map fun w => runW t w [st]) (ps := runW t w [st]) (s6 := B6) (s7 := B7) (by simp) (by have := runW_len t w st; omega)
  refine Ret.next (h.trans ((show whileS cond12 _ (20000000 - P.length) _ = _ from by
    rw [show 20000000 - P.length = (20000000 - P.length - 2) + 1 + 1 from by omega]
    refine (whileS_t (cond_t (by simp)) h2).trans ?_
    exact whileS_f (cond_f (by simp))))) (all_of ?_)
  have := flat_len ((U.map fun w => runW t w [st]) ++ [optT t (runW t w [st])]) 2 (fun ps hps => by
    rcases List.mem_append.mp hps with hps | hps
    · obtain ⟨w, _, rfl⟩ := List.mem_map.mp hps; have := runW_len t w st; omega
    · simp only [List.mem_singleton] at hps
      subst hps
      have h1 := runW_len t w st
      have h2 := List.length_filter_le (fun p => decide (t[p]? = some 47)) (runW t w [st])
      rw [optT, List.length_append, List.length_map]; omega)
  simp only [List.length_append, List.length_map, List.length_singleton] at this hs
  omega
end
end Mine

end
section
open PySem PySem.W PySem.Calls PyProof.Rows
set_option Elab.async false
set_option maxRecDepth 100000
set_option linter.unusedSimpArgs false
namespace Mine
open StrLaws
theorem find_close {a Q r : List Nat} (ha : 41 ∉ a) (hQ : 41 ∉ Q) : Txt.find3 ⟨(a ++ Q ++ 41 :: r).toArray⟩ ⟨[41].toArray⟩ 0 = ((a.length + Q.length : Nat) : Int) := by
  have hlen : (⟨(a ++ Q ++ 41 :: r).toArray⟩ : Str).length = a.length + Q.length + (r.length + 1) := by simp [Str.length]; omega
  have hf : fromIndex (⟨(a ++ Q ++ 41 :: r).toArray⟩ : Str).length 0 = 0 := by simp [fromIndex]
  have hget : ∀ v, (⟨(a ++ Q ++ 41 :: r).toArray⟩ : Str).cps.getD v 0 = (a ++ Q ++ 41 :: r).getD v 0 := fun v => by
    generalize a ++ Q ++ 41 :: r = l
    by_cases hv : v < l.length <;> simp [Array.getD, List.getD, hv]
  have hat : (a ++ Q ++ 41 :: r).getD (a.length + Q.length) 0 = 41 := by
    rw [List.getD, List.getElem?_append_right (by simp)]
    simp
  rcases find3_spec ⟨(a ++ Q ++ 41 :: r).toArray⟩ 41 0 with ⟨_, h⟩ | ⟨k, e, _, h2, h3, h4⟩
  · exact absurd ((hget _).trans hat) (h (a.length + Q.length) (by omega) (by rw [hlen]; omega))
  · rw [show ([41].toArray : Array Nat) = #[41] from rfl, e]
    congr 1
    rw [hget] at h3
    rcases Nat.lt_trichotomy k (a.length + Q.length) with hk | hk | hk
    · have : 41 ∈ a ++ Q := by
        rw [List.getD, List.getElem?_append_left (by simpa using hk)] at h3
        have hk' : k < (a ++ Q).length := by simpa using hk
        rw [List.getElem?_eq_getElem hk'] at h3
        have h3' : (a ++ Q)[k] = 41 := h3
        rw [← h3']; exact List.getElem_mem hk'
      rcases List.mem_append.mp this with h | h
      · exact absurd h ha
      · exact absurd h hQ
    · exact hk
    · exact absurd ((hget _).trans hat) (h4 (a.length + Q.length) (by omega) hk)
section
variable {t : List Nat}
noncomputable abbrev wrapT (Q : List Nat) : List Nat := [40, 63, 115, 58] ++ Q ++ 41 :: [92, 90]
theorem outer1 {G : List D → Option D} {Q Es : List Nat} {s6 s7 : Slot} (hQ : 41 ∉ Q) (hl : Q.length ≤ 2000) (hE : G [.str Q, .str t, .int ((0 : Nat) : Int), .bool true] = some (psD Es)) (hz : Es.length ≤ 1000000) :
    ∃ B6 B7, b12 G (rh (wrapT Q) t 0 false ([] ++ [[0]]) 0 s6 s7) = some (.next, rh (wrapT Q) t 0 false ([] ++ [Es]) (Q.length + 5) B6 B7) := by
  have hi : (wrapT Q)[0]? = some 40 := rfl
  refine ⟨.val (psD [0]), .val (.int ((Q.length + 5 : Nat) : Int)), ?_⟩
  have hlast : ownItemE 4 (negE (cE (.int 1))) (rh (wrapT Q) t 0 false ([] ++ [[0]]) 0 s6 s7) = some (psD [0]) := ownLast_of (xs := WD []) (by simp [WD])
  refine (seqS_next (ρ' := rh (wrapT Q) t 0 false ([] ++ [[0]]) 0 (.val (psD [0])) s7) (setS_of hlast rfl)).trans ?_
  refine (seqS_next (ρ' := rh (wrapT Q) t 0 false ([] ++ [[0]]) 0 (.val (psD [0])) (.val (.int 1))) (setS_of rfl rfl)).trans ?_
  have hit := item_of (t := t) (st := 0) (fr := false) (W := [] ++ [[0]]) (s6 := .val (psD [0])) (s7 := .val (.int 1)) hi
  have e1 : t124 (rh (wrapT Q) t 0 false ([] ++ [[0]]) 0 (.val (psD [0])) (.val (.int 1))) = some false := cmpB_of hit rfl (by rw [eq_str]; simp)
  have e2 : tGrp (rh (wrapT Q) t 0 false ([] ++ [[0]]) 0 (.val (psD [0])) (.val (.int 1))) = some true := cmpB_of (cut_of (k := 4)) rfl (by rw [eq_str]; simp)
  have hsize : binE opSub (binE opAdd (methE isStrD indexF (vE 0) (consF (cE (.str [41])) (consF (vE 5) (nilF)))) (cE (.int 1))) (vE 5) (rh (wrapT Q) t 0 false ([] ++ [[0]]) 0 (.val (psD [0])) (.val (.int 1))) = some (.int ((Q.length + 5 : Nat) : Int)) := by
    have hx : methE isStrD indexF (vE 0) (consF (cE (.str [41])) (consF (vE 5) (nilF))) (rh (wrapT Q) t 0 false ([] ++ [[0]]) 0 (.val (psD [0])) (.val (.int 1))) = some (.int ((4 + Q.length : Nat) : Int)) := by
      show (if true = true then indexF [.str (wrapT Q), .str [41], .int 0] else none) = _
      rw [if_pos rfl, indexF, find_close (by decide) hQ, if_pos (by omega)]
      rfl
    refine binE_of (binE_of hx rfl rfl) rfl ?_
    show some (D.int (((4 + Q.length : Nat) : Int) + 1 - ((0 : Nat) : Int))) = _
    congr 2; omega
  have hcomp : listF (cGrp G) (rh (wrapT Q) t 0 false ([] ++ [[0]]) 0 (.val (psD [0])) (.val (.int ((Q.length + 5 : Nat) : Int)))) = some (psD Es) := by
    have hcall : ∀ x9, callE G (consF (cutE (vE 0) (intP (binE opAdd (vE 5) (cE (.int 4)))) (intP (binE opSub (binE opAdd (vE 5) (vE 7)) (cE (.int 1))))) (consF (vE 1) (consF (vE 8) (consF (cE (.bool true)) (nilF)))))
        [.val (.str (wrapT Q)), .val (.str t), .val (.int ((0 : Nat) : Int)), .val (.bool false), .unb, .val (.int ((0 : Nat) : Int)), .val (psD [0]), .val (.int ((Q.length + 5 : Nat) : Int)), .val (.int ((0 : Nat) : Int)), x9] = some (psD Es) := fun x9 => by
      have hcut : cutE (vE 0) (intP (binE opAdd (vE 5) (cE (.int 4)))) (intP (binE opSub (binE opAdd (vE 5) (vE 7)) (cE (.int 1)))) [.val (.str (wrapT Q)), .val (.str t), .val (.int ((0 : Nat) : Int)), .val (.bool false), .unb, .val (.int ((0 : Nat) : Int)), .val (psD [0]), .val (.int ((Q.length + 5 : Nat) : Int)), .val (.int ((0 : Nat) : Int)), x9] = some (.str Q) := by
        show some (D.str (cut (wrapT Q) (some (((0 : Nat) : Int) + 4)) (some (((0 : Nat) : Int) + ((Q.length + 5 : Nat) : Int) - 1)))) = _
        rw [show (((0 : Nat) : Int) + 4) = ((4 : Nat) : Int) from rfl, show (((0 : Nat) : Int) + ((Q.length + 5 : Nat) : Int) - 1) = ((Q.length + 4 : Nat) : Int) from by omega, cut_any]
        simp
      simp only [callE, consF, nilF, hcut, Option.bind_some, Option.map_some]
      exact hE
    obtain ⟨y8, y9, h8⟩ := loop8 (a0 := .val (.str (wrapT Q))) (a1 := .val (.str t)) (a2 := .val (.int ((0 : Nat) : Int))) (a3 := .val (.bool false)) (a4 := .unb) (a5 := .val (.int ((0 : Nat) : Int))) (a6 := .val (psD [0])) (a7 := .val (.int ((Q.length + 5 : Nat) : Int)))
      (f2 := itE asList (callE G (consF (cutE (vE 0) (intP (binE opAdd (vE 5) (cE (.int 4)))) (intP (binE opSub (binE opAdd (vE 5) (vE 7)) (cE (.int 1))))) (consF (vE 1) (consF (vE 8) (consF (cE (.bool true)) (nilF))))))) (G := fun _ => Es.map fun p => .int (p : Nat)) [.int ((0 : Nat) : Int)] .unb .unb (fun d hd x9 => by
        rw [List.mem_singleton] at hd
        subst hd
        rw [itE, hcall]; rfl)
    have hsz := szl
    show (compF _ _ _ _ _ _).map D.list = _
    rw [compF]
    show ((loopC (nameA 8) tt _ [.int ((0 : Nat) : Int)] [.val (.str (wrapT Q)), .val (.str t), .val (.int ((0 : Nat) : Int)), .val (.bool false), .unb, .val (.int ((0 : Nat) : Int)), .val (psD [0]), .val (.int ((Q.length + 5 : Nat) : Int)), .unb, .unb]).bind _).map D.list = _
    rw [h8, Option.bind_some]
    simp only [List.flatMap_cons, List.flatMap_nil, List.append_nil]
    rw [if_pos (by simp only [List.length_map]; omega)]
    rfl
  have hs : sGrp G (rh (wrapT Q) t 0 false ([] ++ [[0]]) 0 (.val (psD [0])) (.val (.int 1))) = some (.next, rh (wrapT Q) t 0 false ([] ++ [Es]) 0 (.val (psD [0])) (.val (.int ((Q.length + 5 : Nat) : Int)))) := by
    refine (seqS_next (ρ' := rh (wrapT Q) t 0 false ([] ++ [[0]]) 0 (.val (psD [0])) (.val (.int ((Q.length + 5 : Nat) : Int)))) (setS_of hsize rfl)).trans ?_
    exact (seqS_next (lastS_of (xs := WD ([] ++ [[0]])) rfl hcomp (by simp) (by rw [last_set]; rfl))).trans rfl
  refine (seqS_next ((ifS_f e1).trans ((seqS_next ((ifS_t e2).trans hs)).trans rfl))).trans ?_
  refine (seqS_next (augS_of rfl rfl (c := .int ((Q.length + 5 : Nat) : Int)) ?_ rfl)).trans rfl
  show some (D.int (((0 : Nat) : Int) + _)) = _
  congr 2; omega
theorem outer2 {G : List D → Option D} {Q Es : List Nat} {s6 s7 : Slot} (hz : Es.length ≤ 1000000) :
    ∃ B6 B7, b12 G (rh (wrapT Q) t 0 false ([] ++ [Es]) (Q.length + 5) s6 s7) = some (.next, rh (wrapT Q) t 0 false ([] ++ [Es.filter fun p => decide (p = t.length)]) (Q.length + 5 + 2) B6 B7) := by
  have hd : (wrapT Q).drop (Q.length + 5) = [92, 90] := by
    rw [wrapT, List.drop_append]
    rw [List.drop_eq_nil_of_le (by simp), List.nil_append]
    have h1 : Q.length + 5 - ([40, 63, 115, 58] ++ Q : List Nat).length = 1 := by simp only [List.length_append, List.length_cons, List.length_nil]; omega
    rw [h1]; rfl
  have hi : (wrapT Q)[Q.length + 5]? = some 92 := by
    have : ((wrapT Q).drop (Q.length + 5))[0]? = some 92 := by rw [hd]; rfl
    rwa [List.getElem?_drop, Nat.add_zero] at this
  refine ⟨.val (psD Es), .val (.int 2), ?_⟩
  have hlast : ownItemE 4 (negE (cE (.int 1))) (rh (wrapT Q) t 0 false ([] ++ [Es]) (Q.length + 5) s6 s7) = some (psD Es) := ownLast_of (xs := WD []) (by simp [WD])
  refine (seqS_next (ρ' := rh (wrapT Q) t 0 false ([] ++ [Es]) (Q.length + 5) (.val (psD Es)) s7) (setS_of hlast rfl)).trans ?_
  refine (seqS_next (ρ' := rh (wrapT Q) t 0 false ([] ++ [Es]) (Q.length + 5) (.val (psD Es)) (.val (.int 1))) (setS_of rfl rfl)).trans ?_
  have hit := item_of (t := t) (st := 0) (fr := false) (W := [] ++ [Es]) (s6 := .val (psD Es)) (s7 := .val (.int 1)) hi
  have e1 : t124 (rh (wrapT Q) t 0 false ([] ++ [Es]) (Q.length + 5) (.val (psD Es)) (.val (.int 1))) = some false := cmpB_of hit rfl (by rw [eq_str]; simp)
  have e2 : tGrp (rh (wrapT Q) t 0 false ([] ++ [Es]) (Q.length + 5) (.val (psD Es)) (.val (.int 1))) = some false := cmpB_of (cut_of (k := 4)) rfl (by rw [eq_str, decide_eq_false (head_ne hi (by decide))])
  have e3 : tEnd (rh (wrapT Q) t 0 false ([] ++ [Es]) (Q.length + 5) (.val (psD Es)) (.val (.int 1))) = some true := cmpB_of (cut_of (k := 2)) rfl (by rw [eq_str, hd]; rfl)
  have hcomp : listF cEnd (rh (wrapT Q) t 0 false ([] ++ [Es]) (Q.length + 5) (.val (psD Es)) (.val (.int 2))) = some (psD (Es.filter fun p => decide (p = t.length))) := by
    refine (comp_places (ps := Es) id (fun p => decide (p = t.length)) rfl rfl (fun p hp => ?_) (fun p hp _ => rfl) (by omega)).trans (by rw [List.map_id])
    refine cmpB_of (a := .int (p : Nat)) (b := .int (t.length : Nat)) rfl rfl ?_
    rw [eq_int]; congr 1; rw [decide_eq_decide]; omega
  have hs : sEnd (rh (wrapT Q) t 0 false ([] ++ [Es]) (Q.length + 5) (.val (psD Es)) (.val (.int 1))) = some (.next, rh (wrapT Q) t 0 false ([] ++ [Es.filter fun p => decide (p = t.length)]) (Q.length + 5) (.val (psD Es)) (.val (.int 2))) := by
    refine (seqS_next (ρ' := rh (wrapT Q) t 0 false ([] ++ [Es]) (Q.length + 5) (.val (psD Es)) (.val (.int 2))) (setS_of rfl rfl)).trans ?_
    exact (seqS_next (lastS_of (xs := WD ([] ++ [Es])) rfl hcomp (by simp) (by rw [last_set]; rfl))).trans rfl
  refine (seqS_next ((ifS_f e1).trans ((seqS_next ((ifS_f e2).trans ((seqS_next ((ifS_t e3).trans hs)).trans rfl))).trans rfl))).trans ?_
  exact (seqS_next (augS_of rfl rfl rfl rfl)).trans rfl
theorem outer_ok {n : Nat} {Q Es : List Nat} (hQ : 41 ∉ Q) (hl : Q.length ≤ 2000) (hE : r_law_ends n [.str Q, .str t, .int ((0 : Nat) : Int), .bool true] = some (psD Es)) (hz : Es.length ≤ 1000000) :
    r_law_ends (n + 1) [.str (wrapT Q), .str t, .int ((0 : Nat) : Int), .bool false] = some (psD (Es.filter fun p => decide (p = t.length))) := by
  refine start_of fun s6 s7 => ?_
  obtain ⟨B6, B7, h1⟩ := outer1 (t := t) (s6 := s6) (s7 := s7) hQ hl hE hz
  obtain ⟨C6, C7, h2⟩ := outer2 (G := r_law_ends n) (t := t) (Q := Q) (Es := Es) (s6 := B6) (s7 := B7) hz
  have hlen : (wrapT Q).length = Q.length + 7 := by simp
  have hw : whileS cond12 (b12 (r_law_ends n)) 20000000 (rh (wrapT Q) t 0 false [[0]] 0 s6 s7) = some (.next, rh (wrapT Q) t 0 false ([] ++ [Es.filter fun p => decide (p = t.length)]) (Q.length + 5 + 2) C6 C7) := by
    rw [show (20000000 : Nat) = 19999997 + 1 + 1 + 1 from rfl]
    refine (whileS_t (cond_t (by omega)) h1).trans ?_
    refine (whileS_t (cond_t (by omega)) h2).trans ?_
    exact whileS_f (cond_f (by omega))
  have hall := all_of (l := wrapT Q) (t := t) (st := 0) (fr := false) (W := [] ++ [Es.filter fun p => decide (p = t.length)]) (i := Q.length + 5 + 2) (s6 := C6) (s7 := C7) (by
    have := List.length_filter_le (fun p => decide (p = t.length)) Es
    simp; omega)
  have hfl : ([] ++ [Es.filter fun p => decide (p = t.length)] : List (List Nat)).flatten = Es.filter fun p => decide (p = t.length) := by simp
  rw [hfl] at hall
  exact Ret.next hw hall
end
end Mine

end
section
open PySem PySem.W PySem.Calls PyProof.Rows
set_option Elab.async false
set_option maxRecDepth 100000
set_option linter.unusedSimpArgs false
namespace Mine
/-! plain: what the readings say -/
noncomputable def dueB (ws : List (List Nat)) (t : List Nat) : Bool := decide ((ws.filter fun w => wholeB w t) ≠ [])
theorem due_iff {ws : List (List Nat)} {t : List Nat} : dueB ws t = true ↔ ∃ w ∈ ws, wholeB w t = true := by
  rw [dueB, decide_eq_true_iff]
  constructor
  · intro h
    obtain ⟨w, hw⟩ := List.exists_mem_of_ne_nil _ h
    rw [List.mem_filter] at hw
    exact ⟨w, hw⟩
  · rintro ⟨w, h1, h2⟩ e
    have : w ∈ ws.filter fun w => wholeB w t := List.mem_filter.mpr ⟨h1, h2⟩
    rw [e] at this; cases this
theorem mem_runW {t w : List Nat} {p : Nat} : p ∈ runW t w [0] ↔ fits t w 0 = true ∧ p = w.length := by
  rw [runW_one, Nat.zero_add]
  split
  · rename_i h; simp [h]
  · rename_i h; simp [h]
theorem whole_iff {t w : List Nat} : wholeB w t = true ↔ fits t w 0 = true ∧ t.length = w.length := by
  rw [wholeB, Bool.and_eq_true, decide_eq_true_iff]
  exact ⟨fun h => ⟨h.2, h.1.symm⟩, fun h => ⟨h.2.symm, h.1⟩⟩
theorem filter_ne {Es : List Nat} {n : Nat} : decide ((Es.filter fun p => decide (p = n)) ≠ []) = true ↔ n ∈ Es := by
  rw [decide_eq_true_iff]
  constructor
  · intro h
    obtain ⟨p, hp⟩ := List.exists_mem_of_ne_nil _ h
    rw [List.mem_filter, decide_eq_true_iff] at hp
    exact hp.2 ▸ hp.1
  · intro h e
    have : n ∈ Es.filter fun p => decide (p = n) := List.mem_filter.mpr ⟨h, by simp⟩
    rw [e] at this; cases this
theorem plain1 (ws : List (List Nat)) (t : List Nat) : decide (((ws.map fun w => runW t w [0]).flatten.filter fun p => decide (p = t.length)) ≠ []) = dueB ws t := by
  rw [Bool.eq_iff_iff, filter_ne, due_iff]
  simp only [List.mem_flatten, List.mem_map]
  constructor
  · rintro ⟨_, ⟨w, hw, rfl⟩, h⟩
    exact ⟨w, hw, whole_iff.mpr (mem_runW.mp h)⟩
  · rintro ⟨w, hw, h⟩
    exact ⟨_, ⟨w, hw, rfl⟩, mem_runW.mpr (whole_iff.mp h)⟩
noncomputable def lastB (w t : List Nat) : Bool := decide (t.drop (t.length - 1) = [47]) && wholeB w t.dropLast
theorem fits_last {t' w : List Nat} (h : w.length ≤ t'.length) : fits (t' ++ [47]) w 0 = fits t' w 0 := by
  rw [fits_all, fits_all, Bool.eq_iff_iff, List.all_eq_true, List.all_eq_true]
  refine forall_congr' fun k => imp_congr_right fun hk => ?_
  have hk := List.mem_range.mp hk
  have h1 : (t' ++ [47])[0 + k]? = t'[0 + k]? := List.getElem?_append_left (by omega)
  unfold okAt
  rw [h1]
  have h2 : (0 + k < (t' ++ [47]).length) = (0 + k < t'.length) := by simp; omega
  simp only [h2]
theorem last_iff {w t : List Nat} : lastB w t = true ↔ fits t w 0 = true ∧ t[w.length]? = some 47 ∧ t.length = w.length + 1 := by
  rw [lastB, Bool.and_eq_true, decide_eq_true_iff, whole_iff]
  rcases List.eq_nil_or_concat t with rfl | ⟨t', c, rfl⟩
  · simp
  · rw [List.concat_eq_append, List.dropLast_concat, List.length_append, List.length_singleton, Nat.add_sub_cancel, List.drop_left]
    constructor
    · rintro ⟨h1, h2, h3⟩
      cases h1
      refine ⟨by rw [fits_last (by omega)]; exact h2, ?_, by omega⟩
      rw [← h3]; simp
    · rintro ⟨h1, h2, h3⟩
      have hl : t'.length = w.length := by omega
      rw [← hl] at h2
      have hc : c = 47 := by simpa using h2
      subst hc
      exact ⟨rfl, by rw [← fits_last (by omega)]; exact h1, hl⟩
theorem mem_opt {t w : List Nat} {p : Nat} : p ∈ optT t (runW t w [0]) ↔ (fits t w 0 = true ∧ p = w.length) ∨ (fits t w 0 = true ∧ t[w.length]? = some 47 ∧ p = w.length + 1) := by
  rw [optT, List.mem_append, mem_runW, List.mem_map]
  refine or_congr Iff.rfl ⟨?_, ?_⟩
  · rintro ⟨q, hq, rfl⟩
    rw [List.mem_filter, mem_runW, decide_eq_true_iff] at hq
    obtain ⟨⟨h1, rfl⟩, h2⟩ := hq
    exact ⟨h1, h2, rfl⟩
  · rintro ⟨h1, h2, rfl⟩
    exact ⟨w.length, List.mem_filter.mpr ⟨mem_runW.mpr ⟨h1, rfl⟩, by rw [decide_eq_true_iff]; exact h2⟩, rfl⟩
theorem plain2 (U : List (List Nat)) (w t : List Nat) : decide ((((U.map fun w => runW t w [0]) ++ [optT t (runW t w [0])]).flatten.filter fun p => decide (p = t.length)) ≠ []) = (dueB (U ++ [w]) t || lastB w t) := by
  rw [Bool.eq_iff_iff, filter_ne, Bool.or_eq_true, due_iff, last_iff, List.flatten_append, List.mem_append]
  simp only [List.mem_flatten, List.mem_map, List.mem_singleton, List.mem_append]
  constructor
  · rintro (⟨_, ⟨v, hv, rfl⟩, h⟩ | ⟨_, rfl, h⟩)
    · exact .inl ⟨v, .inl hv, whole_iff.mpr (mem_runW.mp h)⟩
    · rcases mem_opt.mp h with h | h
      · exact .inl ⟨w, .inr rfl, whole_iff.mpr h⟩
      · exact .inr h
  · rintro (⟨v, hv | rfl, h⟩ | h)
    · exact .inl ⟨_, ⟨v, hv, rfl⟩, mem_runW.mpr (whole_iff.mp h)⟩
    · exact .inr ⟨_, rfl, mem_opt.mpr (.inl (whole_iff.mp h))⟩
    · exact .inr ⟨_, rfl, mem_opt.mpr (.inr h)⟩

/-! the law's parts -/
theorem flat_strs (ls : List (List Nat)) : flatD (.list (ls.map .str)) = true := by
  refine flat_of ?_ ?_
  · rw [pureD]
    refine pures_of _ fun d hd => ?_
    obtain ⟨x, _, rfl⟩ := List.mem_map.mp hd
    rfl
  · rw [toPy, PyData.depth]
    have : ∀ ls : List (List Nat), PyData.depthAll (toPys (ls.map .str)) ≤ 1 := fun ls => by
      induction ls with
      | nil => simp [toPys, PyData.depthAll]
      | cons x ls ih => simp [toPys, toPy, PyData.depthAll, PyData.depth]; omega
    have := this ls
    omega
theorem ne_strs_nil (ls : List (List Nat)) : opNe (.list (ls.map .str)) (.list []) = some (decide (ls ≠ [])) := by
  have h0 : flatD (.list []) = true := flat_ps []
  rw [opNe, opEq, flat_strs, h0]
  cases ls with
  | nil => simp [deq, toPy, toPys, PyData.eqv, PyData.eqvAll]
  | cons p ps => simp [deq, toPy, toPys, PyData.eqv, PyData.eqvAll]
theorem flat_bool (b : Bool) : flatD (.bool b) = true := by simp [flatD, pureD, toPy, PyData.depth]
theorem extend_ok {q Q : List Nat} (h : Q.length ≤ 10000) : runF 2 0 pextend [.inst q, .str Q] = some (.str (wrapT Q)) := by
  refine runF_ret rfl (Ret.stop (Ret.of ?_))
  show (if ([40, 63, 115, 58] ++ (Q ++ ([41, 92, 90] ++ []))).length ≤ 1000000 then some (D.str ([40, 63, 115, 58] ++ (Q ++ ([41, 92, 90] ++ [])))) else none) = _
  rw [if_pos (by simp; omega)]
  simp
theorem dirs_ok {q Q : List Nat} (h : Q.length ≤ 10000) : runF 2 0 pmatch_dirs [.inst q, .str Q] = some (.str (Q ++ [91, 47, 93, 63])) := by
  refine runF_ret rfl (Ret.stop (Ret.of ?_))
  show (if (Q ++ ([91, 47, 93, 63] ++ [])).length ≤ 1000000 then some (D.str (Q ++ ([91, 47, 93, 63] ++ []))) else none) = _
  rw [if_pos (by simp; omega)]
  simp
theorem clip_m1 (n : Nat) : clipAt n (-1) = n - 1 := by
  unfold clipAt
  first
    | omega
    | (split <;> omega)
theorem cut_last (t : List Nat) : cut t (some (-1)) none = t.drop (t.length - 1) := by
  unfold cut
  simp only [Option.elim, clip_m1]
  rw [List.take_of_length_le (by rw [List.length_drop]; omega)]
theorem cut_butLast (t : List Nat) : cut t none (some (-1)) = t.dropLast := by
  unfold cut
  simp only [Option.elim, clip_m1, List.drop_zero, Nat.sub_zero]
  rw [List.dropLast_eq_take]
noncomputable def bT12 : Rho → Option (Out × Rho) := seqS (setS (nameA 8) (asD (cmpB opNe (listF (compF ["way"] (itE asList (vE 5)) (nameA 9) (truB (callE (runF 2 0 p_law_whole) (consF (vE 9) (consF (vE 7) (nilF))))) (emE (vE 9)))) (listE (nilF))))) (seqS (ifS (cmpB opNe (asD (cmpB opNe (callE (r_law_ends 100) (consF (methE isInstD (runF 2 0 pextend) (vE 6) (consF (vE 3) (nilF))) (consF (vE 7) (consF (cE (.int 0)) (consF (cE (.bool false)) (nilF)))))) (listE (nilF)))) (vE 8)) (seqS (retS (cE (.bool false))) (skS)) (skS)) (seqS (setS (nameA 8) (orE (vE 8) (andE (asD (cmpB opEq (cutE (vE 7) (intP (negE (cE (.int 1)))) (noP)) (cE (.str [47])))) (callE (runF 2 0 p_law_whole) (consF (itemE (vE 5) (negE (cE (.int 1)))) (consF (cutE (vE 7) (noP) (intP (negE (cE (.int 1))))) (nilF))))))) (seqS (ifS (cmpB opNe (asD (cmpB opNe (callE (r_law_ends 100) (consF (methE isInstD (runF 2 0 pextend) (vE 6) (consF (methE isInstD (runF 2 0 pmatch_dirs) (vE 6) (consF (vE 3) (nilF))) (nilF))) (consF (vE 7) (consF (cE (.int 0)) (consF (cE (.bool false)) (nilF)))))) (listE (nilF)))) (vE 8)) (seqS (retS (cE (.bool false))) (skS)) (skS)) (skS))))
theorem turnT {P t q : List Nat} {U : List (List Nat)} {w : List Nat} {s0 s1 s2 s4 : D} {A8 : Slot} (hP : ∀ c ∈ P, sgn c) (hl : P.length ≤ 100) (ht : t.length ≤ 100) (hU : splitC 124 P = U ++ [w]) :
    ∃ B8, bT12 [.val s0, .val s1, .val s2, .val (.str P), .val s4, .val (.list ((splitC 124 P).map .str)), .val (.inst q), .val (.str t), A8] = some (.next, [.val s0, .val s1, .val s2, .val (.str P), .val s4, .val (.list ((splitC 124 P).map .str)), .val (.inst q), .val (.str t), B8]) := by
  have hmem := splitC_mem 124 P
  have hsl := splitC_len 124 P
  have h41 : 41 ∉ P := fun h => (hP 41 h).2.1 rfl
  -- due
  have hdue : asD (cmpB opNe (listF (compF ["way"] (itE asList (vE 5)) (nameA 9) (truB (callE (runF 2 0 p_law_whole) (consF (vE 9) (consF (vE 7) (nilF))))) (emE (vE 9)))) (listE (nilF))) [.val s0, .val s1, .val s2, .val (.str P), .val s4, .val (.list ((splitC 124 P).map .str)), .val (.inst q), .val (.str t), A8] = some (.bool (dueB (splitC 124 P) t)) := by
    have hc : compF ["way"] (itE asList (vE 5)) (nameA 9) (truB (callE (runF 2 0 p_law_whole) (consF (vE 9) (consF (vE 7) (nilF))))) (emE (vE 9)) [.val s0, .val s1, .val s2, .val (.str P), .val s4, .val (.list ((splitC 124 P).map .str)), .val (.inst q), .val (.str t), A8] = some (((splitC 124 P).filter fun w => wholeB w t).map .str) := by
      rw [comp1 (ds := (splitC 124 P).map .str) id (fun d => match d with | .str w => wholeB w t | _ => true) rfl rfl (fun d hd => ?_) (fun d hd _ => ?_) (by simp; omega)]
      · rw [List.map_id, List.filter_map]; rfl
      · obtain ⟨w', hw', rfl⟩ := List.mem_map.mp hd
        have hb := (hmem w' hw').2
        show truB (callE (runF 2 0 p_law_whole) (consF (vE 9) (consF (vE 7) (nilF)))) [.val s0, .val s1, .val s2, .val (.str P), .val s4, .val (.list ((splitC 124 P).map .str)), .val (.inst q), .val (.str t), hideOwn A8, .val (.str w')] = _
        have := call2_of (ρ := [.val s0, .val s1, .val s2, .val (.str P), .val s4, .val (.list ((splitC 124 P).map .str)), .val (.inst q), .val (.str t), hideOwn A8, .val (.str w')]) (f := vE 9) (g := vE 7) rfl rfl (whole_ok (w := w') (t := t) (by omega) (by omega))
        rw [truB, this]; rfl
      · obtain ⟨w', hw', rfl⟩ := List.mem_map.mp hd
        rfl
    rw [asD, cmpB_of (x := dueB (splitC 124 P) t) (by rw [listF, hc]; rfl) (b := .list []) rfl (ne_strs_nil _)]
    rfl
  -- the readings
  have hr1 : ∀ A8, asD (cmpB opNe (callE (r_law_ends 100) (consF (methE isInstD (runF 2 0 pextend) (vE 6) (consF (vE 3) (nilF))) (consF (vE 7) (consF (cE (.int 0)) (consF (cE (.bool false)) (nilF)))))) (listE (nilF))) [.val s0, .val s1, .val s2, .val (.str P), .val s4, .val (.list ((splitC 124 P).map .str)), .val (.inst q), .val (.str t), A8] = some (.bool (dueB (splitC 124 P) t)) := fun A8 => by
    have h1 := outer_ok (t := t) (Q := P) h41 (by omega) (inner_ok (n := 98) (t := t) (st := 0) hP (by omega)) (by
      have := flat_len ((splitC 124 P).map fun w => runW t w [0]) 1 (fun ps hps => by obtain ⟨w, _, rfl⟩ := List.mem_map.mp hps; exact runW_len t w 0)
      rw [List.length_map] at this
      omega)
    have hm : methE isInstD (runF 2 0 pextend) (vE 6) (consF (vE 3) (nilF)) [.val s0, .val s1, .val s2, .val (.str P), .val s4, .val (.list ((splitC 124 P).map .str)), .val (.inst q), .val (.str t), A8] = some (.str (wrapT P)) := by
      show (if true = true then runF 2 0 pextend [.inst q, .str P] else none) = _
      rw [if_pos rfl, extend_ok (by omega)]
    have hcall : callE (r_law_ends 100) (consF (methE isInstD (runF 2 0 pextend) (vE 6) (consF (vE 3) (nilF))) (consF (vE 7) (consF (cE (.int 0)) (consF (cE (.bool false)) (nilF))))) [.val s0, .val s1, .val s2, .val (.str P), .val s4, .val (.list ((splitC 124 P).map .str)), .val (.inst q), .val (.str t), A8] = some (psD (((splitC 124 P).map fun w => runW t w [0]).flatten.filter fun p => decide (p = t.length))) := by
      simp only [callE, consF, nilF, hm, Option.bind_some, Option.map_some]
      exact h1
    rw [asD, cmpB_of hcall (b := .list []) rfl (ne_ps_nil _), Option.map_some, plain1]
  have hr2 : ∀ A8, asD (cmpB opNe (callE (r_law_ends 100) (consF (methE isInstD (runF 2 0 pextend) (vE 6) (consF (methE isInstD (runF 2 0 pmatch_dirs) (vE 6) (consF (vE 3) (nilF))) (nilF))) (consF (vE 7) (consF (cE (.int 0)) (consF (cE (.bool false)) (nilF)))))) (listE (nilF))) [.val s0, .val s1, .val s2, .val (.str P), .val s4, .val (.list ((splitC 124 P).map .str)), .val (.inst q), .val (.str t), A8] = some (.bool (dueB (splitC 124 P) t || lastB w t)) := fun A8 => by
    have hul : U.length + 1 ≤ P.length + 1 := by rw [hU] at hsl; simpa using hsl
    have h1 := outer_ok (t := t) (Q := P ++ [91, 47, 93, 63]) (by simpa using h41) (by simp; omega) (inner2_ok (n := 98) (t := t) (st := 0) hP (by omega) hU) (by
      have := flat_len ((U.map fun w => runW t w [0]) ++ [optT t (runW t w [0])]) 2 (fun ps hps => by
        rcases List.mem_append.mp hps with hps | hps
        · obtain ⟨w, _, rfl⟩ := List.mem_map.mp hps; have := runW_len t w 0; omega
        · simp only [List.mem_singleton] at hps
          subst hps
          have h1 := runW_len t w 0
          have h2 := List.length_filter_le (fun p => decide (t[p]? = some 47)) (runW t w [0])
          rw [optT, List.length_append, List.length_map]; omega)
      simp only [List.length_append, List.length_map, List.length_singleton] at this
      omega)
    have hm1 : methE isInstD (runF 2 0 pmatch_dirs) (vE 6) (consF (vE 3) (nilF)) [.val s0, .val s1, .val s2, .val (.str P), .val s4, .val (.list ((splitC 124 P).map .str)), .val (.inst q), .val (.str t), A8] = some (.str (P ++ [91, 47, 93, 63])) := by
      show (if true = true then runF 2 0 pmatch_dirs [.inst q, .str P] else none) = _
      rw [if_pos rfl, dirs_ok (by omega)]
    have hm : methE isInstD (runF 2 0 pextend) (vE 6) (consF (methE isInstD (runF 2 0 pmatch_dirs) (vE 6) (consF (vE 3) (nilF))) (nilF)) [.val s0, .val s1, .val s2, .val (.str P), .val s4, .val (.list ((splitC 124 P).map .str)), .val (.inst q), .val (.str t), A8] = some (.str (wrapT (P ++ [91, 47, 93, 63]))) := by
      rw [methE, show vE 6 [.val s0, .val s1, .val s2, .val (.str P), .val s4, .val (.list ((splitC 124 P).map .str)), .val (.inst q), .val (.str t), A8] = some (.inst q) from rfl, Option.bind_some]
      simp only [consF, nilF, hm1, Option.bind_some, Option.map_some, isInstD, if_true]
      exact extend_ok (by simp; omega)
    have hcall : callE (r_law_ends 100) (consF (methE isInstD (runF 2 0 pextend) (vE 6) (consF (methE isInstD (runF 2 0 pmatch_dirs) (vE 6) (consF (vE 3) (nilF))) (nilF))) (consF (vE 7) (consF (cE (.int 0)) (consF (cE (.bool false)) (nilF))))) [.val s0, .val s1, .val s2, .val (.str P), .val s4, .val (.list ((splitC 124 P).map .str)), .val (.inst q), .val (.str t), A8] = some (psD (((U.map fun w => runW t w [0]) ++ [optT t (runW t w [0])]).flatten.filter fun p => decide (p = t.length))) := by
      rw [callE, consF, hm, Option.bind_some]
      exact h1
    rw [asD, cmpB_of hcall (b := .list []) rfl (ne_ps_nil _), Option.map_some, plain2, hU]
  have hor : orE (vE 8) (andE (asD (cmpB opEq (cutE (vE 7) (intP (negE (cE (.int 1)))) (noP)) (cE (.str [47])))) (callE (runF 2 0 p_law_whole) (consF (itemE (vE 5) (negE (cE (.int 1)))) (consF (cutE (vE 7) (noP) (intP (negE (cE (.int 1))))) (nilF))))) [.val s0, .val s1, .val s2, .val (.str P), .val s4, .val (.list ((splitC 124 P).map .str)), .val (.inst q), .val (.str t), .val (.bool (dueB (splitC 124 P) t))] = some (.bool (dueB (splitC 124 P) t || lastB w t)) := by
    rw [orE]
    show (if dueB (splitC 124 P) t = true then some (D.bool (dueB (splitC 124 P) t)) else _) = _
    cases hdb : dueB (splitC 124 P) t with
    | true => simp
    | false =>
      rw [if_neg (by decide), Bool.false_or, andE]
      have hlast : cmpB opEq (cutE (vE 7) (intP (negE (cE (.int 1)))) (noP)) (cE (.str [47])) [.val s0, .val s1, .val s2, .val (.str P), .val s4, .val (.list ((splitC 124 P).map .str)), .val (.inst q), .val (.str t), .val (.bool false)] = some (decide (t.drop (t.length - 1) = [47])) := by
        refine cmpB_of (a := .str (t.drop (t.length - 1))) ?_ rfl (eq_str _ _)
        show some (D.str (cut t (some (-1)) none)) = _
        rw [cut_last]
      rw [asD, hlast, Option.map_some, Option.bind_some]
      show (if decide (t.drop (t.length - 1) = [47]) = true then _ else _) = _
      rw [lastB]
      cases hd : decide (t.drop (t.length - 1) = [47]) with
      | false => simp
      | true =>
        rw [if_pos rfl, Bool.true_and]
        have hw : itemE (vE 5) (negE (cE (.int 1))) [.val s0, .val s1, .val s2, .val (.str P), .val s4, .val (.list ((splitC 124 P).map .str)), .val (.inst q), .val (.str t), .val (.bool false)] = some (.str w) := by
          show opItem (.list ((splitC 124 P).map .str)) (.int (-1)) = _
          rw [hU, List.map_append, opItem, seqIndex_last (by simp)]
          simp
        have hwl : w.length ≤ P.length := (hmem w (by rw [hU]; simp)).2
        refine call2_of hw (c := .str t.dropLast) ?_ (whole_ok (by omega) (by simp; omega))
        show some (D.str (cut t none (some (-1)))) = _
        rw [cut_butLast]
  refine ⟨.val (.bool (dueB (splitC 124 P) t || lastB w t)), ?_⟩
  refine (seqS_next (setS_of hdue rfl)).trans ?_
  refine (seqS_next ((ifS_f (cmpB_of (hr1 _) rfl (ne_self (flat_bool _)))).trans rfl)).trans ?_
  refine (seqS_next (setS_of hor rfl)).trans ?_
  exact (seqS_next ((ifS_f (cmpB_of (hr2 _) rfl (ne_self (flat_bool _)))).trans rfl)).trans rfl
end Mine

end
section
open PySem PySem.W PySem.Calls PyProof.Rows
set_option Elab.async false
set_option maxRecDepth 100000
set_option linter.unusedSimpArgs false
namespace Mine
noncomputable def PL : List (List Nat) := [[97], [98], [46], [47], [124], [10], []]
noncomputable def FL : List (List Nat) := [[97], [98], [10], [47], [], [10], [99]]
noncomputable def pcT (x : Int) : List Nat := PL.getD (x.fmod 7).toNat []
noncomputable def flT (x : Int) : List Nat := FL.getD (x.fmod 7).toNat []
noncomputable def ptT (x : Int) : List Nat := [flT x, [], [97], [98], [47], [10], [99]].getD ((x.fdiv 7).fmod 7).toNat []
theorem mod7 (x : Int) : ∃ k : Nat, x.fmod 7 = k ∧ k < 7 := by
  have h1 : 0 ≤ x.fmod 7 := Int.fmod_nonneg_of_pos _ (by decide)
  have h2 : x.fmod 7 < 7 := Int.fmod_lt_of_pos _ (by decide)
  exact ⟨(x.fmod 7).toNat, (Int.toNat_of_nonneg h1).symm, by omega⟩
theorem pick7 {ls : List (List Nat)} (h : ls.length = 7) (x : Int) : opItem (.list (ls.map .str)) (.int (x.fmod 7)) = some (.str (ls.getD (x.fmod 7).toNat [])) := by
  obtain ⟨k, e, hk⟩ := mod7 x
  rw [e, item_list _ k (by simpa using (by omega : k < ls.length))]
  have : k < ls.length := by omega
  simp [this]
theorem pc_sgn (x : Int) : ∀ c ∈ pcT x, sgn c := by
  obtain ⟨k, e, hk⟩ := mod7 x
  rw [pcT, e, Int.toNat_natCast]
  match k, hk with
  | 0, _ | 1, _ | 2, _ | 3, _ | 4, _ | 5, _ => intro c hc; simp [PL] at hc; subst hc; exact ⟨by decide, by decide, by decide, by decide⟩
  | 6, _ => intro c hc; simp [PL] at hc
theorem get_len {ls : List (List Nat)} (h : ∀ l ∈ ls, l.length ≤ 1) (k : Nat) : (ls.getD k []).length ≤ 1 := by
  rw [List.getD]
  cases e : ls[k]? with
  | none => simp
  | some l => exact h l (List.mem_of_getElem? e)
theorem pc_len (x : Int) : (pcT x).length ≤ 1 := get_len (by decide) _
theorem fl_len (x : Int) : (flT x).length ≤ 1 := get_len (by decide) _
theorem pt_len (x : Int) : (ptT x).length ≤ 1 := by
  refine get_len (fun l hl => ?_) _
  have := fl_len x
  simp only [List.mem_cons, List.not_mem_nil, or_false] at hl
  rcases hl with rfl | rfl | rfl | rfl | rfl | rfl | rfl <;> simp_all
theorem flat_le : ∀ (ns : List Int) (f : Int → List Nat), (∀ x, (f x).length ≤ 1) → (ns.flatMap f).length ≤ ns.length
  | [], _, _ => by simp
  | n :: ns, f, h => by
    have h1 := h n
    have h2 := flat_le ns f h
    rw [List.flatMap_cons, List.length_append, List.length_cons]; omega
theorem joined_of {ρ ρ0 : Rho} {el : Rho → Option D} {ns : List Int} (f : Int → List Nat) (h0 : rhoC ["x"] ρ = ρ0) (hv : itE asList (vE 0) ρ = some (ns.map .int)) (he : ∀ x, el (ρ0.set 9 (.val (.int x))) = some (.str (f x))) (hn : ns.length ≤ 1000) (hf : ∀ x, (f x).length ≤ 1) :
    methE isStrD joinF (cE (.str [])) (consF (listF (compF ["x"] (itE asList (vE 0)) (nameA 9) tt (emE el))) nilF) ρ = some (.str (ns.flatMap f)) := by
  have hcomp : compF ["x"] (itE asList (vE 0)) (nameA 9) tt (emE el) ρ = some ((ns.map f).map D.str) := by
    rw [comp1 (ds := ns.map .int) (fun d => match d with | .int x => .str (f x) | _ => .none) (fun _ => true) h0 hv (fun _ _ => rfl) (fun d hd _ => ?_) (by simp; omega)]
    · simp [List.filter_eq_self.mpr]
    · obtain ⟨y, _, rfl⟩ := List.mem_map.mp hd
      exact he y
  have hl := flat_le ns f hf
  simp only [methE, cE, consF, listF, nilF, hcomp, Option.bind_some, Option.map_some, isStrD, if_true]
  rw [join_strs (by rw [← List.flatMap_def]; omega), ← List.flatMap_def]
theorem split_of {ρ : Rho} {f : Rho → Option D} {l : List Nat} {c : Nat} (h1 : f ρ = some (.str l)) (hl : l.length ≤ 10000000) : methL isStrD splitF f (consF (cE (.str [c])) nilF) ρ = some ((splitC c l).map .str) := by
  simp [methL, h1, consF, cE, nilF, isStrD, splitF, hl]
theorem pure12 : ∀ ns : List Int, ns.length ≤ 63 → runF 1 8 plaw [.list (ns.map .int)] = some (.bool true) := by
  intro ns hn
  refine runF_ret rfl (Ret.next (setS_of (d := .list (PL.map .str)) rfl rfl) ?_)
  refine Ret.next (setS_of (d := .list (FL.map .str)) rfl rfl) ?_
  refine Ret.next (setS_of (d := .str (ns.flatMap pcT)) (joined_of pcT rfl rfl (fun x => ?_) (by omega) pc_len) rfl) ?_
  · exact binE_of rfl rfl (pick7 (ls := PL) rfl x)
  refine Ret.next (setS_of (d := .str (ns.flatMap ptT)) (joined_of ptT rfl rfl (fun x => ?_) (by omega) pt_len) rfl) ?_
  · have h1 : itemE (vE 2) (binE opMod (vE 9) (cE (.int 7))) [.val (.list (ns.map .int)), .val (.list (PL.map .str)), .val (.list (FL.map .str)), .val (.str (ns.flatMap pcT)), .unb, .unb, .unb, .unb, .unb, .val (.int x)] = some (.str (flT x)) := binE_of rfl rfl (pick7 (ls := FL) rfl x)
    have h2 : listE (consF (itemE (vE 2) (binE opMod (vE 9) (cE (.int 7)))) (consF (cE (.str [])) (consF (cE (.str [97])) (consF (cE (.str [98])) (consF (cE (.str [47])) (consF (cE (.str [10])) (consF (cE (.str [99])) (nilF)))))))) [.val (.list (ns.map .int)), .val (.list (PL.map .str)), .val (.list (FL.map .str)), .val (.str (ns.flatMap pcT)), .unb, .unb, .unb, .unb, .unb, .val (.int x)] = some (.list ([flT x, [], [97], [98], [47], [10], [99]].map .str)) := by
      simp [listE, consF, nilF, h1, cE]
    exact binE_of h2 rfl (pick7 (ls := [flT x, [], [97], [98], [47], [10], [99]]) rfl (x.fdiv 7))
  have hP : ∀ c ∈ ns.flatMap pcT, sgn c := fun c hc => by
    obtain ⟨x, _, hx⟩ := List.mem_flatMap.mp hc
    exact pc_sgn x c hx
  have hPl := flat_le ns pcT pc_len
  have htl := flat_le ns ptT pt_len
  generalize ns.flatMap pcT = P at *
  generalize ns.flatMap ptT = t at *
  refine Ret.next (setS_of (d := .list ((splitC 124 P).map .str)) (by rw [listF, split_of rfl (by omega)]; rfl) rfl) ?_
  refine Ret.next (setS_of (d := .inst [47]) ?_ rfl) ?_
  · show makeF [.str [47]] = _
    rw [makeF, if_pos ⟨by simp, by simp, by simp⟩]
  obtain ⟨U, w, hU⟩ : ∃ U w, splitC 124 P = U ++ [w] := ⟨_, _, (List.dropLast_concat_getLast (splitC_ne 124 P)).symm⟩
  obtain ⟨B8, h1⟩ := turnT (q := [47]) (t := t) (s0 := .list (ns.map .int)) (s1 := .list (PL.map .str)) (s2 := .list (FL.map .str)) (s4 := .str t) (A8 := .unb) hP (by omega) (by omega) hU
  obtain ⟨C8, h2⟩ := turnT (q := [47]) (t := t ++ [47]) (s0 := .list (ns.map .int)) (s1 := .list (PL.map .str)) (s2 := .list (FL.map .str)) (s4 := .str t) (A8 := B8) hP (by omega) (by simp; omega) hU
  obtain ⟨D8, h3⟩ := turnT (q := [47]) (t := t ++ [10]) (s0 := .list (ns.map .int)) (s1 := .list (PL.map .str)) (s2 := .list (FL.map .str)) (s4 := .str t) (A8 := C8) hP (by omega) (by simp; omega) hU
  have hit : itE asList (listE (consF (vE 4) (consF (binE opAdd (vE 4) (cE (.str [47]))) (consF (binE opAdd (vE 4) (cE (.str [10]))) (nilF))))) [.val (.list (ns.map .int)), .val (.list (PL.map .str)), .val (.list (FL.map .str)), .val (.str P), .val (.str t), .val (.list ((splitC 124 P).map .str)), .val (.inst [47]), .unb, .unb] = some [.str t, .str (t ++ [47]), .str (t ++ [10])] := by
    have e1 : opAdd (.str t) (.str [47]) = some (.str (t ++ [47])) := add_strs (by simp; omega)
    have e2 : opAdd (.str t) (.str [10]) = some (.str (t ++ [10])) := add_strs (by simp; omega)
    simp [itE, listE, consF, nilF, binE, vE, cE, e1, e2, asList]
  refine Ret.next (ρ1 := [.val (.list (ns.map .int)), .val (.list (PL.map .str)), .val (.list (FL.map .str)), .val (.str P), .val (.str t), .val (.list ((splitC 124 P).map .str)), .val (.inst [47]), .val (.str (t ++ [10])), D8]) ((forS_of hit).trans ?_) (Ret.stop (Ret.of rfl))
  refine (loopS_next rfl h1).trans ?_
  refine (loopS_next rfl h2).trans ?_
  exact (loopS_next rfl h3).trans rfl
end Mine

end
section
open PySem PySem.W PyProof.Rows
set_option Elab.async false
set_option maxRecDepth 100000
set_option maxHeartbeats 8000000
namespace MineTop
theorem PySem.W.holds_open {r : OpenRow} {q : PySem.Program} {loose : List PySem.Str} {Xt : Shared → Bool} {XP : (PySem.Str → Option PySem.Value) → Heap → Prop} {α : Type} {Yf : Shared → α} {Ya : World → α} {YP : World → Heap → Prop} {d : DefRec} {kwd : List (PySem.Str × PySem.Expr)} {N : Nat}
    (left : LeftO r.prog q loose Xt Yf Ya N) (hY : ∀ w s, Yf s = Ya w → YP w s.heap) (hYk : ∀ w h h', YP w h → (∀ b o, h.get? b = some o → h'.get? b = some o) → YP w h')
    (hX : ∀ s, Xt s = true → XP (s.heap.nsMap mainGlobals) s.heap) (hXk : ∀ mg h h', XP mg h → (∀ b o, h.get? b = some o → h'.get? b = some o) → XP mg h')
    (hdef : defOf q r.name = some (d, kwd)) (hp : r.prog.theDef r.name = some (d.params, d.body, d.scope)) (hk : kwWritten? d.params.kwonlyargs d.params.kw_defaults = some kwd) (hRf : ∀ s, Xt s = true → RecFacts r.records s.heap) (hwr : (!r.writes || r.records.isEmpty) = true)
    (k1 : r.wellSaid = true) (ok : (chainsOk q && opensWell r.prog && (frees r.toRowW && r.within.isEmpty)) = true) (hb : r.prog.bare) (hw : r.toRowW.promised)
    (call : Mine.WalkG q loose XP YP r.toRowW d kwd) : r.Holds := Mine.holdsG left hY hYk hX hXk hdef hp hk hRf hwr k1 ok hb hw call
open_top hd for PySem.Challenge.rw_dn0312_12
end MineTop

end
section
open PySem PySem.W PySem.Calls PyProof.Rows
set_option Elab.async false
set_option maxRecDepth 100000
set_option maxHeartbeats 4000000
namespace Mine

theorem mg_of {h : Heap} {a : Addr} {m : Str → Option Value} {o : Obj} {es : Array DictEntry} {ep : Nat} (hn : h.Ns a m) (ho : h.get? a = some o) (hd : o.data = .dict es ep) (x : Str) : m x = nsFind es x := by
  obtain ⟨o', es', ep', h1, h2, _, h4⟩ := hn
  rw [ho] at h1
  cases h1
  rw [hd] at h2
  cases h2
  exact (h4 x).symm

theorem foo : PySem.Challenge.rw_dn0312_12.Holds := MineTop.hd (by
  intro w s₀ s₁ mg mb G Y a o pm cd doc dV kV h1 h2 h3 h4 h5 h6 htk args vals as p1 p2 p3 p4 p5
  have K := kIn_of Y
  have hmg := mg_of G.T.g (K 3 _ rfl) rfl
  let cx : Cx := ⟨Challenge.rw_dn0312_12.row.toRowW.prog, w, s₁.heap, mg, mb, G.T.g, G.T.b, G.T.nolimit, 0, instRel w.params 88, instRel_mono⟩
  have h_len : (cx.mg "len").or (cx.mb "len") = some (.builtin "len") := by rw [show cx.mg "len" = none from (hmg _).trans (by rfl), show cx.mb "len" = some (.builtin "len") from (G.T.builtins _ (by decide)).trans (by rfl)]; rfl
  have h_range : (cx.mg "range").or (cx.mb "range") = some (.type "range") := by rw [show cx.mg "range" = none from (hmg _).trans (by rfl), show cx.mb "range" = some (.type "range") from (G.T.builtins _ (by decide)).trans (by rfl)]; rfl
  have h_set : (cx.mg "set").or (cx.mb "set") = some (.type "set") := by rw [show cx.mg "set" = none from (hmg _).trans (by rfl), show cx.mb "set" = some (.type "set") from (G.T.builtins _ (by decide)).trans (by rfl)]; rfl
  have hmTranslator : (cx.mg "Translator").or (cx.mb "Translator") = some (.ref 88) := by rw [show cx.mg "Translator" = some (.ref 88) from (hmg _).trans (by rfl)]; rfl
  have hmkTranslator : makesIn (MineTop.hd.heap_39 w.params) 88 = true := by kernel_rfl
  have cTranslator : Con cx 4 (.ref 88) makeF := con_class (fI := 36) rfl K hmkTranslator (by kernel_rfl) (by kernel_rfl) (K 36 _ rfl) rfl ⟨35, _, _, _, rfl, K 35 _ rfl, rfl, rfl⟩ rfl rfl rfl rfl rfl
    (fun s x y hk => BindsTo.of_defaults (T := 29) rfl (hk _ _ (K 29 _ rfl)) rfl rfl rfl) h_set (by rw [show cx.mg "_default_seps" = some (.str slash _) from (hmg _).trans (by rfl)]; rfl) (by kernel_rfl) (by kernel_rfl) (by kernel_rfl) (by kernel_rfl)
  have hkextend : KeepOk (.ref 50) cx.h₁ := .inl ⟨_, _, _, rfl, K 50 _ rfl, rfl⟩
  have Mextend : MethK cx (MineTop.hd.heap_39 w.params) 88 "extend" 50 := ⟨rfl, K, by kernel_rfl, by kernel_rfl, by kernel_rfl, by kernel_rfl, by decide, hkextend⟩
  have cextend : Con cx 1 (.ref 50) (runF 2 0 pextend) := con_meth (xs := ["self", "pattern"]) (rest := []) (k := 0) (K 50 _ rfl) rfl ⟨49, _, _, _, rfl, K 49 _ rfl, rfl, rfl⟩
    (ss_cons (s1_return (se_joined (jp_cons (x_str [40, 63, 115, 58]) (jp_cons (se_fv (x_var 1)) (jp_cons (x_str [41, 92, 90]) jp_nil))))) ss_nil)
    (fun vs hv => by match vs, hv with | [v0, v1], _ => rfl)
  have hkmatch_dirs : KeepOk (.ref 57) cx.h₁ := .inl ⟨_, _, _, rfl, K 57 _ rfl, rfl⟩
  have Mmatch_dirs : MethK cx (MineTop.hd.heap_39 w.params) 88 "match_dirs" 57 := ⟨rfl, K, by kernel_rfl, by kernel_rfl, by kernel_rfl, by kernel_rfl, by decide, hkmatch_dirs⟩
  have cmatch_dirs : Con cx 1 (.ref 57) (runF 2 0 pmatch_dirs) := con_meth (xs := ["self", "pattern"]) (rest := []) (k := 0) (K 57 _ rfl) rfl ⟨56, _, _, _, rfl, K 56 _ rfl, rfl, rfl⟩
    (ss_cons (s1_return (se_joined (jp_cons (se_fv (x_var 1)) (jp_cons (x_str [91, 47, 93, 63]) jp_nil)))) ss_nil)
    (fun vs hv => by match vs, hv with | [v0, v1], _ => rfl)
  have hk_law_ends : KeepOk (.ref 97) cx.h₁ := .inl ⟨_, _, _, rfl, K 97 _ rfl, rfl⟩
  have hm_law_ends : (cx.mg "_law_ends").or (cx.mb "_law_ends") = some (.ref 97) := by rw [show cx.mg "_law_ends" = some (.ref 97) from (hmg _).trans (by rfl)]; rfl
  have step_law_ends : ∀ n : Nat, Con cx (n + 1) (.ref 97) (r_law_ends n) → Con cx (n + 1 + 1) (.ref 97) (r_law_ends (n + 1)) := fun n ih => con_def (xs := ["made", "text", "start", "free"]) (rest := ["ways", "i", "places", "size"]) (k := n + 1) (K 97 _ rfl) rfl ⟨96, _, _, _, rfl, K 96 _ rfl, rfl, rfl⟩
        (ss_cons (x_own 4 (x_listF (ses_cons (se_list (ses_cons (x_var 2) ses_nil)) ses_nil))) (ss_cons (s1_assign (x_name 5) se_int) (ss_cons (s1_while 20000000 (st_cmp cmp_lt (x_var 5) (x_call (k := 0) con_len h_len (.inr (by intro a e; cases e)) (ses_cons (x_var 0) ses_nil))) (ss_cons (s1_assign (x_name 6) (se_ownItem 4 (se_neg se_int))) (ss_cons (s1_assign (x_name 7) se_int) (ss_cons (s1_if (st_cmp cmp_eq (se_item (x_var 0) (x_var 5)) (x_str [124])) (ss_cons (s1_append 4 (se_list (ses_cons (x_var 2) ses_nil))) ss_nil) (ss_cons (s1_if (st_cmp cmp_eq (se_cut (x_var 0) (sp_some (x_var 5)) (sp_some (se_bin bin_add (x_var 5) se_int))) (x_str [40, 63, 115, 58])) (ss_cons (s1_assign (x_name 7) (se_bin bin_sub (se_bin bin_add (x_meth (get_str F.slot_str_index F.type_str_index) con_index (x_var 0) (ses_cons (x_str [41]) (ses_cons (x_var 5) ses_nil))) se_int) (x_var 5))) (ss_cons (s1_last 4 (SEF.se (x_comp2 ["place", "end"] x_cs (si_list (x_var 6)) (x_lname 8) ts_nil (si_list (x_call ih hm_law_ends hk_law_ends (ses_cons (se_cut (x_var 0) (sp_some (se_bin bin_add (x_var 5) se_int)) (sp_some (se_bin bin_sub (se_bin bin_add (x_var 5) (x_var 7)) se_int))) (ses_cons (x_var 1) (ses_cons (x_var 8) (ses_cons se_bool ses_nil)))) (hk := ble_self _))) (x_lname 9) ts_nil (x_var 9)))) ss_nil)) (ss_cons (s1_if (st_cmp cmp_eq (se_cut (x_var 0) (sp_some (x_var 5)) (sp_some (se_bin bin_add (x_var 5) se_int))) (x_str [92, 90])) (ss_cons (s1_assign (x_name 7) se_int) (ss_cons (s1_last 4 (SEF.se (x_comp ["place"] x_cs (si_list (x_var 6)) (x_lname 8) (ts_one (st_cmp cmp_eq (x_var 8) (x_call (k := 0) con_len h_len (.inr (by intro a e; cases e)) (ses_cons (x_var 1) ses_nil)))) (x_var 8)))) ss_nil)) (ss_cons (s1_if (st_cmp cmp_eq (se_cut (x_var 0) (sp_some (x_var 5)) (sp_some (se_bin bin_add (x_var 5) se_int))) (x_str [91, 47, 93, 63])) (ss_cons (s1_assign (x_name 7) se_int) (ss_cons (s1_last 4 (se_bin bin_add (x_var 6) (SEF.se (x_comp ["place"] x_cs (si_list (x_var 6)) (x_lname 8) (ts_one (st_cmp cmp_eq (se_cut (x_var 1) (sp_some (x_var 8)) (sp_some (se_bin bin_add (x_var 8) se_int))) (x_str [47]))) (se_bin bin_add (x_var 8) se_int))))) ss_nil)) (ss_cons (s1_if (st_cmp cmp_eq (se_item (x_var 0) (x_var 5)) (x_str [46])) (ss_cons (s1_last 4 (SEF.se (x_comp ["place"] x_cs (si_list (x_var 6)) (x_lname 8) (ts_one (st_and (st_cmp cmp_lt (x_var 8) (x_call (k := 0) con_len h_len (.inr (by intro a e; cases e)) (ses_cons (x_var 1) ses_nil))) (st_or (st_plain (x_var 3)) (st_cmp cmp_ne (se_item (x_var 1) (x_var 8)) (x_str [10]))))) (se_bin bin_add (x_var 8) se_int)))) ss_nil) (ss_cons (s1_last 4 (SEF.se (x_comp ["place"] x_cs (si_list (x_var 6)) (x_lname 8) (ts_one (st_cmp cmp_eq (se_cut (x_var 1) (sp_some (x_var 8)) (sp_some (se_bin bin_add (x_var 8) se_int))) (se_item (x_var 0) (x_var 5)))) (se_bin bin_add (x_var 8) se_int)))) ss_nil)) ss_nil)) ss_nil)) ss_nil)) ss_nil)) (ss_cons (x_aug 5 aug_add (x_var 7)) ss_nil))))) (ss_freeze (ss_cons (s1_return (SEF.se (x_comp2 ["way", "place"] x_cs (si_list (x_var 4)) (x_lname 8) ts_nil (si_list (x_var 8)) (x_lname 9) ts_nil (x_var 9)))) ss_nil)))))
        (fun vs hv => by match vs, hv with | [v0, v1, v2, v3], _ => rfl)
  have c_law_ends : ∀ n : Nat, Con cx (n + 1) (.ref 97) (r_law_ends n) := rec_con (fun _ => rfl) step_law_ends
  have hk_law_whole : KeepOk (.ref 102) cx.h₁ := .inl ⟨_, _, _, rfl, K 102 _ rfl, rfl⟩
  have hm_law_whole : (cx.mg "_law_whole").or (cx.mb "_law_whole") = some (.ref 102) := by rw [show cx.mg "_law_whole" = some (.ref 102) from (hmg _).trans (by rfl)]; rfl
  have c_law_whole : Con cx 1 (.ref 102) (runF 2 0 p_law_whole) := con_def (xs := ["way", "text"]) (rest := []) (k := 0) (K 102 _ rfl) rfl ⟨101, _, _, _, rfl, K 101 _ rfl, rfl, rfl⟩
    (ss_cons (s1_if (st_cmp cmp_ne (x_call (k := 0) con_len h_len (.inr (by intro a e; cases e)) (ses_cons (x_var 0) ses_nil)) (x_call (k := 0) con_len h_len (.inr (by intro a e; cases e)) (ses_cons (x_var 1) ses_nil))) (ss_cons (s1_return se_bool) ss_nil) ss_nil) (ss_cons (s1_return (se_cmp cmp_eq (SEF.se (x_comp ["k"] x_cs (si_range (x_call (k := 0) con_len h_len (.inr (by intro a e; cases e)) (ses_cons (x_var 0) ses_nil)) h_range) (x_lname 2) (ts_one (st_cmp cmp_notIn (se_item (x_var 0) (x_var 2)) (se_list (ses_cons (x_str [46]) (ses_cons (se_item (x_var 1) (x_var 2)) ses_nil))))) (x_var 2))) (se_list ses_nil))) ss_nil))
    (fun vs hv => by match vs, hv with | [v0, v1], _ => rfl)
  have hklaw : KeepOk (.ref 107) cx.h₁ := .inl ⟨_, _, _, rfl, K 107 _ rfl, rfl⟩
  have hmlaw : (cx.mg "law").or (cx.mb "law") = some (.ref 107) := by rw [show cx.mg "law" = some (.ref 107) from (hmg _).trans (by rfl)]; rfl
  have claw : Con cx 104 (.ref 107) (runF 1 8 plaw) := con_def (xs := ["script"]) (rest := ["pieces", "fitting", "pattern", "path", "ways", "translator", "text", "due"]) (k := 103) (K 107 _ rfl) rfl ⟨106, _, _, _, rfl, K 106 _ rfl, rfl, rfl⟩
    (ss_cons (s1_assign (x_name 1) (se_list (ses_cons (x_str [97]) (ses_cons (x_str [98]) (ses_cons (x_str [46]) (ses_cons (x_str [47]) (ses_cons (x_str [124]) (ses_cons (x_str [10]) (ses_cons (x_str []) ses_nil))))))))) (ss_cons (s1_assign (x_name 2) (se_list (ses_cons (x_str [97]) (ses_cons (x_str [98]) (ses_cons (x_str [10]) (ses_cons (x_str [47]) (ses_cons (x_str []) (ses_cons (x_str [10]) (ses_cons (x_str [99]) ses_nil))))))))) (ss_cons (s1_assign (x_name 3) (x_meth (get_str F.slot_str_join F.type_str_join) con_join (x_str []) (ses_cons (SEF.se (x_comp ["x"] x_cs (si_list (x_var 0)) (x_lname 9) ts_nil (se_item (x_var 1) (se_bin bin_mod (x_var 9) se_int)))) ses_nil))) (ss_cons (s1_assign (x_name 4) (x_meth (get_str F.slot_str_join F.type_str_join) con_join (x_str []) (ses_cons (SEF.se (x_comp ["x"] x_cs (si_list (x_var 0)) (x_lname 9) ts_nil (se_item (se_list (ses_cons (se_item (x_var 2) (se_bin bin_mod (x_var 9) se_int)) (ses_cons (x_str []) (ses_cons (x_str [97]) (ses_cons (x_str [98]) (ses_cons (x_str [47]) (ses_cons (x_str [10]) (ses_cons (x_str [99]) ses_nil)))))))) (se_bin bin_mod (se_bin bin_div (x_var 9) se_int) se_int)))) ses_nil))) (ss_cons (s1_assign (x_name 5) (SEF.se (x_methF (get_str F.slot_str_split F.type_str_split) con_split (x_var 3) (ses_cons (x_str [124]) ses_nil)))) (ss_cons (s1_assign (x_name 6) (x_make cTranslator K hmkTranslator hmTranslator (ses_cons (x_str [47]) ses_nil))) (ss_cons (s1_for (si_list (se_list (ses_cons (x_var 4) (ses_cons (se_bin bin_add (x_var 4) (x_str [47])) (ses_cons (se_bin bin_add (x_var 4) (x_str [10])) ses_nil))))) (x_name 7) (ss_cons (s1_assign (x_name 8) (se_cmp cmp_ne (SEF.se (x_comp ["way"] x_cs (si_list (x_var 5)) (x_lname 9) (ts_one (st_plain (x_call c_law_whole hm_law_whole hk_law_whole (ses_cons (x_var 9) (ses_cons (x_var 7) ses_nil))))) (x_var 9))) (se_list ses_nil))) (ss_cons (s1_if (st_cmp cmp_ne (se_cmp cmp_ne (x_call (c_law_ends 100) hm_law_ends hk_law_ends (ses_cons (x_methI Mextend cextend (x_var 6) (ses_cons (x_var 3) ses_nil)) (ses_cons (x_var 7) (ses_cons se_int (ses_cons se_bool ses_nil))))) (se_list ses_nil)) (x_var 8)) (ss_cons (s1_return se_bool) ss_nil) ss_nil) (ss_cons (s1_assign (x_name 8) (se_or (x_var 8) (se_and (se_cmp cmp_eq (se_cut (x_var 7) (sp_some (se_neg se_int)) sp_none) (x_str [47])) (x_call c_law_whole hm_law_whole hk_law_whole (ses_cons (se_item (x_var 5) (se_neg se_int)) (ses_cons (se_cut (x_var 7) sp_none (sp_some (se_neg se_int))) ses_nil)))))) (ss_cons (s1_if (st_cmp cmp_ne (se_cmp cmp_ne (x_call (c_law_ends 100) hm_law_ends hk_law_ends (ses_cons (x_methI Mextend cextend (x_var 6) (ses_cons (x_methI Mmatch_dirs cmatch_dirs (x_var 6) (ses_cons (x_var 3) ses_nil)) ses_nil)) (ses_cons (x_var 7) (ses_cons se_int (ses_cons se_bool ses_nil))))) (se_list ses_nil)) (x_var 8)) (ss_cons (s1_return se_bool) ss_nil) ss_nil) ss_nil))))) (ss_cons (s1_return se_bool) ss_nil))))))))
    (fun vs hv => by match vs, hv with | [v0], _ => rfl)
  have ha : a = 107 := by
    have e := h5.symm.trans ((hmg _).trans (show _ = some (Value.ref 107) from rfl))
    exact Value.ref.inj (Option.some.inj e)
  subst ha
  exact law_end (l := Challenge.rw_dn0312_12) rfl rfl (cx := cx) rfl rfl claw (by decide) pure12 h6 htk p1 p4)
end Mine

end
theorem PySem.Challenge.cw_dn0312_12_holds : PySem.Challenge.rw_dn0312_12.Holds :=
  Mine.foo
