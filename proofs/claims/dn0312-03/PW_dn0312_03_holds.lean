import PyProof.Rows.All
import Wide.All
import OpenK.AllK
import Wide.FinOn
import Lean
import PySem.Challenge.RW_dn0312_03
set_option Elab.async false
set_option maxRecDepth 100000
set_option linter.unusedVariables false
set_option linter.unusedSimpArgs false
section
open PySem PySem.W PyProof.Rows
set_option Elab.async false
set_option maxRecDepth 100000
namespace Mine

/-- the one question to the collector that a scanner's step puts -/
noncomputable def isAsk : Code → Bool
  | .builtin "gc.ask" ⟨[.int 13 _], []⟩ => true
  | _ => false
theorem isAsk_shape {c : Code} (h : isAsk c = true) : ∃ t, c = .builtin "gc.ask" ⟨[.int 13 t], []⟩ := by
  unfold isAsk at h
  split at h
  · exact ⟨_, rfl⟩
  · cases h
noncomputable def denG (c : Code) : Sem Fin := cond (isAsk c) (ret (.bool false)) (denote table c)
noncomputable def Mg (prog : Program) (w : World) : Model := ⟨denG, prog, w⟩
theorem denG_of_not {c : Code} (h : isAsk c = false) : denG c = denote table c := by unfold denG; rw [h]; rfl

theorem entry_gc_ask : entryFor table "gc.ask" = some Builtin.«gc.ask» := entryFor_of_tree (by kernel_rfl)
theorem den_builtin (id : String) (args : Args) : denote table (.builtin id args) = (match entryFor table id with | some b => b args | none => unsupported ((withoutEnding? id "#data").getD id)) := rfl
theorem den_ask (t : Tok) : denote table (.builtin "gc.ask" ⟨[.int 13 t], []⟩) = .pure (.again (.builtin "lifetime.ask" ⟨[.int 13 t], []⟩)) := by
  rw [den_builtin, entry_gc_ask]; rfl
theorem loud_ask (t : Tok) : (Code.builtin "lifetime.ask" ⟨[.int 13 t], []⟩).quiet = false := by
  simp [Code.quiet, Thread.loud, Thread.atCollectorCode, Thread.atExit]

theorem not_runs_ask {M : Model} {Γ : Ctx} {p : Pos} {c' : Code} {fs : List Frame} {s s' : Shared} {e : End} (hq : c'.quiet = false) :
    ∀ t, t = Sem.pure (.again c') → ¬ Runs M Γ p t fs s e s' := by
  intro t ht h
  induction h <;> (try cases ht) <;> simp_all

theorem runs_den {prog : Program} {w : World} {Γ : Ctx} {p : Pos} {c : Code} {fs : List Frame} {s s' : Shared} {e : End}
    (h : Runs (model prog w) Γ p ((model prog w).den c) fs s e s') : (Mg prog w).den c = (model prog w).den c := by
  cases hc : isAsk c with
  | false => exact denG_of_not hc
  | true =>
    obtain ⟨t, rfl⟩ := isAsk_shape hc
    exact absurd h (not_runs_ask (loud_ask t) _ (den_ask t))

theorem runs_mono {prog : Program} {w : World} {Γ : Ctx} {p : Pos} {t : Sem Fin} {fs : List Frame} {s s' : Shared} {e : End}
    (h : Runs (model prog w) Γ p t fs s e s') : Runs (Mg prog w) Γ p t fs s e s' := by
  induction h with
  | done => exact .done
  | raise => exact .raise
  | again hq hr ih => exact .again hq (by rw [runs_den hr]; exact ih)
  | rule _ ih => exact .rule ih
  | «at» _ ih => exact .at ih
  | load ho _ ih => exact .load ho ih
  | update ho _ ih => exact .update ho ih
  | loadIfAlive _ ih => exact .loadIfAlive ih
  | point _ ih => exact .point ih
  | alloc _ ih => exact .alloc ih
  | fresh _ ih => exact .fresh ih
  | ask _ ih => exact .ask ih
  | choose hn _ ih => exact .choose hn ih
  | os _ ih => exact .os ih
  | handled _ ih => exact .handled ih
  | genState hg _ ih => exact .genState hg ih
  | stack _ ih => exact .stack ih
  | thread _ ih => exact .thread ih
  | newGen _ ih => exact .newGen ih
  | call h1 h2 ih1 ih2 => exact .call (by rw [runs_den h1]; exact ih1) ih2
  | callSusp h1 ih1 => exact .callSusp (by rw [runs_den h1]; exact ih1)
  | yield => exact .yield
  | resumeFresh hg h1 hq h2 ih1 ih2 => exact .resumeFresh hg (by rw [runs_den h1]; exact ih1) hq ih2
  | resumeSuspended hg h1 hq h2 ih1 ih2 => exact .resumeSuspended hg ih1 hq ih2
  | resumeJustStarted hg hv _ ih => exact .resumeJustStarted hg hv ih
  | resumeThrowFresh hg _ ih => exact .resumeThrowFresh hg ih
  | resumeRunning hg _ ih => exact .resumeRunning hg ih
  | resumeFinished hg _ ih => exact .resumeFinished hg ih
  | segRet _ _ ih1 ih2 => exact .segRet ih1 ih2
  | segGen _ _ ih1 ih2 => exact .segGen ih1 ih2
  | segSuspOut hs _ ih => exact .segSuspOut hs ih
  | segSuspGen hs _ hq _ ih1 ih2 => exact .segSuspGen hs ih1 hq ih2

theorem wpCode_mono_model {prog : Program} {w : World} {Γ : Ctx} {R R' : Result → Shared → Prop} {p : Pos} {s : Shared} (hR : ∀ r s', R r s' → R' r s')
    (h : wpCode (model prog w) Γ R p s) : wpCode (Mg prog w) Γ R' p s := by
  obtain ⟨r, s', hr, hx⟩ := h
  refine ⟨r, s', ?_, hR _ _ hx⟩
  show Runs (Mg prog w) Γ p ((Mg prog w).den Γ.code) [] s (.ret r) s'
  have hr' : Runs (model prog w) Γ p ((model prog w).den Γ.code) [] s (.ret r) s' := hr
  rw [runs_den hr']; exact runs_mono hr'

theorem wakes_mono {prog : Program} {w : World} {Γ : Ctx} {p : Pos} {g : Nat} {r : Resume} {s : Shared} {res : GenResult} {s' : Shared}
    (h : Wakes (model prog w) Γ p g r s res s') : Wakes (Mg prog w) Γ p g r s res s' := by
  unfold Wakes at h ⊢
  split at h
  · exact h
  · split at h
    · obtain ⟨e₁, s₁, h1, h2⟩ := h; exact ⟨e₁, s₁, by rw [runs_den h1]; exact runs_mono h1, h2⟩
    · exact h
    · exact h
  · obtain ⟨e₁, s₁, h1, h2⟩ := h; exact ⟨e₁, s₁, runs_mono h1, h2⟩
  · exact h
  · exact h

theorem wp_mono_model {α : Type} {prog : Program} {w : World} {Γ : Ctx} (t : Sem α) : ∀ {Q : α → Pos → Shared → Prop} {E : Value → Pos → Shared → Prop} {p : Pos} {s : Shared},
    Sem.wp (model prog w) Γ t Q E p s → Sem.wp (Mg prog w) Γ t Q E p s := by
  induction t with
  | pure a => intro Q E p s h; simpa only [Sem.wp] using h
  | raise a => intro Q E p s h; simpa only [Sem.wp] using h
  | unsupported a => intro Q E p s h; simp only [Sem.wp] at h
  | finish a => intro Q E p s h; simp only [Sem.wp] at h
  | rule _ k ih => intro Q E p s h; simp only [Sem.wp] at h ⊢; exact ih _ h
  | «at» _ k ih => intro Q E p s h; simp only [Sem.wp] at h ⊢; exact ih _ h
  | load _ _ k ih => intro Q E p s h; simp only [Sem.wp] at h ⊢; obtain ⟨o, ho, h⟩ := h; exact ⟨o, ho, ih _ h⟩
  | update _ _ _ k ih => intro Q E p s h; simp only [Sem.wp] at h ⊢; exact ⟨h.1, ih _ h.2⟩
  | alloc _ k ih => intro Q E p s h; simp only [Sem.wp] at h ⊢; exact ih _ h
  | loadIfAlive _ k ih => intro Q E p s h; simp only [Sem.wp] at h ⊢; exact ih _ h
  | point _ k ih => intro Q E p s h; simp only [Sem.wp] at h ⊢; exact ih _ h
  | register _ k ih => intro Q E p s h; simp only [Sem.wp] at h
  | fresh k ih => intro Q E p s h; simp only [Sem.wp] at h ⊢; exact ih _ h
  | ask k ih => intro Q E p s h; simp only [Sem.wp] at h ⊢; exact ih _ h
  | choose _ _ k ih => intro Q E p s h; simp only [Sem.wp] at h ⊢; exact ⟨h.1, ih _ h.2⟩
  | os _ _ k ih => intro Q E p s h; simp only [Sem.wp] at h ⊢; exact ih _ h
  | call c hd g l k ih => intro Q E p s h; simp only [Sem.wp] at h ⊢; exact wpCode_mono_model (fun r s' h' => ih _ h') h
  | handled _ k ih => intro Q E p s h; simp only [Sem.wp] at h ⊢; exact ih _ h
  | newGen _ k ih => intro Q E p s h; simp only [Sem.wp] at h ⊢; exact ih _ h
  | genState _ k ih => intro Q E p s h; simp only [Sem.wp] at h ⊢; obtain ⟨o, ho, h⟩ := h; exact ⟨o, ho, ih _ h⟩
  | resume _ _ _ k ih => intro Q E p s h; simp only [Sem.wp] at h ⊢; obtain ⟨res, s', hw, h⟩ := h; exact ⟨res, s', wakes_mono hw, ih _ h⟩
  | yield _ _ _ k ih => intro Q E p s h; simp only [Sem.wp] at h
  | stack k ih => intro Q E p s h; simp only [Sem.wp] at h ⊢; exact ih _ h
  | fork _ k ih => intro Q E p s h; simp only [Sem.wp] at h
  | thread k ih => intro Q E p s h; simp only [Sem.wp] at h ⊢; exact ih _ h
  | await _ _ _ _ k ih => intro Q E p s h; simp only [Sem.wp] at h

theorem any_mono_model {α : Type} {prog : Program} {w : World} {A : Around} {t : Sem α} {Q : α → Shared → Prop} {E : Value → Shared → Prop} {s : Shared}
    (h : wpAny (model prog w) A t Q E s) : wpAny (Mg prog w) A t Q E s := fun Γ p hΓ => wp_mono_model t (h Γ p hΓ)
end Mine

end
section
open PySem PySem.W PyProof.Rows
set_option Elab.async false
set_option maxRecDepth 100000
namespace Mine

theorem step_denG (prog : Program) (w : World) (s : Shared) (t : Thread) :
    step denG prog w s t = step (denote table) prog w s t ∨
      ∃ c s₁ pos stk, isAsk c = true ∧ step (denote table) prog w s t = .go s₁ ⟨denote table c, c, pos, stk⟩ ∧ step denG prog w s t = .go s₁ ⟨denG c, c, pos, stk⟩ := by
  obtain ⟨heap, gens, drawn, toks, os⟩ := s
  obtain ⟨cur, code, pos, stack⟩ := t
  cases cur with
  | pure a =>
    cases a with
    | done f => exact .inl rfl
    | again c =>
      cases hc : isAsk c with
      | false => left; simp only [step, denG_of_not hc]
      | true => right; exact ⟨c, _, _, _, hc, rfl, rfl⟩
  | call c h g l k =>
    cases hc : isAsk c with
    | false => left; simp only [step, denG_of_not hc]
    | true => right; exact ⟨c, _, _, _, hc, rfl, rfl⟩
  | resume g r l k =>
    simp only [step]
    cases hg : gens[g]? with
    | none => exact .inl rfl
    | some x =>
      cases x with
      | fresh c =>
        cases r with
        | throw e => exact .inl rfl
        | send v =>
          cases v with
          | none =>
            cases hc : isAsk c with
            | false => left; simp only [denG_of_not hc]
            | true => right; exact ⟨c, _, _, _, hc, rfl, rfl⟩
          | _ => exact .inl rfl
      | _ => exact .inl rfl
  | _ => exact .inl rfl

theorem watching_asleep {s : Shared} (hz : s.asleep) : s.watching = false := by
  unfold Shared.watching; rw [hz.1]; rfl

theorem ask_turn (prog : Program) (w : World) (s : Shared) (hz : s.asleep) (t : Tok) (code : Code) (pos : Pos) (stk : List Frame) :
    sstep (denote table) prog w (.single s ⟨.pure (.again (.builtin "lifetime.ask" ⟨[.int 13 t], []⟩)), code, pos, stk⟩) = .go (.single s ⟨ret (.bool false), code, pos, stk⟩) := by
  obtain ⟨hr, hc⟩ := hz
  have hw := watching_asleep ⟨hr, hc⟩
  have h1 : (Config.single s ⟨.pure (.again (.builtin "lifetime.ask" ⟨[.int 13 t], []⟩)), code, pos, stk⟩).collect? w.params = none := by
    simp [Config.collect?, Config.single, (nothing_to_collect _ _ _ s _ hr).1]
  have h2 : (Config.single s ⟨.pure (.again (.builtin "lifetime.ask" ⟨[.int 13 t], []⟩)), code, pos, stk⟩).collectable = [] := by
    simp [Config.collectable, Config.single, (nothing_to_collect w.params _ _ s _ hr).2]
  have hm : (Config.single s ⟨.pure (.again (.builtin "lifetime.ask" ⟨[.int 13 t], []⟩)), code, pos, stk⟩).moves w.params.profile = [.run 0] := by
    simp [Config.moves, Config.single, movesFrom, Thread.moves, Thread.atomic, Thread.rests, Thread.tells]
  have hp : (Config.single s ⟨.pure (.again (.builtin "lifetime.ask" ⟨[.int 13 t], []⟩)), code, pos, stk⟩).pick w = .ok (.run 0, .single s ⟨.pure (.again (.builtin "lifetime.ask" ⟨[.int 13 t], []⟩)), code, pos, stk⟩) := by
    simp only [Config.pick, h1, h2, Config.pickThread, hm]
    cases w.params.lifetimes <;> simp
  have hl : ∀ others, lifeStep (denote table) prog w others s ⟨.pure (.again (.builtin "lifetime.ask" ⟨[.int 13 t], []⟩)), code, pos, stk⟩ = .go s ⟨ret (.bool false), code, pos, stk⟩ := by
    intro others
    have e1 : collectorTurn? w.params others s ⟨.pure (.again (.builtin "lifetime.ask" ⟨[.int 13 t], []⟩)), code, pos, stk⟩ = some (askTurn w.params others s ⟨.pure (.again (.builtin "lifetime.ask" ⟨[.int 13 t], []⟩)), code, pos, stk⟩ [.int 13 t]) := rfl
    have e2 : askTurn w.params others s ⟨.pure (.again (.builtin "lifetime.ask" ⟨[.int 13 t], []⟩)), code, pos, stk⟩ [.int 13 t] = (s, ⟨ret (.bool false), code, pos, stk⟩) :=
      if_pos (c := ((!s.heap.life.gcEnabled || s.heap.life.thresholds.head? == some 0 || s.heap.life.collecting || !s.watching) = true)) (by rw [hw]; simp)
    unfold lifeStep
    rw [if_pos (by simp [Thread.special, Thread.atCollectorCode])]
    dsimp only
    rw [e1, e2]
    simp only [hc, Bool.false_and, Bool.false_eq_true, if_false]
  unfold sstep
  rw [hp]
  simp only [Config.move, Config.run, Config.single]
  simp [hl, others_single, frozenBadly, ThreadState.insideWrite, Thread.finalizes, Thread.special, Thread.atCollectorCode]

theorem sim (prog : Program) (w : World) : ∀ (n : Nat) (s : Shared) (t : Thread) (o : Outcome) (s' : Shared), s.asleep → o.ends = true → runN denG prog w n s t = .halted o s' →
    (∀ k s₁ t₁, runN denG prog w k s t = .running s₁ t₁ → t₁.calm = true) → ∃ m, schedN (denote table) prog w m (.single s t) = .halted o s' := by
  intro n
  induction n with
  | zero => intro s t o s' _ _ h; cases h
  | succ n ih =>
    intro s t o s' hz ho h hc
    have hcalm := hc 0 s t rfl
    have life : ∀ s₂ t₂, step denG prog w s t = .go s₂ t₂ → s₂.asleep := fun s₂ t₂ e => by
      simp only [Shared.asleep, step_life denG prog w s s₂ t t₂ e]; exact hz
    have later : ∀ s₂ t₂, step denG prog w s t = .go s₂ t₂ → ∀ k s₁ t₁, runN denG prog w k s₂ t₂ = .running s₁ t₁ → t₁.calm = true := fun s₂ t₂ e k s₁ t₁ hk =>
      hc (k + 1) s₁ t₁ (by simp only [runN, e]; exact hk)
    rcases step_denG prog w s t with e | ⟨c, s₁, pos, stk, hask, e1, e2⟩
    · rcases sstep_single (denote table) prog w s t hcalm hz with e' | e'
      · cases hs : step denG prog w s t with
        | go s₂ t₂ =>
          simp only [runN, hs] at h
          obtain ⟨m, hm⟩ := ih s₂ t₂ o s' (life _ _ hs) ho h (later _ _ hs)
          refine ⟨m + 1, ?_⟩
          simp only [schedN, e', ← e, hs, Step.lift]; exact hm
        | halt o₂ s₂ =>
          simp only [runN, hs] at h
          injection h with h1 h2
          subst h1 h2
          refine ⟨1, ?_⟩
          simp only [schedN, e', ← e, hs, Step.lift]
      · rw [← e] at e'
        simp only [runN, e'] at h
        injection h with h1 h2
        subst h1
        cases ho
    · simp only [runN, e2] at h
      obtain ⟨m, hm⟩ := ih _ _ o s' (life _ _ e2) ho h (later _ _ e2)
      obtain ⟨tk, rfl⟩ := isAsk_shape hask
      rcases sstep_single (denote table) prog w s t hcalm hz with e' | e'
      · refine ⟨m + 1 + 1, ?_⟩
        simp only [schedN, e', e1, Step.lift]
        rw [den_ask, ask_turn prog w s₁ (life _ _ e2)]
        exact hm
      · rw [e1] at e'; cases e'

/-- a run of the altered model, to its end, is a run of the scheduler with the real table -/
theorem halts {prog : Program} {w : World} {c : Code} {t : Sem Fin} {R : Result → Shared → Prop} {p : Pos} {s : Shared} (hreg : s.asleep)
    (h : Sem.wp (Mg prog w) ⟨c, none, none, [], none⟩ t (Sem.finPost (Mg prog w) ⟨c, none, none, [], none⟩ fun r s' => R r s' ∧ leftWithCleanup s'.gens = false)
      (fun e _ s' => R (.error e) s' ∧ leftWithCleanup s'.gens = false) p s) :
    ∃ n r s' s'', schedN (denote table) prog w n (.single s ⟨t, c, p, []⟩) = .halted (outcomeOf r) s'' ∧ s''.heap.life = s.heap.life ∧ s''.forget = s'.forget ∧ R r s' := by
  obtain ⟨n, r, s', hn, hR⟩ := (wp_iff_halts (M := Mg prog w) t R p s).mp h
  obtain ⟨s'', hr, hf, hcalm⟩ := runNI_real (Mg prog w).den (Mg prog w).prog (Mg prog w).w hn (outcomeOf_ends r)
  obtain ⟨m, hm⟩ := sim prog w n s ⟨t, c, p, []⟩ _ _ hreg (outcomeOf_ends r) hr hcalm
  exact ⟨m, r, s', s'', hm, runN_life _ _ _ hr, hf, hR⟩
end Mine

end
section
open PySem PySem.W PySem.Calls PyProof.Rows
set_option Elab.async false
set_option maxRecDepth 100000
namespace Mine

/-- the caller's own context: nothing stands below it -/
noncomputable abbrev callerG : Ctx := ⟨.builtin "claim.caller" {}, none, none, [], none⟩

theorem callFromG {c : ClaimW} {tree : List Value → Sem Fin} {w : World} {s : Shared} {free : Addr → Prop} {gens : Prop} {kept : Heap → Prop} (hz : s.asleep) (hgens : s.gens = #[])
    (hspec : ∀ args, c.pre args = true → WData.layableAll args = true → ∀ ord : List DictEntry → List DictEntry, (∀ l, (ord l).Perm l) →
      ∃ vs s₁, layAllW c.records (classAt s.heap) w.params ord args s = some (vs, s₁) ∧
        Sem.wp (Mg c.prog w) callerG (tree vs) (fun fin _ s' => ∃ f, fin = .done f ∧ (c.Ends s args vs s₁ (.ok f) s' ∧ s'.os = s.os ∧ AllBare s'.gens ∧ kept s'.heap)) (fun _ _ _ => False) default s₁) :
    c.CallFrom (fun vs => ⟨tree vs, .builtin "claim.caller" {}, default, []⟩) w free gens kept s := by
  intro args hpre hlay ord hord
  obtain ⟨vs, s₁, hlaid, hcode⟩ := hspec args hpre hlay ord hord
  have hal := layAllW_rest _ _ _ hlaid
  obtain ⟨k, r, s', s'', hsched, hlf, hfo, hcase, hos, hkp⟩ := halts (prog := c.prog) (w := w) (t := tree vs) (s := s₁)
    (R := fun r s' => c.Ends s args vs s₁ r s' ∧ s'.os = s.os ∧ kept s'.heap) (Shared.asleep_of_life hal.2.2.2 hz)
    (Sem.wp_mono _ _ _ (fun fin p' s' h' => by
      obtain ⟨f, rfl, h1, h2, h3, h4⟩ := h'
      exact ⟨⟨h1, h2, h4⟩, leftWithCleanup_false_of_bare h3⟩) (fun _ _ _ h' => h'.elim) _ _ hcode)
  obtain ⟨eh, _, _, eo, _⟩ := Shared.forget_eq hfo
  have hcase := hcase.congr eh
  rw [← eh] at hkp
  rw [← eo] at hos
  have hlife : s''.heap.life = s.heap.life := hlf.trans hal.2.2.2
  refine ⟨vs, s₁, hlaid, k, _, s'', hsched, ?_, (fun _ i x hx => by rw [hgens] at hx; simp at hx), hkp, by rw [hlife], Shared.rest_eq hos⟩
  rcases hcase with ⟨v, rfl, d1, d2, d3, d4, d5⟩ | ⟨e, ob, cls, rfl, d1, d2, d3, d4, d5⟩
  · exact .inl ⟨v, rfl, d1, d2, d3, fun b o y _ => d4 b o y, d5⟩
  · exact .inr ⟨e, ob, cls, rfl, d1, d2, d3, d4, fun b o y _ => d5 b o y⟩

/-! there is a token before the law is called -/
section
variable {R : WRecords} {cl : Str → Option Addr} {P : Params} {ord : List DictEntry → List DictEntry}
mutual
theorem layW_toks : ∀ (d : WData) (s : Shared) (r : Value × Shared), layW R cl P ord d s = some r → s.toks ≤ r.2.toks
  | .none, s, r, h => by rw [layW] at h; cases h; exact Nat.le_refl _
  | .bool b, s, r, h => by rw [layW] at h; cases h; exact Nat.le_refl _
  | .int i, s, r, h => by rw [layW] at h; cases h; exact Nat.le_succ _
  | .str i, s, r, h => by rw [layW] at h; cases h; exact Nat.le_succ _
  | .float i, s, r, h => by rw [layW] at h; cases h; exact Nat.le_succ _
  | .bytes i, s, r, h => by rw [layW] at h; cases h; exact Nat.le_succ _
  | .bytearray i, s, r, h => by rw [layW] at h; cases h; exact Nat.le_refl _
  | .list xs, s, r, h => by
    rw [layW] at h
    split at h
    · rename_i q hq; cases h; exact layAllW_toks xs s q hq
    · cases h
  | .tuple xs, s, r, h => by
    rw [layW] at h
    split at h
    · rename_i q hq; cases h; exact layAllW_toks xs s q hq
    · cases h
  | .dict xs, s, r, h => by
    rw [layW] at h
    split at h
    · rename_i q hq; cases h; exact layKvW_toks xs s q hq
    · cases h
  | .set xs, s, r, h => by
    rw [layW] at h
    split at h
    · rename_i q hq; cases h; exact layElemsW_toks xs s q hq
    · cases h
  | .frozenset xs, s, r, h => by
    rw [layW] at h
    split at h
    · rename_i q hq; cases h; exact layElemsW_toks xs s q hq
    · cases h
  | .obj c kvs, s, r, h => by
    rw [layW] at h
    split at h
    · split at h
      · split at h
        · split at h
          · rename_i q hq; cases h; exact layFieldsW_toks kvs s q hq
          · cases h
        · cases h
      · cases h
    · cases h
theorem layAllW_toks : ∀ (ds : List WData) (s : Shared) (r : List Value × Shared), layAllW R cl P ord ds s = some r → s.toks ≤ r.2.toks
  | [], s, r, h => by rw [layAllW] at h; cases h; exact Nat.le_refl _
  | x :: xs, s, r, h => by
    rw [layAllW] at h
    split at h
    · rename_i q hq
      split at h
      · rename_i q2 hq2; cases h; exact Nat.le_trans (layW_toks x s q hq) (layAllW_toks xs _ q2 hq2)
      · cases h
    · cases h
theorem layKvW_toks : ∀ (ds : List (WData × WData)) (s : Shared) (r : List DictEntry × Shared), layKvW R cl P ord ds s = some r → s.toks ≤ r.2.toks
  | [], s, r, h => by rw [layKvW] at h; cases h; exact Nat.le_refl _
  | (k, v) :: xs, s, r, h => by
    rw [layKvW] at h
    split at h
    · rename_i q hq
      split at h
      · rename_i q2 hq2
        split at h
        · rename_i q3 hq3; cases h; exact Nat.le_trans (Nat.le_trans (layW_toks k s q hq) (layW_toks v _ q2 hq2)) (layKvW_toks xs _ q3 hq3)
        · cases h
      · cases h
    · cases h
theorem layElemsW_toks : ∀ (ds : List WData) (s : Shared) (r : List DictEntry × Shared), layElemsW R cl P ord ds s = some r → s.toks ≤ r.2.toks
  | [], s, r, h => by rw [layElemsW] at h; cases h; exact Nat.le_refl _
  | x :: xs, s, r, h => by
    rw [layElemsW] at h
    split at h
    · rename_i q hq
      split at h
      · rename_i q2 hq2; cases h; exact Nat.le_trans (layW_toks x s q hq) (layElemsW_toks xs _ q2 hq2)
      · cases h
    · cases h
theorem layFieldsW_toks : ∀ (ds : List (Str × WData)) (s : Shared) (r : List DictEntry × Shared), layFieldsW R cl P ord ds s = some r → s.toks ≤ r.2.toks
  | [], s, r, h => by rw [layFieldsW] at h; cases h; exact Nat.le_refl _
  | (f, v) :: xs, s, r, h => by
    rw [layFieldsW] at h
    split at h
    · rename_i q hq
      split at h
      · rename_i q2 hq2; cases h; exact Nat.le_trans (Nat.le_trans (Nat.le_succ _) (layW_toks v _ q hq)) (layFieldsW_toks xs _ q2 hq2)
      · cases h
    · cases h
end
end
theorem importEnds_toks {tb : String → Option Builtin} {p : Program} {w : World} : ∀ (N : Nat) (s : Shared) (t : Thread) (s1 : Shared), importEnds tb p w N s t = some s1 → s.toks ≤ s1.toks
  | 0, _, _, _, h => by simp [importEnds] at h
  | N + 1, s, t, s1, h => by
    unfold importEnds at h
    split at h
    · cases h; exact Nat.le_refl _
    · cases h
    · split at h
      · rename_i s' t' hs
        exact Nat.le_trans (step_toks_le _ p w s s' t t' hs) (importEnds_toks N s' t' s1 h)
      · cases h
theorem topRun_toks {tb : String → Option Builtin} {p : Program} {w : World} {n₀ : Nat} {ann : Option Value} : ∀ (N : Nat) (s : Shared) (t : Thread) (s1 : Shared), topRun tb p w n₀ ann N s t = some s1 → s.toks ≤ s1.toks
  | 0, _, _, _, h => by simp [topRun] at h
  | N + 1, s, t, s1, h => by
    unfold topRun at h
    split at h
    · cases h; exact Nat.le_refl _
    · split at h
      · cases h
      · split at h
        · rename_i s' t' hs
          exact Nat.le_trans (step_toks_le _ p w s s' t t' hs) (topRun_toks N s' t' s1 h)
        · cases h
theorem fenceModule_toks {m : Str} {s s1 : Shared} (h : fenceModule? m s = some s1) : s1.toks = s.toks := by
  unfold fenceModule? at h
  repeat' split at h
  all_goals first | (cases h; done) | skip
  rw [Option.map_eq_some_iff] at h
  obtain ⟨o, _, rfl⟩ := h
  rfl
theorem fenceAll_toks : ∀ {ms : List Str} {s s1 : Shared}, fenceAll? ms s = some s1 → s1.toks = s.toks
  | [], s, s1, h => by cases h; rfl
  | m :: ms, s, s1, h => by
    rw [fenceAll?, Option.bind_eq_some_iff] at h
    obtain ⟨s2, h1, h2⟩ := h
    rw [fenceAll_toks h2, fenceModule_toks h1]
theorem copies_toks : ∀ {ms : List Str} {s s1 : Shared}, copiesAnew? ms s = some s1 → s1.toks = s.toks
  | [], s, s1, h => by cases h; rfl
  | m :: ms, s, s1, h => by
    rw [copiesAnew?, Option.bind_eq_some_iff] at h
    obtain ⟨s2, h1, h2⟩ := h
    rw [copyAnew?, Option.map_eq_some_iff] at h1
    obtain ⟨o, _, rfl⟩ := h1
    rw [copies_toks h2]
theorem openEnds_toks {tb : String → Option Builtin} {p : Program} {w : World} {N : Nat} {s : Shared} (h : openEnds tb p w N = some s) : 0 < s.toks := by
  unfold openEnds fencedOpening at h
  rw [Option.bind_eq_some_iff] at h
  obtain ⟨s0, h0, h⟩ := h
  rw [Option.bind_eq_some_iff] at h0
  obtain ⟨s', h1, h0⟩ := h0
  have t1 : 0 < s'.toks := Nat.lt_of_lt_of_le (show 0 < (start (opening p)).1.toks from Nat.one_pos) (importEnds_toks _ _ _ _ h1)
  have t2 : s0.toks = s'.toks := by
    unfold fenceModules? at h0
    rw [Option.bind_eq_some_iff] at h0
    obtain ⟨s2, h2, h0⟩ := h0
    split at h0
    · rw [copies_toks h0, fenceAll_toks h2]
    · cases h0; exact fenceAll_toks h2
  unfold topFrom at h
  split at h
  · rw [Option.bind_eq_some_iff] at h
    obtain ⟨s3, h3, h⟩ := h
    split at h
    · cases h; exact Nat.lt_of_lt_of_le (t2 ▸ t1) (topRun_toks _ _ _ _ h3)
    · cases h
  · cases h
theorem leftT {p q : Program} {loose : List Str} {Xt : Shared → Bool} {α : Type} {Yf : Shared → α} {Ya : World → α} {N : Nat} (left : LeftO p q loose Xt Yf Ya N) : LeftO p q loose Xt (fun s => (Yf s, decide (0 < s.toks))) (fun w => (Ya w, true)) N := fun w => by
  have h := left w
  rw [Option.map_eq_some_iff] at h ⊢
  obtain ⟨s, h1, h2⟩ := h
  refine ⟨s, h1, ?_⟩
  rw [Prod.mk.injEq] at h2
  rw [h2.1]
  show (_, (Yf s, decide (0 < s.toks))) = (_, (Ya w, true))
  rw [h2.2, decide_eq_true (openEnds_toks h1)]

/-- what is left to show of the law's call -/
noncomputable abbrev WalkG (q : Program) (loose : List Str) (XP : (Str → Option Value) → Heap → Prop) (YP : World → Heap → Prop) (r : RowW) (d : DefRec) (kwd : List (Str × PySem.Expr)) : Prop :=
  ∀ (w : World) (s₀ s₁ : Shared) (mg mb : Str → Option Value), Ground q loose r.records XP w s₀ mg mb s₁.heap → YP w s₁.heap → ∀ (a : Addr) (o : Obj) (pm cd doc dV kV : Value), s₁.heap.get? a = some o →
    o.data = .func { docDef d.name d.params d.body d.scope pm cd doc with defaults := dV, kwdefaults := kV } → s₁.heap.CodeRec cd d.name → Dflts mg s₁.heap d.params kwd dV kV → mg d.name = some (.ref a) → s₁.gens = #[] → 0 < s₁.toks →
    ∀ (args : List WData) (vals : List Value) (as : List Addr), r.claim.pre args = true → WData.layableAll args = true → ReadsAllW r.records (classAt s₀.heap) s₁.heap vals args as → WellAll w.params s₁.heap vals args → (∀ a ∈ as, (a == sysModules) = false) →
      Sem.wp (Mg r.prog w) callerG (PySem.call (.ref a) vals) (fun v _ s' => GoodWG r.claim (classAt s₀.heap) (ExcName.means s₀.heap) args s₁ (.ok (.ret v)) s') (fun _ _ _ => False) default s₁

theorem holdsG {r : OpenRow} {q : Program} {loose : List Str} {Xt : Shared → Bool} {XP : (Str → Option Value) → Heap → Prop} {α : Type} {Yf : Shared → α} {Ya : World → α} {YP : World → Heap → Prop} {d : DefRec} {kwd : List (Str × PySem.Expr)} {N : Nat}
    (left : LeftO r.prog q loose Xt Yf Ya N) (hY : ∀ w s, Yf s = Ya w → YP w s.heap) (hYk : ∀ w h h', YP w h → (∀ b o, h.get? b = some o → h'.get? b = some o) → YP w h')
    (hX : ∀ s, Xt s = true → XP (s.heap.nsMap mainGlobals) s.heap) (hXk : ∀ mg h h', XP mg h → (∀ b o, h.get? b = some o → h'.get? b = some o) → XP mg h')
    (hdef : defOf q r.name = some (d, kwd)) (hp : r.prog.theDef r.name = some (d.params, d.body, d.scope)) (hk : kwWritten? d.params.kwonlyargs d.params.kw_defaults = some kwd) (hRf : ∀ s, Xt s = true → RecFacts r.records s.heap) (hwr : (!r.writes || r.records.isEmpty) = true)
    (k1 : r.wellSaid = true) (ok : (chainsOk q && opensWell r.prog && (frees r.toRowW && r.within.isEmpty)) = true) (hb : r.prog.bare) (hw : r.toRowW.promised)
    (call : WalkG q loose XP YP r.toRowW d kwd) : r.Holds := by
  obtain ⟨ok, k5⟩ := Bool.and_eq_true_iff.mp ok
  obtain ⟨hch, o1⟩ := Bool.and_eq_true_iff.mp ok
  obtain ⟨k5, k6⟩ := Bool.and_eq_true_iff.mp k5
  obtain ⟨hsame, hu, ha, hap, hm⟩ := frees_parts k5
  refine ⟨k1, hw, ⟨hb, o1, by show r.makers.map _ = []; rw [hm]; rfl⟩, hw.witness, fun w => ⟨(left.behind hX hch w).1, fun s' hs' => ?_⟩⟩
  obtain ⟨s₀, hf, hg0, s, hT, hz, hgens, hg, G00, y0⟩ := ((leftT left).behind (XP := fun mg h => XP mg h ∧ RecFacts r.records h) (fun s hs => ⟨hX s hs, hRf s hs⟩) hch w).2 s' hs'
  obtain ⟨y, htk⟩ := Prod.mk.inj y0
  have htk : 0 < s.toks := of_decide_eq_true htk
  have G0 : Ground q loose [] XP w s (s.heap.nsMap mainGlobals) (s.heap.nsMap builtinsNs) s.heap := ⟨G00.T, G00.B, G00.D, G00.TE, G00.TD, G00.W, G00.X.1, G00.cls, G00.has, G00.apart, G00.once, G00.K⟩
  have RF := G00.X.2
  have hT' := hT
  refine ⟨s₀, hf, hg0, s, hT, fun n hn => ?_, RF.1, RF.2.1, ?_⟩
  · obtain rfl : n = r.name := by split at hn <;> simp_all
    exact pinned_of_view hg G0 hdef hp hk
  have hgens : s.gens = #[] := Array.eq_empty_of_size_eq_zero (beq_iff_eq.mp hgens)
  have G : Ground q loose r.records XP w s _ _ s.heap := RF.ground G0
  refine callFromG (c := r.toRowW.claim) (tree := fun vs => do match ← nsGet mainNs r.name with
      | some f => do ret (← PySem.call f vs)
      | none => unsupported "claim.caller:no-such-global") hz hgens fun args hpre hlay ord hord => ?_
  obtain ⟨⟨vs, s₁⟩, hlaid⟩ := Option.isSome_iff_exists.mp (layAllW_isSome (P := w.params) (ord := ord) G.has args r.args s (pre_splitW hpre).1)
  have keeps := layAllW_keeps _ _ _ hlaid
  have hal := layAllW_rest _ _ _ hlaid
  obtain ⟨as, hrd, hin, hold⟩ := reads_layAllW hord _ _ _ hlaid hlay s₁.heap (fun _ _ e => e)
  have L : Laid r.records w s s₁ args vs as := ⟨⟨ord, hord, hlaid⟩, hrd, hin, hold, keeps, hal.1.trans hgens, hal.2.2.1⟩
  have G₁ := G.keeps hXk keeps
  obtain ⟨a, o, pm, cd, doc, dV, kV, h1, h2, h3, h4, h5⟩ := G₁.fn hdef
  have h := call w s s₁ _ _ G₁ (hYk _ _ _ (hY w s y) keeps) a o pm cd doc dV kV h2 h3 h4 h5 (defOf_name hdef ▸ h1) L.gens (Nat.lt_of_lt_of_le htk (layAllW_toks _ _ _ hlaid)) args vs as hpre hlay L.reads L.well (L.low G.low)
  have hi := ident_freeW hu ha hap
  have hwi : r.claim.within = [] := List.isEmpty_iff.mp k6
  refine ⟨vs, s₁, hlaid, ?_⟩
  rw [Sem.wp_bind']
  have hns : s₁.heap.Ns mainNs (s.heap.nsMap mainGlobals) := G₁.T.g
  refine (Sem.wp_nsGet _ _ _ _ _ hns _ _).mpr ?_
  rw [h1]
  show Sem.wp _ _ (PySem.call (.ref a) vs >>= fun v => ret v) _ _ _ _
  rw [Sem.wp_bind']
  refine Sem.wp_mono _ _ _ (fun v p' s' g => ?_) (fun _ _ _ x => x) _ _ h
  have z := g.laid (c := r.claim) hsame hwi hi L
  exact ⟨_, rfl, z.1, z.2.1, z.2.2, fun q => ⟨namesKept_of hT' hg _ keeps g.2.1.old, noTable hwr q⟩⟩
end Mine

end
section
open PySem PySem.W PySem.Calls PyProof.Rows
set_option Elab.async false
set_option maxRecDepth 100000
namespace Mine

noncomputable def notCI : Code → Bool
  | .builtin id _ => !(id == "callable_iterator.__next__")
  | _ => true
noncomputable def CleanB (Γ : Ctx) : Prop := ∀ x ∈ Γ.below, notCI x.1 = true
noncomputable def Clean (Γ : Ctx) : Prop := notCI Γ.code = true ∧ CleanB Γ

theorem clean_enter {Γ : Ctx} (h : Clean Γ) (c : Code) (hd : Option Value) (p : Pos) : CleanB (Γ.enter c hd p) := by
  intro x hx
  rcases List.mem_cons.mp hx with rfl | hx
  · exact h.1
  · exact h.2 x hx
theorem clean_caller : Clean callerG := ⟨rfl, fun _ hx => nomatch hx⟩

/-! the count of tokens only grows -/
theorem runs_toks {M : Model} {Γ : Ctx} {p : Pos} {t : Sem Fin} {fs : List Frame} {s s' : Shared} {e : End} (h : Runs M Γ p t fs s e s') : s.toks ≤ s'.toks := by
  induction h <;> (try simp only [Shared.setGen] at *) <;> omega
theorem wakes_toks {M : Model} {Γ : Ctx} {p : Pos} {g : Nat} {r : Resume} {s s' : Shared} {res : GenResult} (h : Wakes M Γ p g r s res s') : s.toks ≤ s'.toks := by
  unfold Wakes at h
  split at h
  · exact h.elim
  · split at h
    · obtain ⟨e₁, s₁, hr, _, _, rfl⟩ := h; exact (runs_toks hr : (s.setGen g .running).toks ≤ s₁.toks)
    · rw [h.2]; exact Nat.le_refl _
    · rw [h.2]; exact Nat.le_refl _
  · obtain ⟨e₁, s₁, hr, _, _, rfl⟩ := h; exact (runs_toks hr : (s.setGen g .running).toks ≤ s₁.toks)
  · rw [h.2]; exact Nat.le_refl _
  · rw [h.2]; exact Nat.le_refl _
theorem wp_toks {α : Type} (M : Model) (Γ : Ctx) (n : Nat) (t : Sem α) : ∀ (Q : α → Pos → Shared → Prop) (E : Value → Pos → Shared → Prop) (p : Pos) (s : Shared), n ≤ s.toks → Sem.wp M Γ t Q E p s →
    Sem.wp M Γ t (fun a p' s' => n ≤ s'.toks ∧ Q a p' s') E p s := by
  induction t with
  | pure a => intro Q E p s hn h; exact ⟨hn, h⟩
  | raise e => intro Q E p s hn h; exact h
  | unsupported _ => intro Q E p s _ h; exact h
  | finish _ => intro Q E p s _ h; exact h
  | rule _ k ih => intro Q E p s hn h; exact ih () Q E p s hn h
  | «at» p' k ih => intro Q E p s hn h; exact ih () Q E p' s hn h
  | load a _ k ih => intro Q E p s hn h; obtain ⟨o, ho, h⟩ := h; exact ⟨o, ho, ih o Q E p s hn h⟩
  | update a _ f k ih => intro Q E p s hn h; exact ⟨h.1, ih () Q E p _ hn h.2⟩
  | loadIfAlive a k ih => intro Q E p s hn h; exact ih _ Q E p s hn h
  | point _ k ih => intro Q E p s hn h; exact ih () Q E p s hn h
  | register _ _ => intro Q E p s _ h; exact h
  | alloc o k ih => intro Q E p s hn h; exact ih _ Q E p _ hn h
  | fresh k ih => intro Q E p s hn h; exact ih _ Q E p { s with toks := s.toks + 1 } (Nat.le_succ_of_le hn) h
  | ask k ih => intro Q E p s hn h; exact ih _ Q E p s hn h
  | choose src m k ih => intro Q E p s hn h; exact ⟨h.1, ih _ Q E p _ hn h.2⟩
  | os q _ k ih => intro Q E p s hn h; exact ih _ Q E p _ hn h
  | call c hd _ _ k ih => intro Q E p s hn h; obtain ⟨r, s', hr, h⟩ := h; exact ⟨r, s', hr, ih r Q E p s' (Nat.le_trans hn (runs_toks hr)) h⟩
  | handled own k ih => intro Q E p s hn h; exact ih _ Q E p s hn h
  | genState g k ih => intro Q E p s hn h; obtain ⟨st, hs, h⟩ := h; exact ⟨st, hs, ih _ Q E p s hn h⟩
  | newGen c k ih => intro Q E p s hn h; exact ih _ Q E p _ hn h
  | resume g r _ k ih => intro Q E p s hn h; obtain ⟨res, s', hw, h⟩ := h; exact ⟨res, s', hw, ih res Q E p s' (Nat.le_trans hn (wakes_toks hw)) h⟩
  | yield _ _ _ _ => intro Q E p s _ h; exact h
  | stack k ih => intro Q E p s hn h; exact ih _ Q E p s hn h
  | fork _ _ => intro Q E p s _ h; exact h
  | thread k ih => intro Q E p s hn h; exact ih _ Q E p s hn h
  | await _ _ _ _ _ => intro Q E p s _ h; exact h

/-- from s the tree comes to its end without an exception, in every context that runs no callable iterator's step -/
noncomputable def W {α : Type} (prog : Program) (w : World) (A : Around) (t : Sem α) (Q : α → Shared → Prop) (s : Shared) : Prop :=
  0 < s.toks → ∀ Γ p, Γ.In A → Clean Γ → Sem.wp (Mg prog w) Γ t (fun a _ s' => Q a s') (fun _ _ _ => False) p s
noncomputable def C (prog : Program) (w : World) (A : Around) (c : Code) (R : Flow → Shared → Prop) (s : Shared) : Prop :=
  0 < s.toks → ∀ Γ p, Γ.code = c → Γ.Below A → CleanB Γ → wpCode (Mg prog w) Γ (fun r s' => match r with | .ok f => R f s' | .error _ => False) p s

section
variable {α β : Type} {prog : Program} {w : World} {A : Around} {s : Shared}

theorem W.of_any {t : Sem α} {Q : α → Shared → Prop} (h : wpAny (model prog w) A t Q (fun _ _ => False) s) : W prog w A t Q s :=
  fun _ Γ p hΓ _ => any_mono_model h Γ p hΓ
theorem W.mono {t : Sem α} {Q Q' : α → Shared → Prop} (h : W prog w A t Q s) (hQ : ∀ a s', Q a s' → Q' a s') : W prog w A t Q' s :=
  fun ht Γ p hΓ hc => Sem.wp_mono _ Γ t (fun a _ s => hQ a s) (fun _ _ _ x => x) p s (h ht Γ p hΓ hc)
theorem W.pure {a : α} {Q : α → Shared → Prop} (h : Q a s) : W prog w A (Pure.pure a) Q s := fun _ _ _ _ _ => h
theorem W.bind {m : Sem α} {f : α → Sem β} {Q : β → Shared → Prop} (h : W prog w A m (fun a s' => W prog w A (f a) Q s') s) : W prog w A (m >>= f) Q s := fun ht Γ p hΓ hc => by
  rw [Sem.wp_bind']
  exact Sem.wp_mono _ Γ m (fun a p' s' h' => h'.2 h'.1 Γ p' hΓ hc) (fun _ _ _ h' => h') p s (wp_toks _ Γ 1 m _ _ p s ht (h ht Γ p hΓ hc))
theorem W.map {m : Sem α} {f : α → β} {Q : β → Shared → Prop} (h : W prog w A m (fun a s' => Q (f a) s') s) : W prog w A (f <$> m) Q s := fun ht Γ p hΓ hc => by
  rw [Sem.wp_map]; exact h ht Γ p hΓ hc
theorem W.holding {vs : List Value} {m : Sem α} {Q : α → Shared → Prop} (h : W prog w A m Q s) : W prog w A (PySem.holding vs m) Q s :=
  fun ht Γ p hΓ hc => by rw [Sem.wp_holding]; exact h ht Γ p hΓ hc
theorem W.keep {vs : List Value} {m : Sem α} {Q : α → Shared → Prop} (h : W prog w A m Q s) : W prog w A (m.keep vs) Q s :=
  fun ht Γ p hΓ hc => by rw [Sem.wp_keep]; exact h ht Γ p hΓ hc
theorem W.standAt {pos : Pos} {Q : Unit → Shared → Prop} (h : Q () s) : W prog w A (PySem.standAt pos) Q s := fun _ _ _ _ _ => h
theorem W.rule {tag : String} {Q : Unit → Shared → Prop} (h : Q () s) : W prog w A (PySem.rule tag) Q s := fun _ _ _ _ _ => h
theorem W.point {Q : Unit → Shared → Prop} (h : Q () s) : W prog w A PySem.point Q s := fun _ _ _ _ _ => h
theorem W.onRaise {m : Sem α} {k : Value → Sem Unit} {Q : α → Shared → Prop} (h : W prog w A m Q s) : W prog w A (m.onRaise k) Q s := fun ht Γ p hΓ hc => by
  rw [Sem.wp_onRaise]
  exact Sem.wp_mono _ Γ m (fun _ _ _ h' => h') (fun _ _ _ h' => h'.elim) p s (h ht Γ p hΓ hc)
theorem W.attempt {m : Sem α} {Q : Except Value α → Shared → Prop} (h : W prog w A m (fun a => Q (.ok a)) s) : W prog w A m.attempt Q s := fun ht Γ p hΓ hc => by
  rw [Sem.wp_attempt]
  exact Sem.wp_mono _ Γ m (fun _ _ _ h' => h') (fun _ _ _ h' => h'.elim) p s (h ht Γ p hΓ hc)
theorem W.operate {vs : List Value} {m : Sem Value} {Q : Value → Shared → Prop} (h : W prog w A m Q s) : W prog w A (PySem.operate vs m) Q s := fun ht Γ p hΓ hc => by
  rw [Sem.wp_operate]; exact h ht Γ p hΓ hc
theorem W.release {vs k : List Value} {Q : Unit → Shared → Prop} (h : Q () s) : W prog w A (PySem.release vs k) Q s := fun _ Γ p _ _ => by
  rw [Sem.wp_release]; exact h
theorem W.of_eq {t t' : Sem α} {Q : α → Shared → Prop} (e : t = t') (h : W prog w A t' Q s) : W prog w A t Q s := e ▸ h
theorem W.pureQ {a : α} {Q : α → Shared → Prop} (h : Q a s) : W prog w A (Sem.pure a) Q s := fun _ _ _ _ _ => h

theorem C.mono {c : Code} {R R' : Flow → Shared → Prop} (h : C prog w A c R s) (hR : ∀ f s', R f s' → R' f s') : C prog w A c R' s :=
  fun ht Γ p hc hΓ hb => wpCode_mono (fun r s' h' => by cases r with | ok f => exact hR f s' h' | error e => exact h') (h ht Γ p hc hΓ hb)
theorem C.of_any {c : Code} {R : Flow → Shared → Prop} (h : codeAny (model prog w) A c (fun r s' => match r with | .ok f => R f s' | .error _ => False) s) : C prog w A c R s :=
  fun _ Γ p hc hΓ _ => wpCode_mono_model (fun _ _ x => x) (h Γ p hc hΓ)
theorem W.run {c : Code} {Q : Flow → Shared → Prop} (hc : C prog w A c Q s) : W prog w A (PySem.run c) Q s := fun ht Γ p hΓ hcl => by
  rw [Sem.wp_run]
  refine wpCode_mono (fun r s' h' => ?_) (hc ht _ p rfl (by have := hΓ.enter c none p (by intro x; cases x); exact this) (clean_enter hcl c none p))
  cases r with
  | ok f => exact h'
  | error e => exact h'
theorem W.runValue {c : Code} {Q : Value → Shared → Prop} (hc : C prog w A c (fun f s' => ∃ v, f = .ret v ∧ Q v s') s) : W prog w A (PySem.runValue c) Q s := by
  unfold PySem.runValue
  refine W.bind (W.mono (W.run hc) fun f s' h' => ?_)
  obtain ⟨v, rfl, hv⟩ := h'
  exact W.pure hv
theorem W.call {f : Value} {pos : List Value} {kw : List (Str × Value)} {Q : Value → Shared → Prop} (hc : C prog w A (.call f ⟨pos, kw⟩) (fun f s' => ∃ v, f = .ret v ∧ Q v s') s) :
    W prog w A (PySem.call f pos kw) Q s := W.runValue hc
theorem W.runOwn {c : Code} {env : Env} {Q : Flow → Shared → Prop} (hc : C prog w A c Q s) : W prog w A (PySem.runOwn c env) Q s := by
  unfold PySem.runOwn
  exact W.onRaise (W.run hc)

theorem C.of_tree {c : Code} {R : Flow → Shared → Prop} (hci : notCI c = true) (hask : isAsk c = false)
    (h : W prog w (A.under c) (denote table c) (fun fin s' => match fin with | .done f => R f s' | .again c' => c'.quiet = true ∧ C prog w A c' R s') s) : C prog w A c R s := fun ht Γ p hc hΓ hb => by
  rw [wpCode_iff_wp, hc]
  show Sem.wp (Mg prog w) Γ (denG c) _ _ p s
  rw [denG_of_not hask]
  refine Sem.wp_mono _ Γ _ (fun fin p' s' h' => ?_) (fun _ _ _ h' => h'.elim) p s (wp_toks _ Γ 1 _ _ _ p s ht (h ht Γ p (hc ▸ hΓ.in) ⟨by rw [hc]; exact hci, hb⟩))
  obtain ⟨ht', h'⟩ := h'
  cases fin with
  | done f => exact h'
  | again c' => exact ⟨h'.1, h'.2 ht' (Γ.goto c') p' rfl (hΓ.goto c') hb⟩

theorem C.loop {c : Code} {R : Flow → Shared → Prop} (hci : notCI c = true) (hask : isAsk c = false) (hq : c.quiet = true) (I : Nat → Shared → Prop)
    (turn : ∀ n s, I n s → W prog w (A.under c) (denote table c)
      (fun fin s' => match fin with | .done f => R f s' | .again c' => (c' = c ∧ ∃ m, m < n ∧ I m s') ∨ (c'.quiet = true ∧ C prog w A c' R s')) s)
    (n : Nat) (h : I n s) : C prog w A c R s := by
  induction n using Nat.strongRecOn generalizing s with
  | ind n ih =>
    refine C.of_tree hci hask (W.mono (turn n s h) (fun fin s' hf => ?_))
    cases fin with
    | done f => exact hf
    | again c' =>
      rcases hf with ⟨rfl, m, hm, hI⟩ | hf
      · exact ⟨hq, ih m hm hI⟩
      · exact hf

/-! the codes of the text -/
theorem C.block {stmts : List Stmt} {env : Env} {R : Flow → Shared → Prop} (h : W prog w A (execs stmts env) R s) : C prog w A (.block stmts env) R s := by
  refine C.of_tree rfl rfl ?_
  show W _ _ A (do return Fin.done (← (execs stmts env).onRaise (fun x => do noteFrame x env; theTreesLotGoes x))) _ s
  exact W.bind (W.mono (W.onRaise h) fun f s' h' => W.pure h')

theorem C.func {body : List Stmt} {env : Env} {R : Flow → Shared → Prop} (h : W prog w (A.deeper env) (execs body env) (fun f s' => R (.ret (match f with | .ret v => v | _ => .none)) s') s) : C prog w A (.func body env) R s := by
  refine C.of_tree rfl rfl ?_
  show W _ _ (A.deeper env) (do point; match ← (execs body env).onRaise (leaving env) with | .ret v => ret v | _ => ret .none) _ s
  refine W.bind (W.point (W.bind (W.mono (W.onRaise h) fun f s' h' => ?_)))
  cases f <;> exact W.pure h'

theorem C.forLoop {target : PySem.Expr} {it : Value} {body : List Stmt} {env : Env} {R : Flow → Shared → Prop} (I : Nat → Shared → Prop)
    (turn : ∀ n s, I n s → W prog w A (pyNext it) (fun r s₁ => match r with
        | none => R .next s₁
        | some v => W prog w A (letOwnedTupleGo target it v) (fun _ s₂ => W prog w A (assign target env v) (fun _ s₃ => W prog w A (execs body env) (fun f s₄ => match f with
            | .next | .cont => ∃ m, m < n ∧ I m s₄
            | .brk => R .next s₄
            | .ret v => R (.ret v) s₄) s₃) s₂) s₁) s)
    (n : Nat) (h : I n s) : C prog w A (.forLoop target it body [] env) R s := by
  refine C.loop rfl rfl rfl I (fun n s hI => ?_) n h
  show W _ _ A ((forTurn target it body [] env).onRaise (fun x => do noteFrame x env; theTreesLotGoes x)) _ s
  refine W.onRaise ?_
  simp only [forTurn]
  refine W.bind (W.standAt (W.bind (W.onRaise (W.mono (turn n s hI) fun r s₁ h₁ => ?_))))
  cases r with
  | none => exact W.pure (Or.inr ⟨rfl, C.block (W.pure h₁)⟩)
  | some v =>
    refine W.bind (W.mono h₁ fun _ s₂ h₂ => W.bind (W.mono h₂ fun _ s₃ h₃ => W.bind (W.mono h₃ fun f s₄ h₄ => ?_)))
    cases f with
    | next => exact W.pure (Or.inl ⟨rfl, h₄⟩)
    | cont => exact W.pure (Or.inl ⟨rfl, h₄⟩)
    | brk => exact W.pure h₄
    | ret v => exact W.pure h₄
end
end Mine

end
section
open PySem PySem.W PySem.Calls PyProof.Rows
set_option Elab.async false
set_option maxRecDepth 100000
namespace Mine

/-- plain data -/
inductive D where
  | none
  | bool (b : Bool)
  | int (i : Int)
  | str (l : List Nat)
  | list (xs : List D)
  | tup (xs : List D)
  | mat (t : List Nat) (b e g : Nat)
  | inst (q : List Nat)

abbrev Avd := Addr → Prop

structure Cx where
  prog : Program
  w : World
  h₁ : Heap
  mg : Str → Option Value
  mb : Str → Option Value
  hg : h₁.Ns mainGlobals mg
  hb : h₁.Ns builtinsNs mb
  lim : h₁.NoLimit
  pat : Addr
  inst : Heap → Avd → List Nat → Value → Prop
  instMono : ∀ {h h' : Heap} {Av Av' : Avd} {q : List Nat} {v : Value}, (∀ a o, ¬ Av a → h.get? a = some o → h'.get? a = some o) → (∀ a, Av' a → Av a ∨ h.get? a = Option.none) → inst h Av q v → inst h' Av' q v

noncomputable def matSpans (b e g : Nat) : List Value :=
  [rawInt b, rawInt e] ++ (List.range 3).flatMap fun k => if k + 1 = g then [rawInt b, rawInt e] else [rawInt (-1), rawInt (-1)]

structure MatAt (cx : Cx) (h : Heap) (Av : Avd) (t : List Nat) (b e g : Nat) (v : Value) (a sp : Addr) : Prop where
  val : v = .ref a
  obj : ∃ tk : Tok, h.get? a = some { cls := .type "re.Match", data := .fields #[.str ⟨t.toArray⟩ tk, .ref cx.pat, rawInt 0, rawInt t.length, rawInt g, .ref sp] }
  spans : ∃ n, h.get? sp = some { cls := .type "tuple", data := .seq (matSpans b e g).toArray n }
  ok : (∀ c ∈ t, c < 0x110000) ∧ t.length ≤ sizeLine ∧ b ≤ e ∧ e ≤ t.length ∧ 1 ≤ g ∧ g ≤ 3
  av : ¬ Av a ∧ ¬ Av sp

mutual
/-- the value v reads as the datum in the heap, and no object on the way is one of Av -/
noncomputable def Rd (cx : Cx) (h : Heap) (Av : Avd) : D → Value → Prop
  | .none, v => v = .none
  | .bool b, v => v = .bool b
  | .int i, v => ∃ t, v = .int i t
  | .str l, v => ∃ t, v = .str ⟨l.toArray⟩ t ∧ (∀ c ∈ l, c < 0x110000) ∧ l.length ≤ sizeLine
  | .list ds, v => ∃ a vs n, v = .ref a ∧ h.get? a = some { cls := .type "list", data := .seq vs n } ∧ ¬ Av a ∧ vs.size ≤ sizeLine ∧ RdAll cx h Av ds vs.toList
  | .tup ds, v => ∃ a vs n, v = .ref a ∧ h.get? a = some { cls := .type "tuple", data := .seq vs n } ∧ ¬ Av a ∧ vs.size ≤ sizeLine ∧ RdAll cx h Av ds vs.toList
  | .mat t b e g, v => ∃ a sp, MatAt cx h Av t b e g v a sp
  | .inst q, v => cx.inst h Av q v
noncomputable def RdAll (cx : Cx) (h : Heap) (Av : Avd) : List D → List Value → Prop
  | [], vs => vs = []
  | d :: ds, vs => ∃ v r, vs = v :: r ∧ Rd cx h Av d v ∧ RdAll cx h Av ds r
end

section
variable {cx : Cx} {h h' : Heap} {Av Av' : Avd}
theorem not_av {a : Addr} {o : Obj} (ha : ∀ a, Av' a → Av a ∨ h.get? a = Option.none) (hv : ¬ Av a) (ho : h.get? a = some o) : ¬ Av' a := fun x =>
  (ha a x).elim hv fun y => by rw [y] at ho; cases ho
mutual
theorem Rd.mono (hk : ∀ a o, ¬ Av a → h.get? a = some o → h'.get? a = some o) (ha : ∀ a, Av' a → Av a ∨ h.get? a = Option.none) : ∀ {d : D} {v : Value}, Rd cx h Av d v → Rd cx h' Av' d v
  | .none, _, r => by rw [Rd] at r ⊢; exact r
  | .bool _, _, r => by rw [Rd] at r ⊢; exact r
  | .int _, _, r => by rw [Rd] at r ⊢; exact r
  | .str _, _, r => by rw [Rd] at r ⊢; exact r
  | .list ds, v, r => by
    rw [Rd] at r ⊢
    obtain ⟨a, vs, n, e, ho, hv, hz, hr⟩ := r
    exact ⟨a, vs, n, e, hk a _ hv ho, not_av ha hv ho, hz, RdAll.mono hk ha hr⟩
  | .tup ds, v, r => by
    rw [Rd] at r ⊢
    obtain ⟨a, vs, n, e, ho, hv, hz, hr⟩ := r
    exact ⟨a, vs, n, e, hk a _ hv ho, not_av ha hv ho, hz, RdAll.mono hk ha hr⟩
  | .mat t b e g, v, r => by
    rw [Rd] at r ⊢
    obtain ⟨a, sp, r⟩ := r
    obtain ⟨tk, ho⟩ := r.obj
    obtain ⟨n, hs⟩ := r.spans
    exact ⟨a, sp, r.val, ⟨tk, hk _ _ r.av.1 ho⟩, ⟨n, hk _ _ r.av.2 hs⟩, r.ok, ⟨not_av ha r.av.1 ho, not_av ha r.av.2 hs⟩⟩
  | .inst q, v, r => by rw [Rd] at r ⊢; exact cx.instMono hk ha r
theorem RdAll.mono (hk : ∀ a o, ¬ Av a → h.get? a = some o → h'.get? a = some o) (ha : ∀ a, Av' a → Av a ∨ h.get? a = Option.none) : ∀ {ds : List D} {vs : List Value}, RdAll cx h Av ds vs → RdAll cx h' Av' ds vs
  | [], _, r => by rw [RdAll] at r ⊢; exact r
  | d :: ds, _, r => by
    rw [RdAll] at r ⊢
    obtain ⟨v, l, e, r1, r2⟩ := r
    exact ⟨v, l, e, Rd.mono hk ha r1, RdAll.mono hk ha r2⟩
end
theorem Rd.keep {d : D} {v : Value} (r : Rd cx h Av d v) (hk : ∀ a o, h.get? a = some o → h'.get? a = some o) : Rd cx h' Av d v := r.mono (fun a o _ e => hk a o e) fun _ x => .inl x
theorem RdAll.keep {d : List D} {v : List Value} (r : RdAll cx h Av d v) (hk : ∀ a o, h.get? a = some o → h'.get? a = some o) : RdAll cx h' Av d v := r.mono (fun a o _ e => hk a o e) fun _ x => .inl x
theorem Rd.weak {d : D} {v : Value} (r : Rd cx h Av d v) (ha : ∀ a, Av' a → Av a) : Rd cx h Av' d v := r.mono (fun _ _ _ e => e) fun a x => .inl (ha a x)
theorem RdAll.weak {d : List D} {v : List Value} (r : RdAll cx h Av d v) (ha : ∀ a, Av' a → Av a) : RdAll cx h Av' d v := r.mono (fun _ _ _ e => e) fun a x => .inl (ha a x)

theorem RdAll.length : ∀ {ds : List D} {vs : List Value}, RdAll cx h Av ds vs → vs.length = ds.length
  | [], _, r => by rw [RdAll] at r; subst r; rfl
  | d :: ds, _, r => by
    rw [RdAll] at r
    obtain ⟨v, l, rfl, r1, r2⟩ := r
    simp [RdAll.length r2]
theorem RdAll.cons {d : D} {ds : List D} {v : Value} {vs : List Value} (h1 : Rd cx h Av d v) (h2 : RdAll cx h Av ds vs) : RdAll cx h Av (d :: ds) (v :: vs) := by rw [RdAll]; exact ⟨v, vs, rfl, h1, h2⟩
theorem RdAll.nil : RdAll cx h Av [] [] := by rw [RdAll]
theorem RdAll.append : ∀ {ds es : List D} {vs us : List Value}, RdAll cx h Av ds vs → RdAll cx h Av es us → RdAll cx h Av (ds ++ es) (vs ++ us)
  | [], _, _, _, r, q => by rw [RdAll] at r; subst r; exact q
  | d :: ds, es, _, us, r, q => by
    rw [RdAll] at r
    obtain ⟨v, l, rfl, r1, r2⟩ := r
    exact RdAll.cons r1 (RdAll.append r2 q)
theorem RdAll.get : ∀ {ds : List D} {vs : List Value}, RdAll cx h Av ds vs → ∀ {i : Nat} {d : D}, ds[i]? = some d → ∃ v, vs[i]? = some v ∧ Rd cx h Av d v
  | [], _, _, _, _, e => by simp at e
  | d :: ds, _, r, i, d', e => by
    rw [RdAll] at r
    obtain ⟨v, l, rfl, r1, r2⟩ := r
    cases i with
    | zero => simp at e; subst e; exact ⟨v, rfl, r1⟩
    | succ i => simp at e; exact RdAll.get r2 e
theorem RdAll.of_get : ∀ {ds : List D} {vs : List Value}, vs.length = ds.length → (∀ (i : Nat) (d : D) (v : Value), ds[i]? = some d → vs[i]? = some v → Rd cx h Av d v) → RdAll cx h Av ds vs
  | [], vs, hl, _ => by
    cases vs with
    | nil => exact RdAll.nil
    | cons _ _ => simp at hl
  | d :: ds, vs, hl, hg => by
    cases vs with
    | nil => simp at hl
    | cons v vs => exact RdAll.cons (hg 0 d v rfl rfl) (RdAll.of_get (by simpa using hl) fun i d' v' e1 e2 => hg (i + 1) d' v' (by simpa using e1) (by simpa using e2))
theorem RdAll.take {ds : List D} {vs : List Value} (r : RdAll cx h Av ds vs) (n : Nat) : RdAll cx h Av (ds.take n) (vs.take n) := by
  refine RdAll.of_get (by simp [r.length]) fun i d v e1 e2 => ?_
  rw [List.getElem?_take] at e1 e2
  split at e1
  · rename_i hlt
    rw [if_pos hlt] at e2
    obtain ⟨v', e, q⟩ := r.get e1
    rw [e] at e2; cases e2; exact q
  · cases e1
theorem RdAll.drop {ds : List D} {vs : List Value} (r : RdAll cx h Av ds vs) (n : Nat) : RdAll cx h Av (ds.drop n) (vs.drop n) := by
  refine RdAll.of_get (by simp [r.length]) fun i d v e1 e2 => ?_
  rw [List.getElem?_drop] at e1 e2
  obtain ⟨v', e, q⟩ := r.get e1
  rw [e] at e2; cases e2; exact q
theorem RdAll.set {ds : List D} {vs : List Value} (r : RdAll cx h Av ds vs) (n : Nat) {d : D} {v : Value} (q : Rd cx h Av d v) : RdAll cx h Av (ds.set n d) (vs.set n v) := by
  refine RdAll.of_get (by simp [r.length]) fun i d' v' e1 e2 => ?_
  by_cases hn : n = i
  · subst hn
    rw [List.getElem?_set_self'] at e1 e2
    cases h1 : ds[n]? with
    | none => rw [h1] at e1; cases e1
    | some x =>
      obtain ⟨y, e, _⟩ := r.get h1
      rw [h1] at e1; rw [e] at e2
      cases e1; cases e2; exact q
  · rw [List.getElem?_set_ne hn] at e1 e2
    obtain ⟨v'', e, q'⟩ := r.get e1
    rw [e] at e2; cases e2; exact q'
theorem RdAll.reverse {ds : List D} {vs : List Value} (r : RdAll cx h Av ds vs) : RdAll cx h Av ds.reverse vs.reverse := by
  refine RdAll.of_get (by simp [r.length]) fun i d v e1 e2 => ?_
  have hi : i < ds.length := by
    rcases Nat.lt_or_ge i ds.length with hlt | hge
    · exact hlt
    · rw [List.getElem?_eq_none (by simpa using hge)] at e1; cases e1
  rw [List.getElem?_reverse (by simpa using hi)] at e1
  rw [List.getElem?_reverse (by rw [r.length]; exact hi), r.length] at e2
  obtain ⟨v', e, q⟩ := r.get e1
  rw [e] at e2; cases e2; exact q
end
end Mine

end
section
open PySem PySem.W PySem.Calls PyProof.Rows
set_option Elab.async false
set_option maxRecDepth 100000
namespace Mine

inductive Slot where
  | unb
  | val (d : D)
  | own (xs : List D)

/-- nothing that stood is changed -/
structure Ext (s s' : Shared) : Prop where
  gens : s'.gens = s.gens
  os : s'.os = s.os
  size : s.heap.objs.size ≤ s'.heap.objs.size
  keep : ∀ a o, s.heap.get? a = some o → s'.heap.get? a = some o
theorem Ext.refl (s : Shared) : Ext s s := ⟨rfl, rfl, Nat.le_refl _, fun _ _ e => e⟩
theorem Ext.trans {a b c : Shared} (x : Ext a b) (y : Ext b c) : Ext a c := ⟨y.gens.trans x.gens, y.os.trans x.os, Nat.le_trans x.size y.size, fun p o e => y.keep p o (x.keep p o e)⟩
theorem Ext.toks {s : Shared} (t : Nat) : Ext s { s with toks := t } := ⟨rfl, rfl, Nat.le_refl _, fun _ _ e => e⟩
theorem Ext.push {s : Shared} (o : Obj) (t : Nat) : Ext s { s with heap := s.heap.push o, toks := t } :=
  ⟨rfl, rfl, by show _ ≤ (s.heap.push o).objs.size; rw [Heap.size_push]; exact Nat.le_succ _, fun _ _ e => Heap.get?_push_of_some _ e⟩

noncomputable def muts (env : Env) (O : Nat → Option Addr) : Avd := fun a => (∃ j, O j = some a) ∨ a = env.locals ∨ ∃ x, env.cells.lookup x = some a
noncomputable def Av (env : Env) (P : Avd) (O : Nat → Option Addr) : Avd := fun a => P a ∨ muts env O a

/-- of what stood only the frame's own names and lists are changed -/
structure Tr (env : Env) (O : Nat → Option Addr) (s : Shared) (O' : Nat → Option Addr) (s' : Shared) : Prop where
  gens : s'.gens = s.gens
  os : s'.os = s.os
  size : s.heap.objs.size ≤ s'.heap.objs.size
  keep : ∀ a o, ¬ muts env O a → s.heap.get? a = some o → s'.heap.get? a = some o
  own : ∀ j a, O' j = some a → (∃ i, O i = some a) ∨ s.heap.objs.size ≤ a

theorem get_none {h : Heap} {a : Addr} (ha : h.objs.size ≤ a) : h.get? a = none := by
  cases e : h.get? a with
  | none => rfl
  | some o => exact absurd (Heap.lt_size e) (Nat.not_lt.mpr ha)

theorem Tr.refl (env : Env) (O : Nat → Option Addr) (s : Shared) : Tr env O s O s := ⟨rfl, rfl, Nat.le_refl _, fun _ _ _ e => e, fun j _ e => .inl ⟨j, e⟩⟩
theorem Tr.trans {env : Env} {O O' O'' : Nat → Option Addr} {s s' s'' : Shared} (x : Tr env O s O' s') (y : Tr env O' s' O'' s'') : Tr env O s O'' s'' where
  gens := y.gens.trans x.gens
  os := y.os.trans x.os
  size := Nat.le_trans x.size y.size
  keep := fun a o hn e => y.keep a o (fun m => by
    rcases m with ⟨j, hj⟩ | m
    · rcases x.own j a hj with ⟨i, hi⟩ | hge
      · exact hn (.inl ⟨i, hi⟩)
      · exact absurd (Heap.lt_size e) (Nat.not_lt.mpr hge)
    · exact hn (.inr m)) (x.keep a o hn e)
  own := fun j a hj => by
    rcases y.own j a hj with ⟨i, hi⟩ | hge
    · exact x.own i a hi
    · exact .inr (Nat.le_trans x.size hge)
theorem Ext.tr {env : Env} {O : Nat → Option Addr} {s s' : Shared} (x : Ext s s') : Tr env O s O s' := ⟨x.gens, x.os, x.size, fun a o _ e => x.keep a o e, fun j _ e => .inl ⟨j, e⟩⟩

noncomputable def SlotOk (cx : Cx) (h : Heap) (V : Avd) (O : Nat → Option Addr) (i : Nat) (v? : Option Value) : Slot → Prop
  | .unb => True
  | .val d => ∃ v, v? = some v ∧ Rd cx h V d v
  | .own xs => ∃ a vs n, O i = some a ∧ v? = some (.ref a) ∧ h.get? a = some { cls := .type "list", data := .seq vs n } ∧ vs.size ≤ sizeLine ∧ RdAll cx h V xs vs.toList

structure FrV (cx : Cx) (sc : Scope) (tab : List (Option Str)) (env : Env) (P : Avd) (O : Nat → Option Addr) (vm : Str → Option Value) (s : Shared) (ρ : List Slot) : Prop where
  scope : env.scope = sc
  kind : sc.kind = .function
  glob : env.globals = mainGlobals
  blt : env.builtins = builtinsNs
  base : ∀ a o, cx.h₁.get? a = some o → s.heap.get? a = some o
  ns : ∃ m, s.heap.Ns env.locals m ∧ ∀ x, sc.names.lookup x = some .local → m x = vm x
  cell : ∀ x c, env.cells.lookup x = some c → s.heap.IsCell c (vm x)
  apart : env.cells.Pairwise fun x y => x.2 ≠ y.2
  fresh : ∀ a, muts env O a → cx.h₁.objs.size ≤ a ∧ a < s.heap.objs.size
  nsCell : ∀ x, env.cells.lookup x ≠ some env.locals
  av : ∀ a, P a → a < s.heap.objs.size
  len : ρ.length = tab.length
  tabInj : ∀ (i j : Nat) (x : Str), tab[i]? = some (some x) → tab[j]? = some (some x) → i = j
  cellNL : ∀ x c, env.cells.lookup x = some c → sc.names.lookup x ≠ some .local
  known : ∀ (i : Nat) (x : Str), tab[i]? = some (some x) → sc.names.lookup x = some .local ∨ ((sc.names.lookup x = some .cell ∨ sc.names.lookup x = some .free) ∧ (env.cells.lookup x).isSome = true)
  slots : ∀ (i : Nat) (x : Str) (sl : Slot), tab[i]? = some (some x) → ρ[i]? = some sl → SlotOk cx s.heap (Av env P O) O i (vm x) sl
  ownInj : ∀ (i j : Nat) (a : Addr), O i = some a → O j = some a → i = j
  ownSlot : ∀ (i : Nat) (a : Addr), O i = some a → ∃ x xs, tab[i]? = some (some x) ∧ ρ[i]? = some (.own xs)
  ownApart : ∀ (j : Nat) (a : Addr), O j = some a → a ≠ env.locals ∧ ∀ x, env.cells.lookup x ≠ some a
  ownNP : ∀ (j : Nat) (a : Addr), O j = some a → ¬ P a

section
variable {cx : Cx} {sc : Scope} {tab : List (Option Str)} {env : Env} {P : Avd} {O : Nat → Option Addr} {vm : Str → Option Value} {s s' : Shared} {ρ : List Slot}

theorem FrV.avLt (F : FrV cx sc tab env P O vm s ρ) {a : Addr} (h : Av env P O a) : a < s.heap.objs.size := h.elim (F.av a) fun m => (F.fresh a m).2
theorem FrV.new (F : FrV cx sc tab env P O vm s ρ) {a : Addr} (h : s.heap.objs.size ≤ a) : ¬ Av env P O a := fun x => Nat.lt_irrefl _ (Nat.lt_of_lt_of_le (F.avLt x) h)

theorem SlotOk.keep {h h' : Heap} {V : Avd} {i : Nat} {v? : Option Value} {sl : Slot} (x : SlotOk cx h V O i v? sl) (hk : ∀ a o, h.get? a = some o → h'.get? a = some o) : SlotOk cx h' V O i v? sl := by
  cases sl with
  | unb => trivial
  | val d => obtain ⟨v, e, r⟩ := x; exact ⟨v, e, r.keep hk⟩
  | own xs => obtain ⟨a, vs, n, e1, e2, e3, e4, r⟩ := x; exact ⟨a, vs, n, e1, e2, hk _ _ e3, e4, r.keep hk⟩

theorem FrV.ext (F : FrV cx sc tab env P O vm s ρ) (x : Ext s s') : FrV cx sc tab env P O vm s' ρ where
  scope := F.scope
  kind := F.kind
  glob := F.glob
  blt := F.blt
  base := fun a o e => x.keep a o (F.base a o e)
  ns := let ⟨m, h1, h2⟩ := F.ns; ⟨m, h1.keeps x.keep, h2⟩
  cell := fun y c e => (F.cell y c e).keeps x.keep
  apart := F.apart
  fresh := fun a m => ⟨(F.fresh a m).1, Nat.lt_of_lt_of_le (F.fresh a m).2 x.size⟩
  nsCell := F.nsCell
  av := fun a h => Nat.lt_of_lt_of_le (F.av a h) x.size
  len := F.len
  tabInj := F.tabInj
  cellNL := F.cellNL
  known := F.known
  slots := fun i y sl h1 h2 => (F.slots i y sl h1 h2).keep x.keep
  ownInj := F.ownInj
  ownSlot := F.ownSlot
  ownApart := F.ownApart
  ownNP := F.ownNP

/-- a change of the avoided objects: fewer -/
theorem FrV.lessP {P' : Avd} (F : FrV cx sc tab env P O vm s ρ) (hP : ∀ a, P' a → P a) : FrV cx sc tab env P' O vm s ρ :=
  { F with
    av := fun a h => F.av a (hP a h)
    ownNP := fun j a e h => F.ownNP j a e (hP a h)
    slots := fun i y sl h1 h2 => by
      have hs := F.slots i y sl h1 h2
      have hA : ∀ a, Av env P' O a → Av env P O a := fun a h => h.imp (hP a) id
      cases sl with
      | unb => trivial
      | val d => obtain ⟨v, e, r⟩ := hs; exact ⟨v, e, r.weak hA⟩
      | own xs => obtain ⟨a, vs, n, e1, e2, e3, e4, r⟩ := hs; exact ⟨a, vs, n, e1, e2, e3, e4, r.weak hA⟩ }

theorem rd_moreP {V V' : Avd} {h : Heap} {N : Nat} (hV : ∀ a, V' a → V a ∨ N ≤ a) {h' : Heap} (hk : ∀ a o, h.get? a = some o → h'.get? a = some o) (hN : h.objs.size ≤ N) {d : D} {v : Value} (r : Rd cx h V d v) : Rd cx h' V' d v :=
  r.mono (fun a o _ e => hk a o e) fun a x => (hV a x).imp id fun y => get_none (Nat.le_trans hN y)
theorem rdAll_moreP {V V' : Avd} {h : Heap} {N : Nat} (hV : ∀ a, V' a → V a ∨ N ≤ a) {h' : Heap} (hk : ∀ a o, h.get? a = some o → h'.get? a = some o) (hN : h.objs.size ≤ N) {d : List D} {v : List Value} (r : RdAll cx h V d v) : RdAll cx h' V' d v :=
  r.mono (fun a o _ e => hk a o e) fun a x => (hV a x).imp id fun y => get_none (Nat.le_trans hN y)

/-- a change of the avoided objects: more, all of them new -/
theorem FrV.moreP {P' : Avd} (F : FrV cx sc tab env P O vm s ρ) (x : Ext s s') (hP : ∀ a, P' a → P a ∨ (s.heap.objs.size ≤ a ∧ a < s'.heap.objs.size)) : FrV cx sc tab env P' O vm s' ρ :=
  { F.ext x with
    av := fun a h => (hP a h).elim (fun y => Nat.lt_of_lt_of_le (F.av a y) x.size) fun y => y.2
    ownNP := fun j a e h => (hP a h).elim (F.ownNP j a e) fun y => Nat.lt_irrefl _ (Nat.lt_of_lt_of_le (F.fresh a (.inl ⟨j, e⟩)).2 y.1)
    slots := fun i y sl h1 h2 => by
      have hs := F.slots i y sl h1 h2
      have hA : ∀ a, Av env P' O a → Av env P O a ∨ s.heap.objs.size ≤ a := fun a h => h.elim (fun y => (hP a y).imp .inl And.left) fun y => .inl (.inr y)
      cases sl with
      | unb => trivial
      | val d => obtain ⟨v, e, r⟩ := hs; exact ⟨v, e, rd_moreP hA x.keep (Nat.le_refl _) r⟩
      | own xs => obtain ⟨a, vs, n, e1, e2, e3, e4, r⟩ := hs; exact ⟨a, vs, n, e1, e2, x.keep _ _ e3, e4, rdAll_moreP hA x.keep (Nat.le_refl _) r⟩ }

/-- a read of a datum goes on behind a statement -/
theorem FrV.rdTr {O' : Nat → Option Addr} (F : FrV cx sc tab env P O vm s ρ) (x : Tr env O s O' s') {d : D} {v : Value} (r : Rd cx s.heap (Av env P O) d v) : Rd cx s'.heap (Av env P O') d v := by
  refine r.mono (fun a o hn e => x.keep a o (fun m => hn (.inr m)) e) fun a h => ?_
  rcases h with h | ⟨j, hj⟩ | h
  · exact .inl (.inl h)
  · rcases x.own j a hj with ⟨i, hi⟩ | hge
    · exact .inl (.inr (.inl ⟨i, hi⟩))
    · exact .inr (get_none hge)
  · exact .inl (.inr (.inr h))
end

noncomputable def upd (vm : Str → Option Value) (x : Str) (v : Value) : Str → Option Value := fun y => if y = x then some v else vm y
noncomputable def off (O : Nat → Option Addr) (i : Nat) : Nat → Option Addr := fun j => if j = i then none else O j
noncomputable def onO (O : Nat → Option Addr) (i : Nat) (a : Addr) : Nat → Option Addr := fun j => if j = i then some a else O j
theorem off_some {O : Nat → Option Addr} {i j : Nat} {a : Addr} (h : off O i j = some a) : j ≠ i ∧ O j = some a := by
  unfold off at h
  split at h
  · cases h
  · exact ⟨by assumption, h⟩
theorem onO_some {O : Nat → Option Addr} {i j : Nat} {a b : Addr} (h : onO O i a j = some b) : (j = i ∧ b = a) ∨ (j ≠ i ∧ O j = some b) := by
  unfold onO at h
  split at h
  · cases h; exact .inl ⟨by assumption, rfl⟩
  · exact .inr ⟨by assumption, h⟩

section
variable {cx : Cx} {sc : Scope} {tab : List (Option Str)} {env : Env} {P : Avd} {O : Nat → Option Addr} {vm : Str → Option Value} {s : Shared} {ρ : List Slot} {prog : Program} {w : World} {A : Around}

theorem FrV.load (F : FrV cx sc tab env P O vm s ρ) {i : Nat} {x : Str} {v : Value} {Q : Value → Shared → Prop} (ht : tab[i]? = some (some x)) (hv : vm x = some v) (hQ : Q v s) (hcd : (x == ("__classdict__" : Str)) = false) : W prog w A (loadName env x) Q s := by
  have hk : env.scope.kind = .function := by rw [F.scope]; exact F.kind
  rcases F.known i x ht with hl | ⟨hl, hc⟩
  · obtain ⟨m, hn, hm⟩ := F.ns
    exact W.of_any (wpAny_loadName_local hk (by show env.scope.names.lookup x = _; rw [F.scope]; exact hl) hn ((hm x hl).trans hv) hQ)
  · obtain ⟨c, hc⟩ := Option.isSome_iff_exists.mp hc
    rcases hl with hl | hl
    · exact W.of_any (wpAny_loadName_cell hk (by show env.scope.names.lookup x = _; rw [F.scope]; exact hl) hc (hv ▸ F.cell x c hc) hQ)
    · exact W.of_any (wpAny_loadName_free hk (by show env.scope.names.lookup x = _; rw [F.scope]; exact hl) hc (hv ▸ F.cell x c hc) hQ hcd)

/-- the store of a name, told of the heap alone -/
theorem FrV.storeRaw (F : FrV cx sc tab env P O vm s ρ) {i : Nat} {x : Str} {v : Value} {Q : Unit → Shared → Prop} (ht : tab[i]? = some (some x))
    (hnf : sc.names.lookup x = some .free → False)
    (hQ : ∀ s' : Shared, s'.gens = s.gens → s'.os = s.os → s'.heap.objs.size = s.heap.objs.size → (∀ a o, a ≠ env.locals → (∀ y, env.cells.lookup y ≠ some a) → s.heap.get? a = some o → s'.heap.get? a = some o) →
      (∃ m, s'.heap.Ns env.locals m ∧ ∀ y, sc.names.lookup y = some .local → m y = upd vm x v y) → (∀ y c, env.cells.lookup y = some c → s'.heap.IsCell c (upd vm x v y)) → Q () s') : W prog w A (storeName env x v) Q s := by
  have hk : env.scope.kind = .function := by rw [F.scope]; exact F.kind
  obtain ⟨m, hn, hm⟩ := F.ns
  rcases F.known i x ht with hl | ⟨hl, hc⟩
  · refine W.of_any (wpAny_storeName_local (by show env.scope.names.lookup x = _; rw [F.scope]; exact hl) hn (fun h' hn' hs' => hQ _ rfl rfl hs'.1 (fun a o ha _ e => hs'.extBut a o ha e) ⟨_, hn', fun y hy => ?_⟩ fun y c hc => ?_) (by rw [hk]; rfl))
    · unfold upd
      split
      · rfl
      · exact hm y hy
    · have hne : y ≠ x := fun e => by
        subst e
        exact F.cellNL y c hc hl
      have : upd vm x v y = vm y := by unfold upd; rw [if_neg hne]
      rw [this]
      exact (F.cell y c hc).sameBut hs' fun e => F.nsCell y (e ▸ hc)
  · obtain ⟨c, hc⟩ := Option.isSome_iff_exists.mp hc
    rcases hl with hl | hl
    · refine W.of_any (wpAny_storeName_cell hk (by show env.scope.names.lookup x = _; rw [F.scope]; exact hl) hc (F.cell x c hc) fun h' hc' hs' => hQ _ rfl rfl hs'.1 (fun a o _ ha e => hs'.extBut a o (fun e' => ha x (e' ▸ hc)) e) ⟨m, hn.sameBut hs' fun e => F.nsCell x (e ▸ hc), fun y hy => ?_⟩ fun y c' hy => ?_)
      · have hne : y ≠ x := fun e => by subst e; rw [hl] at hy; cases hy
        rw [hm y hy]; unfold upd; rw [if_neg hne]
      · by_cases hyx : y = x
        · subst hyx
          rw [hc] at hy; cases hy
          unfold upd; rw [if_pos rfl]; exact hc'
        · unfold upd; rw [if_neg hyx]
          exact (F.cell y c' hy).sameBut hs' fun e => hyx (name_of_addr F.apart (mem_of_lookup hy) (e ▸ mem_of_lookup hc))
    · exact (hnf hl).elim

theorem FrV.low (F : FrV cx sc tab env P O vm s ρ) {a : Addr} (h : a < cx.h₁.objs.size) : a ≠ env.locals ∧ (∀ y, env.cells.lookup y ≠ some a) ∧ ∀ j, O j ≠ some a :=
  ⟨fun e => Nat.lt_irrefl _ (Nat.lt_of_lt_of_le h (F.fresh a (.inr (.inl e))).1), fun y e => Nat.lt_irrefl _ (Nat.lt_of_lt_of_le h (F.fresh a (.inr (.inr ⟨y, e⟩))).1),
    fun j e => Nat.lt_irrefl _ (Nat.lt_of_lt_of_le h (F.fresh a (.inl ⟨j, e⟩)).1)⟩

theorem FrV.put (F : FrV cx sc tab env P O vm s ρ) {i : Nat} {x : Str} {v : Value} {s' : Shared} {O' : Nat → Option Addr} {sl' : Slot} (ht : tab[i]? = some (some x))
    (hsz : s'.heap.objs.size = s.heap.objs.size) (hk : ∀ a o, a ≠ env.locals → (∀ y, env.cells.lookup y ≠ some a) → s.heap.get? a = some o → s'.heap.get? a = some o)
    (hns : ∃ m, s'.heap.Ns env.locals m ∧ ∀ y, sc.names.lookup y = some .local → m y = upd vm x v y) (hcell : ∀ y c, env.cells.lookup y = some c → s'.heap.IsCell c (upd vm x v y))
    (hO : ∀ j, j ≠ i → O' j = O j)
    (hOi : ∀ a, O' i = some a → (cx.h₁.objs.size ≤ a ∧ a < s.heap.objs.size) ∧ (a ≠ env.locals ∧ ∀ y, env.cells.lookup y ≠ some a) ∧ (∀ j, j ≠ i → O j ≠ some a) ∧ ¬ P a ∧ ∃ xs, sl' = .own xs)
    (hoth : ∀ (j : Nat) (y : Str) (sl : Slot), j ≠ i → tab[j]? = some (some y) → ρ[j]? = some sl → SlotOk cx s'.heap (Av env P O') O' j (vm y) sl)
    (hme : SlotOk cx s'.heap (Av env P O') O' i (some v) sl') : FrV cx sc tab env P O' (upd vm x v) s' (ρ.set i sl') where
  scope := F.scope
  kind := F.kind
  glob := F.glob
  blt := F.blt
  base := fun a o e => hk a o (F.low (Heap.lt_size e)).1 (F.low (Heap.lt_size e)).2.1 (F.base a o e)
  ns := hns
  cell := hcell
  apart := F.apart
  fresh := fun a m => by
    rw [hsz]
    rcases m with ⟨j, hj⟩ | m
    · by_cases hji : j = i
      · subst hji; exact (hOi a hj).1
      · exact F.fresh a (.inl ⟨j, (hO j hji) ▸ hj⟩)
    · exact F.fresh a (.inr m)
  nsCell := F.nsCell
  av := fun a h => by rw [hsz]; exact F.av a h
  len := by rw [List.length_set]; exact F.len
  tabInj := F.tabInj
  cellNL := F.cellNL
  known := F.known
  slots := fun j y sl h1 h2 => by
    by_cases hji : j = i
    · subst hji
      rw [ht] at h1; cases h1
      rw [List.getElem?_set_self'] at h2
      cases hr : ρ[j]? with
      | none => rw [hr] at h2; cases h2
      | some z =>
        rw [hr] at h2
        cases h2
        have : upd vm x v x = some v := by unfold upd; rw [if_pos rfl]
        rw [this]; exact hme
    · rw [List.getElem?_set_ne (Ne.symm hji)] at h2
      have hyx : y ≠ x := fun e => hji (F.tabInj j i x (e ▸ h1) ht)
      have : upd vm x v y = vm y := by unfold upd; rw [if_neg hyx]
      rw [this]
      exact hoth j y sl hji h1 h2
  ownInj := fun j k a h1 h2 => by
    by_cases hj : j = i <;> by_cases hk' : k = i
    · rw [hj, hk']
    · subst hj; exact absurd (hO k hk' ▸ h2) ((hOi a h1).2.2.1 k hk')
    · subst hk'; exact absurd (hO j hj ▸ h1) ((hOi a h2).2.2.1 j hj)
    · exact F.ownInj j k a (hO j hj ▸ h1) (hO k hk' ▸ h2)
  ownSlot := fun j a h1 => by
    by_cases hj : j = i
    · subst hj
      obtain ⟨_, _, _, _, xs, rfl⟩ := hOi a h1
      refine ⟨x, xs, ht, ?_⟩
      have hlt : j < ρ.length := by
        rw [F.len]
        rcases Nat.lt_or_ge j tab.length with h | h
        · exact h
        · rw [List.getElem?_eq_none h] at ht; cases ht
      rw [List.getElem?_set_self hlt]
    · obtain ⟨y, xs, e1, e2⟩ := F.ownSlot j a (hO j hj ▸ h1)
      exact ⟨y, xs, e1, by rw [List.getElem?_set_ne (Ne.symm hj)]; exact e2⟩
  ownApart := fun j a h1 => by
    by_cases hj : j = i
    · subst hj; exact (hOi a h1).2.1
    · exact F.ownApart j a (hO j hj ▸ h1)
  ownNP := fun j a h1 => by
    by_cases hj : j = i
    · subst hj; exact (hOi a h1).2.2.2.1
    · exact F.ownNP j a (hO j hj ▸ h1)

theorem slot_tr {h h' : Heap} {V V' : Avd} {O O' : Nat → Option Addr} {j : Nat} {v? : Option Value} {sl : Slot} (x : SlotOk cx h V O j v? sl)
    (hk : ∀ a o, ¬ V a → h.get? a = some o → h'.get? a = some o) (ha : ∀ a, V' a → V a ∨ h.get? a = none) (hO : O' j = O j) (hown : ∀ a o, O j = some a → h.get? a = some o → h'.get? a = some o) : SlotOk cx h' V' O' j v? sl := by
  cases sl with
  | unb => trivial
  | val d => obtain ⟨v, e, r⟩ := x; exact ⟨v, e, r.mono hk ha⟩
  | own xs => obtain ⟨a, vs, n, e1, e2, e3, e4, r⟩ := x; exact ⟨a, vs, n, hO.trans e1, e2, hown a _ e1 e3, e4, r.mono hk ha⟩

/-- a name is bound to a datum -/
theorem FrV.store (F : FrV cx sc tab env P O vm s ρ) {i : Nat} {x : Str} {v : Value} {d : D} {Q : Unit → Shared → Prop} (ht : tab[i]? = some (some x)) (hnf : sc.names.lookup x = some .free → False)
    (r : Rd cx s.heap (Av env P O) d v)
    (hQ : ∀ s', FrV cx sc tab env P (off O i) (upd vm x v) s' (ρ.set i (.val d)) → Tr env O s (off O i) s' → Q () s') : W prog w A (storeName env x v) Q s := by
  refine F.storeRaw ht hnf fun s' hg ho hsz hk hns hcell => ?_
  have hA : ∀ a, Av env P (off O i) a → Av env P O a := fun a h => h.imp id fun m => m.imp (fun ⟨j, hj⟩ => ⟨j, (off_some hj).2⟩) id
  have hk' : ∀ a o, ¬ Av env P O a → s.heap.get? a = some o → s'.heap.get? a = some o := fun a o hn e => hk a o (fun e' => hn (.inr (.inr (.inl e')))) (fun y e' => hn (.inr (.inr (.inr ⟨y, e'⟩)))) e
  refine hQ s' (F.put ht hsz hk hns hcell (fun j hj => by unfold off; rw [if_neg hj]) (fun a h => absurd rfl (off_some h).1) (fun j y sl hj h1 h2 => ?_) ⟨v, rfl, r.mono hk' fun a h => .inl (hA a h)⟩) ?_
  · exact slot_tr (F.slots j y sl h1 h2) hk' (fun a h => .inl (hA a h)) (by unfold off; rw [if_neg hj]) fun a o e e' => hk a o (F.ownApart j a e).1 (F.ownApart j a e).2 e'
  · exact ⟨hg, ho, Nat.le_of_eq hsz.symm, fun a o hn e => hk a o (fun e' => hn (.inr (.inl e'))) (fun y e' => hn (.inr (.inr ⟨y, e'⟩))) e, fun j a h => .inl ⟨j, (off_some h).2⟩⟩

/-- a name is bound to a new list, which the frame will own -/
theorem FrV.storeOwn {s₀ : Shared} (F₀ : FrV cx sc tab env P O vm s₀ ρ) (X : Ext s₀ s) {i : Nat} {x : Str} {a : Addr} {vs : Array Value} {n : Nat} {xs : List D} {Q : Unit → Shared → Prop} (ht : tab[i]? = some (some x)) (hnf : sc.names.lookup x = some .free → False)
    (hnew : s₀.heap.objs.size ≤ a) (hobj : s.heap.get? a = some { cls := .type "list", data := .seq vs n }) (hz : vs.size ≤ sizeLine) (r : RdAll cx s.heap (fun b => Av env P O b ∨ b = a) xs vs.toList)
    (hQ : ∀ s', FrV cx sc tab env P (onO O i a) (upd vm x (.ref a)) s' (ρ.set i (.own xs)) → Tr env O s₀ (onO O i a) s' → Q () s') : W prog w A (storeName env x (.ref a)) Q s := by
  have F := F₀.ext X
  refine F.storeRaw ht hnf fun s' hg ho hsz hk hns hcell => ?_
  have hlt := Heap.lt_size hobj
  have hnl : a ≠ env.locals := fun e => F₀.new hnew (.inr (.inr (.inl e)))
  have hnc : ∀ y, env.cells.lookup y ≠ some a := fun y e => F₀.new hnew (.inr (.inr (.inr ⟨y, e⟩)))
  have hno : ∀ j, O j ≠ some a := fun j e => F₀.new hnew (.inr (.inl ⟨j, e⟩))
  have hA : ∀ b, Av env P (onO O i a) b → Av env P O b ∨ b = a := fun b h => by
    rcases h with h | ⟨j, hj⟩ | h
    · exact .inl (.inl h)
    · rcases onO_some hj with ⟨_, e⟩ | ⟨_, e⟩
      · exact .inr e
      · exact .inl (.inr (.inl ⟨j, e⟩))
    · exact .inl (.inr (.inr h))
  have hk' : ∀ b o, ¬ Av env P O b → s.heap.get? b = some o → s'.heap.get? b = some o := fun b o hn e => hk b o (fun e' => hn (.inr (.inr (.inl e')))) (fun y e' => hn (.inr (.inr (.inr ⟨y, e'⟩)))) e
  refine hQ s' (F.put ht hsz hk hns hcell (fun j hj => by unfold onO; rw [if_neg hj]) (fun b h => ?_) (fun j y sl hj h1 h2 => ?_) ⟨a, vs, n, by unfold onO; rw [if_pos rfl], rfl, hk a _ hnl hnc hobj, hz, r.mono (fun b o hn e => hk' b o (fun m => hn (.inl m)) e) fun b h => .inl (hA b h)⟩) ?_
  · rcases onO_some h with ⟨_, rfl⟩ | ⟨h', _⟩
    · exact ⟨⟨Nat.le_trans (Nat.le_of_lt_succ (Nat.lt_succ_of_le (by
        obtain ⟨m, hm, _⟩ := F₀.ns
        exact Nat.le_trans (F₀.fresh env.locals (.inr (.inl rfl))).1 (Nat.le_of_lt hm.lt)))) hnew, hlt⟩, ⟨hnl, hnc⟩, fun j _ => hno j, fun h => F₀.new hnew (.inl h), xs, rfl⟩
    · exact absurd rfl h'
  · refine slot_tr ((F₀.slots j y sl h1 h2)) (fun b o hn e => hk' b o hn (X.keep b o e)) (fun b h => (hA b h).imp id fun e => get_none (by rw [e]; exact hnew)) (by unfold onO; rw [if_neg hj]) fun b o e e' => hk b o (F.ownApart j b e).1 (F.ownApart j b e).2 (X.keep b o e')
  · exact ⟨hg.trans X.gens, ho.trans X.os, by rw [hsz]; exact X.size, fun b o hn e => hk b o (fun e' => hn (.inr (.inl e'))) (fun y e' => hn (.inr (.inr ⟨y, e'⟩))) (X.keep b o e), fun j b h => by
      rcases onO_some h with ⟨_, rfl⟩ | ⟨_, e⟩
      · exact .inr hnew
      · exact .inl ⟨j, e⟩⟩

/-- an owned list is given up: from now on it is a datum like any other -/
theorem FrV.freeze (F : FrV cx sc tab env P O vm s ρ) {i : Nat} {xs : List D} (hi : ρ[i]? = some (.own xs)) : FrV cx sc tab env P (off O i) vm s (ρ.set i (.val (.list xs))) := by
  have hA : ∀ a, Av env P (off O i) a → Av env P O a := fun a h => h.imp id fun m => m.imp (fun ⟨j, hj⟩ => ⟨j, (off_some hj).2⟩) id
  have hlt : i < ρ.length := by
    rcases Nat.lt_or_ge i ρ.length with h | h
    · exact h
    · rw [List.getElem?_eq_none h] at hi; cases hi
  exact { F with
    fresh := fun a m => F.fresh a (m.imp (fun ⟨j, hj⟩ => ⟨j, (off_some hj).2⟩) id)
    len := by rw [List.length_set]; exact F.len
    slots := fun j y sl h1 h2 => by
      by_cases hji : j = i
      · subst hji
        rw [List.getElem?_set_self hlt] at h2
        cases h2
        obtain ⟨a, vs, n, e1, e2, e3, e4, r⟩ := F.slots j y _ h1 hi
        refine ⟨.ref a, e2, ?_⟩
        rw [Rd]
        refine ⟨a, vs, n, rfl, e3, fun h => ?_, e4, r.weak hA⟩
        rcases h with h | ⟨k, hk⟩ | h
        · exact F.ownNP j a e1 h
        · exact (off_some hk).1 (F.ownInj k j a (off_some hk).2 e1)
        · rcases h with h | ⟨y', h⟩
          · exact (F.ownApart j a e1).1 h
          · exact (F.ownApart j a e1).2 y' h
      · rw [List.getElem?_set_ne (Ne.symm hji)] at h2
        exact slot_tr (F.slots j y sl h1 h2) (fun _ _ _ e => e) (fun a h => .inl (hA a h)) (by unfold off; rw [if_neg hji]) fun _ _ _ e => e
    ownInj := fun j k a h1 h2 => F.ownInj j k a (off_some h1).2 (off_some h2).2
    ownSlot := fun j a h1 => by
      obtain ⟨y, zs, e1, e2⟩ := F.ownSlot j a (off_some h1).2
      exact ⟨y, zs, e1, by rw [List.getElem?_set_ne (Ne.symm (off_some h1).1)]; exact e2⟩
    ownApart := fun j a h1 => F.ownApart j a (off_some h1).2
    ownNP := fun j a h1 => F.ownNP j a (off_some h1).2 }

/-- an owned list is changed in its place -/
theorem FrV.mutate (F : FrV cx sc tab env P O vm s ρ) {i : Nat} {x : Str} {xs ds : List D} {a : Addr} {s' : Shared} {vs : Array Value} {n : Nat} (ht : tab[i]? = some (some x)) (hi : ρ[i]? = some (.own xs)) (hO : O i = some a)
    (hg : s'.gens = s.gens) (ho : s'.os = s.os) (hs : Heap.SameBut a s.heap s'.heap) (hobj : s'.heap.get? a = some { cls := .type "list", data := .seq vs n }) (hz : vs.size ≤ sizeLine)
    (r : RdAll cx s.heap (Av env P O) ds vs.toList) : FrV cx sc tab env P O vm s' (ρ.set i (.own ds)) ∧ Tr env O s O s' := by
  have hma : muts env O a := .inl ⟨i, hO⟩
  have hk : ∀ b o, b ≠ a → s.heap.get? b = some o → s'.heap.get? b = some o := fun b o hb e => hs.extBut b o hb e
  have hk' : ∀ b o, ¬ Av env P O b → s.heap.get? b = some o → s'.heap.get? b = some o := fun b o hn e => hk b o (fun e' => hn (.inr (e' ▸ hma))) e
  have hap := F.ownApart i a hO
  have hlt : i < ρ.length := by
    rcases Nat.lt_or_ge i ρ.length with h | h
    · exact h
    · rw [List.getElem?_eq_none h] at hi; cases hi
  refine ⟨?_, ⟨hg, ho, Nat.le_of_eq hs.1.symm, fun b o hn e => hk b o (fun e' => hn (e' ▸ hma)) e, fun j b e => .inl ⟨j, e⟩⟩⟩
  exact {
    scope := F.scope, kind := F.kind, glob := F.glob, blt := F.blt
    base := fun b o e => hk b o (fun e' => (F.low (Heap.lt_size e)).2.2 i (e' ▸ hO)) (F.base b o e)
    ns := let ⟨m, h1, h2⟩ := F.ns; ⟨m, h1.sameBut hs (Ne.symm hap.1), h2⟩
    cell := fun y c e => (F.cell y c e).sameBut hs fun e' => hap.2 y (e' ▸ e)
    apart := F.apart
    fresh := fun b m => by rw [hs.1]; exact F.fresh b m
    nsCell := F.nsCell
    av := fun b h => by rw [hs.1]; exact F.av b h
    len := by rw [List.length_set]; exact F.len
    tabInj := F.tabInj, cellNL := F.cellNL, known := F.known
    slots := fun j y sl h1 h2 => by
      by_cases hji : j = i
      · subst hji
        rw [List.getElem?_set_self hlt] at h2
        cases h2
        obtain ⟨a', vs', n', e1, e2, e3, e4, _⟩ := F.slots j y _ h1 hi
        rw [hO] at e1; cases e1
        exact ⟨a, vs, n, hO, e2, hobj, hz, r.mono hk' fun _ h => .inl h⟩
      · rw [List.getElem?_set_ne (Ne.symm hji)] at h2
        exact slot_tr (F.slots j y sl h1 h2) hk' (fun _ h => .inl h) rfl fun b o e e' => hk b o (fun e'' => hji (F.ownInj j i a (e'' ▸ e) hO)) e'
    ownInj := F.ownInj
    ownSlot := fun j b h1 => by
      by_cases hji : j = i
      · subst hji
        exact ⟨x, ds, ht, by rw [List.getElem?_set_self hlt]⟩
      · obtain ⟨y, zs, e1, e2⟩ := F.ownSlot j b h1
        exact ⟨y, zs, e1, by rw [List.getElem?_set_ne (Ne.symm hji)]; exact e2⟩
    ownApart := F.ownApart
    ownNP := F.ownNP }

theorem FrV.glob_ (F : FrV cx sc tab env P O vm s ρ) {x : Str} {v : Value} {Q : Value → Shared → Prop} (hl : sc.names.lookup x = some .globalImplicit) (hv : (cx.mg x).or (cx.mb x) = some v) (hQ : Q v s) : W prog w A (loadName env x) Q s := by
  have hg : s.heap.Ns mainGlobals cx.mg := cx.hg.keeps F.base
  have hb : s.heap.Ns builtinsNs cx.mb := cx.hb.keeps F.base
  refine W.of_any ?_
  unfold loadName
  have hk : env.scope.kind = .function := by rw [F.scope]; exact F.kind
  have hkx : env.kindOf x = some .globalImplicit := by show env.scope.names.lookup x = _; rw [F.scope]; exact hl
  simp only [Env.blockKind, hk, hkx, ScopeKind.isAnnotationScope, Bool.false_and, Bool.false_eq_true, if_false]
  unfold loadGlobal
  rw [F.glob, F.blt]
  refine wpAny_bind (wpAny_nsGet hg ?_)
  cases hm : cx.mg x with
  | some v' =>
    rw [hm] at hv
    cases hv
    exact wpAny_pure hQ
  | none =>
    rw [hm] at hv
    refine wpAny_bind (wpAny_nsGet hb ?_)
    have hv' : cx.mb x = some v := hv
    rw [hv']
    exact wpAny_pure hQ
end
end Mine

end
section
open PySem PySem.W PySem.Calls PyProof.Rows
set_option Elab.async false
set_option maxRecDepth 100000
namespace Mine

noncomputable def Room (A : Around) (k : Nat) : Prop := A.handled = none ∧ A.depth + k < recursionLimit ∧ A.units + 8 * k + 200 < cLine
theorem Room.units {A : Around} {k : Nat} (h : Room A k) : A.units + 100 < cLine := by have := h.2.2; omega

structure Jd where
  cx : Cx
  sc : Scope
  tab : List (Option Str)
  k : Nat

noncomputable abbrev Rho := List Slot

/-- the expression's value is f of the frame's names -/
noncomputable def SE (J : Jd) (e : PySem.Expr) (f : Rho → Option D) : Prop :=
  ∀ (A : Around) (env : Env) (P : Avd) (O : Nat → Option Addr) (vm : Str → Option Value) (s : Shared) (ρ : Rho) (d : D), Room A J.k → FrV J.cx J.sc J.tab env P O vm s ρ → f ρ = some d →
    W J.cx.prog J.cx.w A (eval e env) (fun v s' => Ext s s' ∧ Rd J.cx s'.heap (Av env P O) d v) s
/-- the expression as a test -/
noncomputable def ST (J : Jd) (e : PySem.Expr) (f : Rho → Option Bool) : Prop :=
  ∀ (A : Around) (env : Env) (P : Avd) (O : Nat → Option Addr) (vm : Str → Option Value) (s : Shared) (ρ : Rho) (b : Bool), Room A J.k → FrV J.cx J.sc J.tab env P O vm s ρ → f ρ = some b →
    W J.cx.prog J.cx.w A (isTrue e env (eval e env)) (fun v s' => Ext s s' ∧ v = b) s

/-! equality -/
mutual
noncomputable def toPy : D → PyData
  | .none => .none
  | .bool b => .bool b
  | .int i => .int i
  | .str l => .str ⟨l.toArray⟩
  | .list ds => .list (toPys ds)
  | .tup ds => .tuple (toPys ds)
  | .mat .. => .none
  | .inst _ => .none
noncomputable def toPys : List D → List PyData
  | [] => []
  | d :: ds => toPy d :: toPys ds
end
mutual
noncomputable def pureD : D → Bool
  | .list ds => pureDs ds
  | .tup ds => pureDs ds
  | .mat .. => false
  | .inst _ => false
  | _ => true
noncomputable def pureDs : List D → Bool
  | [] => true
  | d :: ds => pureD d && pureDs ds
end
section
variable {cx : Cx} {h : Heap} {V : Avd}
mutual
theorem Rd.reads : ∀ {d : D} {v : Value}, Rd cx h V d v → pureD d = true → ∃ as, Reads h v (toPy d) as
  | .none, _, r, _ => by rw [Rd] at r; subst r; exact ⟨_, .none⟩
  | .bool _, _, r, _ => by rw [Rd] at r; subst r; exact ⟨_, .bool _⟩
  | .int _, _, r, _ => by rw [Rd] at r; obtain ⟨t, rfl⟩ := r; exact ⟨_, .int _ _⟩
  | .str _, _, r, _ => by rw [Rd] at r; obtain ⟨t, rfl, _⟩ := r; exact ⟨_, .str _ _⟩
  | .list ds, _, r, hp => by
    rw [Rd] at r; obtain ⟨a, vs, n, rfl, ho, _, _, r⟩ := r
    rw [pureD] at hp
    obtain ⟨as, q⟩ := RdAll.reads r hp
    rw [toPy]; exact ⟨_, .list ho rfl rfl q⟩
  | .tup ds, _, r, hp => by
    rw [Rd] at r; obtain ⟨a, vs, n, rfl, ho, _, _, r⟩ := r
    rw [pureD] at hp
    obtain ⟨as, q⟩ := RdAll.reads r hp
    rw [toPy]; exact ⟨_, .tuple ho rfl rfl q⟩
  | .mat .., _, _, hp => by rw [pureD] at hp; cases hp
  | .inst _, _, _, hp => by rw [pureD] at hp; cases hp
theorem RdAll.reads : ∀ {ds : List D} {vs : List Value}, RdAll cx h V ds vs → pureDs ds = true → ∃ as, ReadsAll h vs (toPys ds) as
  | [], _, r, _ => by rw [RdAll] at r; subst r; exact ⟨_, .nil⟩
  | d :: ds, _, r, hp => by
    rw [RdAll] at r; obtain ⟨v, l, rfl, r1, r2⟩ := r
    rw [pureDs, Bool.and_eq_true] at hp
    obtain ⟨as, q1⟩ := Rd.reads r1 hp.1
    obtain ⟨bs, q2⟩ := RdAll.reads r2 hp.2
    rw [toPys]; exact ⟨_, .cons q1 q2⟩
end
mutual
theorem Rd.lay : ∀ {d : D} {v : Value}, Rd cx h V d v → pureD d = true → (toPy d).canLay0 = true
  | .none, _, _, _ => by simp [toPy, PyData.canLay0]
  | .bool _, _, _, _ => by simp [toPy, PyData.canLay0]
  | .int _, _, _, _ => by simp [toPy, PyData.canLay0]
  | .str l, _, r, _ => by
    rw [Rd] at r; obtain ⟨t, rfl, h1, _⟩ := r
    simp only [toPy, PyData.canLay0, PyData.strOk]
    rw [Array.all_eq_true']
    intro c hc
    exact decide_eq_true (h1 c (by simpa using hc))
  | .list ds, _, r, hp => by
    rw [Rd] at r; obtain ⟨a, vs, n, rfl, ho, _, _, r⟩ := r
    rw [pureD] at hp
    simp only [toPy, PyData.canLay0]; exact RdAll.lay r hp
  | .tup ds, _, r, hp => by
    rw [Rd] at r; obtain ⟨a, vs, n, rfl, ho, _, _, r⟩ := r
    rw [pureD] at hp
    simp only [toPy, PyData.canLay0]; exact RdAll.lay r hp
  | .mat .., _, _, hp => by rw [pureD] at hp; cases hp
  | .inst _, _, _, hp => by rw [pureD] at hp; cases hp
theorem RdAll.lay : ∀ {ds : List D} {vs : List Value}, RdAll cx h V ds vs → pureDs ds = true → PyData.canLayAll0 (toPys ds) = true
  | [], _, _, _ => by simp [toPys, PyData.canLayAll0]
  | d :: ds, _, r, hp => by
    rw [RdAll] at r; obtain ⟨v, l, rfl, r1, r2⟩ := r
    rw [pureDs, Bool.and_eq_true] at hp
    simp only [toPys, PyData.canLayAll0, Rd.lay r1 hp.1, RdAll.lay r2 hp.2, Bool.and_self]
end
end

noncomputable def flatD (d : D) : Bool := pureD d && decide ((toPy d).depth ≤ 60)
noncomputable def deq (a b : D) : Bool := PyData.eqv (toPy a) (toPy b)

/-- a comparison of two data -/
noncomputable def opEq (a b : D) : Option Bool := if flatD a && flatD b then some (deq a b) else none
noncomputable def opNe (a b : D) : Option Bool := (opEq a b).map not
noncomputable def opLt : D → D → Option Bool | .int a, .int b => some (decide (a < b)) | _, _ => none
noncomputable def isNone : D → Option Bool | .none => some true | .str _ => some false | .int _ => some false | _ => none
noncomputable def opIs (a b : D) : Option Bool := match b with | .none => isNone a | _ => none
/-- the comparison op gives F -/
noncomputable def CmpOk (op : CmpOp) (F : D → D → Option Bool) : Prop :=
  ∀ (cx : Cx) (A : Around) (V : Avd) (s : Shared) (a b : D) (x y : Value) (r : Bool), A.units + 100 < cLine → Rd cx s.heap V a x → Rd cx s.heap V b y → F a b = some r →
    W cx.prog cx.w A (compareOp op x y) (fun v s' => Ext s s' ∧ v = .bool r) s

theorem shaped_of {cx : Cx} {h : Heap} {V : Avd} {d : D} {v : Value} (r : Rd cx h V d v) (hf : flatD d = true) : SeqAt.shaped (toPy d) = true := by
  unfold flatD at hf
  rw [Bool.and_eq_true] at hf
  unfold SeqAt.shaped
  rw [Rd.lay r hf.1, Bool.true_and]
  exact decide_eq_true (Nat.le_trans (of_decide_eq_true hf.2) (by decide))

theorem cmp_eq : CmpOk .Eq opEq := fun cx A V s a b x y r hu ra rb h => by
  unfold opEq at h
  split at h
  · rename_i hf
    rw [Bool.and_eq_true] at hf
    cases h
    obtain ⟨as, qa⟩ := ra.reads (Bool.and_eq_true _ _ ▸ hf.1 : pureD a = true ∧ _).1
    obtain ⟨bs, qb⟩ := rb.reads (Bool.and_eq_true _ _ ▸ hf.2 : pureD b = true ∧ _).1
    exact W.of_any (eq_dataH qa qb (shaped_of ra hf.1) (shaped_of rb hf.2) (by omega) ⟨Ext.refl _, rfl⟩)
  · cases h
theorem cmp_ne : CmpOk .NotEq opNe := fun cx A V s a b x y r hu ra rb h => by
  unfold opNe opEq at h
  split at h
  · rename_i hf
    rw [Bool.and_eq_true] at hf
    cases h
    obtain ⟨as, qa⟩ := ra.reads (Bool.and_eq_true _ _ ▸ hf.1 : pureD a = true ∧ _).1
    obtain ⟨bs, qb⟩ := rb.reads (Bool.and_eq_true _ _ ▸ hf.2 : pureD b = true ∧ _).1
    exact W.of_any (ne_dataH qa qb (shaped_of ra hf.1) (shaped_of rb hf.2) (by omega) ⟨Ext.refl _, rfl⟩)
  · cases h
theorem cmp_lt : CmpOk .Lt opLt := fun cx A V s a b x y r hu ra rb h => by
  unfold opLt at h
  split at h
  · cases h; rw [Rd] at ra rb; obtain ⟨t, rfl⟩ := ra; obtain ⟨u, rfl⟩ := rb
    exact W.of_any (lt_int ⟨Ext.refl _, rfl⟩)
  · cases h
theorem cmp_is : CmpOk .Is opIs := fun cx A V s a b x y r hu ra rb h => by
  unfold opIs at h
  split at h
  · rw [Rd] at rb; subst rb
    unfold isNone at h
    split at h
    · cases h; rw [Rd] at ra; subst ra; exact W.of_any (wpAny_is_self rfl ⟨Ext.refl _, rfl⟩)
    · cases h; rw [Rd] at ra; obtain ⟨t, rfl, _⟩ := ra; exact W.of_any (wpAny_is_other rfl (by intro x; cases x) ⟨Ext.refl _, rfl⟩)
    · cases h; rw [Rd] at ra; obtain ⟨t, rfl⟩ := ra; exact W.of_any (wpAny_is_other rfl (by intro x; cases x) ⟨Ext.refl _, rfl⟩)
    · cases h
  · cases h
end Mine

end
section
open PySem PySem.W PySem.Calls PyProof.Rows
set_option Elab.async false
set_option maxRecDepth 100000
namespace Mine

/-! in, not in -/
/-! two-place operations -/
noncomputable def opAdd : D → D → Option D
  | .int a, .int b => some (.int (a + b))
  | .str a, .str b => if a.length + b.length ≤ sizeLine then some (.str (a ++ b)) else none
  | .list a, .list b => if a.length + b.length ≤ sizeLine then some (.list (a ++ b)) else none
  | _, _ => none
noncomputable def opSub : D → D → Option D
  | .int a, .int b => some (.int (a - b))
  | _, _ => none
noncomputable def opDiv : D → D → Option D
  | .int a, .int b => if b = 0 ∨ 1073741824 ≤ b.natAbs then none else some (.int (a.fdiv b))
  | _, _ => none
noncomputable def opMod : D → D → Option D
  | .int a, .int b => if b = 0 then none else some (.int (a.fmod b))
  | _, _ => none

noncomputable def BinOk (op : Operator) (F : D → D → Option D) : Prop :=
  ∀ (cx : Cx) (A : Around) (V : Avd) (s : Shared) (a b : D) (x y : Value) (r : D), A.units + 100 < cLine → (∀ p, V p → p < s.heap.objs.size) → Rd cx s.heap V a x → Rd cx s.heap V b y → F a b = some r →
    W cx.prog cx.w A (binaryOp op x y) (fun v s' => Ext s s' ∧ Rd cx s'.heap V r v) s

theorem str_append (a b : List Nat) : (⟨a.toArray⟩ : Str) ++ ⟨b.toArray⟩ = ⟨(a ++ b).toArray⟩ := by
  show Str.append _ _ = _
  simp [Str.append]
theorem rd_str {cx : Cx} {h : Heap} {V : Avd} {l : List Nat} {t : Tok} (h1 : ∀ c ∈ l, c < 0x110000) (h2 : l.length ≤ sizeLine) : Rd cx h V (.str l) (.str ⟨l.toArray⟩ t) := by rw [Rd]; exact ⟨t, rfl, h1, h2⟩
theorem str_len (l : List Nat) : (⟨l.toArray⟩ : Str).length = l.length := by simp [Str.length]

theorem bin_add : BinOk .Add opAdd := fun cx A V s a b x y r hu hV ra rb h => by
  unfold opAdd at h
  split at h
  · cases h; rw [Rd] at ra rb; obtain ⟨t, rfl⟩ := ra; obtain ⟨u, rfl⟩ := rb
    exact W.of_any (add_int ⟨Ext.toks _, by rw [Rd]; exact ⟨_, rfl⟩⟩)
  · split at h
    · rename_i hz
      cases h; rw [Rd] at ra rb; obtain ⟨t, rfl, h1, _⟩ := ra; obtain ⟨u, rfl, h2, _⟩ := rb
      refine W.of_any (add_str (fun t' tk => ⟨Ext.toks _, ?_⟩) (by rw [str_len, str_len]; exact hz))
      rw [str_append]
      exact rd_str (fun c hc => (List.mem_append.mp hc).elim (h1 c) (h2 c)) (by rw [List.length_append]; exact hz)
    · cases h
  · split at h
    · rename_i hz
      cases h; rw [Rd] at ra rb
      obtain ⟨p, vs, n, rfl, h1, _, _, r1⟩ := ra
      obtain ⟨q, us, m, rfl, h2, _, _, r2⟩ := rb
      have l1 := r1.length
      have l2 := r2.length
      have hz' : vs.size + us.size ≤ sizeLine := by
        rw [← Array.length_toList, ← Array.length_toList, l1, l2]; exact hz
      refine W.of_any (P.add_list h1 h2 ⟨Ext.push _ _, ?_⟩ hz')
      rw [Rd]
      refine ⟨_, vs ++ us, 0, rfl, Heap.get?_push_size _ rfl, fun hp => Nat.lt_irrefl _ (hV _ hp), by rw [Array.size_append]; exact hz', ?_⟩
      rw [Array.toList_append]
      exact (r1.append r2).keep fun _ _ e => Heap.get?_push_of_some _ e
    · cases h
  · cases h
theorem bin_sub : BinOk .Sub opSub := fun cx A V s a b x y r hu hV ra rb h => by
  unfold opSub at h
  split at h
  · cases h; rw [Rd] at ra rb; obtain ⟨t, rfl⟩ := ra; obtain ⟨u, rfl⟩ := rb
    exact W.of_any (sub_int ⟨Ext.toks _, by rw [Rd]; exact ⟨_, rfl⟩⟩)
  · cases h
theorem bin_mod : BinOk .Mod opMod := fun cx A V s a b x y r hu hV ra rb h => by
  unfold opMod at h
  split at h
  · split at h
    · cases h
    · rename_i hb
      cases h; rw [Rd] at ra rb; obtain ⟨t, rfl⟩ := ra; obtain ⟨u, rfl⟩ := rb
      exact W.of_any (mod_int' hb ⟨Ext.toks _, by rw [Rd]; exact ⟨_, rfl⟩⟩)
  · cases h
theorem bin_div : BinOk .FloorDiv opDiv := fun cx A V s a b x y r hu hV ra rb h => by
  unfold opDiv at h
  split at h
  · split at h
    · cases h
    · rename_i hb
      cases h; rw [Rd] at ra rb; obtain ⟨t, rfl⟩ := ra; obtain ⟨u, rfl⟩ := rb
      exact W.of_any (floordiv_int (fun e => hb (.inl e)) ⟨Ext.toks _, by rw [Rd]; exact ⟨_, rfl⟩⟩ (.inl (PyProof.noPylong_small (by omega))))
  · cases h

/-! expressions -/
noncomputable def cE (d : D) : Rho → Option D := fun _ => some d
noncomputable def vE (i : Nat) : Rho → Option D := fun ρ => match ρ[i]? with | some (.val d) => some d | _ => none
noncomputable def binE (F : D → D → Option D) (f g : Rho → Option D) : Rho → Option D := fun ρ => (f ρ).bind fun a => (g ρ).bind fun b => F a b
noncomputable def cmpB (F : D → D → Option Bool) (f g : Rho → Option D) : Rho → Option Bool := fun ρ => (f ρ).bind fun a => (g ρ).bind fun b => F a b
noncomputable def andB (f g : Rho → Option Bool) : Rho → Option Bool := fun ρ => (f ρ).bind fun a => if a then g ρ else some false
noncomputable def orB (f g : Rho → Option Bool) : Rho → Option Bool := fun ρ => (f ρ).bind fun a => if a then some true else g ρ
noncomputable def ifE {α : Type} (t : Rho → Option Bool) (f g : Rho → Option α) : Rho → Option α := fun ρ => (t ρ).bind fun b => if b then f ρ else g ρ
noncomputable def truth : D → Option Bool
  | .none => some false
  | .bool b => some b
  | .int i => some (i != 0)
  | .str l => some (!l.isEmpty)
  | .list xs => some (!xs.isEmpty)
  | _ => none
noncomputable def truB (f : Rho → Option D) : Rho → Option Bool := fun ρ => (f ρ).bind truth

section
variable {J : Jd}

theorem se_none {k pos} : SE J (.Constant .none k pos) (cE .none) := fun A env P O vm s ρ d hA F h => by
  cases h; exact W.pureQ ⟨Ext.refl _, by rw [Rd]⟩
theorem se_bool {b k pos} : SE J (.Constant (.bool b) k pos) (cE (.bool b)) := fun A env P O vm s ρ d hA F h => by
  cases h; exact W.pureQ ⟨Ext.refl _, by rw [Rd]⟩
theorem se_int {i k pos} : SE J (.Constant (.int i) k pos) (cE (.int i)) := fun A env P O vm s ρ d hA F h => by
  cases h; exact W.of_any (wpAny_mkInt ⟨Ext.toks _, by rw [Rd]; exact ⟨_, rfl⟩⟩)
theorem se_str {x : Str} {l : List Nat} {k pos} (e : x = ⟨l.toArray⟩ := by decide) (h1 : (l.all (· < 0x110000) && decide (l.length ≤ 1000)) = true := by decide) : SE J (.Constant (.str x) k pos) (cE (.str l)) := fun A env P O vm s ρ d hA F h => by
  cases h
  subst e
  rw [Bool.and_eq_true] at h1
  refine W.of_any (wpAny_mkText ⟨Ext.toks _, rd_str (fun c hc => ?_) (Nat.le_trans (of_decide_eq_true h1.2) (by decide))⟩)
  have := List.all_eq_true.mp h1.1 c hc
  exact of_decide_eq_true this

theorem se_var {i : Nat} {x : Str} {pos : Pos} (ht : J.tab[i]? = some (some x) := by rfl) (hd : (x == ("__debug__" : Str) || x == ("__classdict__" : Str)) = false := by decide) : SE J (.Name x pos) (vE i) := fun A env P O vm s ρ d hA F h => by
  rw [Bool.or_eq_false_iff] at hd
  rw [eval_Name env x pos hd.1]
  refine W.bind (W.standAt ?_)
  unfold vE at h
  split at h
  · rename_i d' hr
    cases h
    obtain ⟨v, hv, r⟩ := F.slots i x _ ht hr
    exact F.load ht hv ⟨Ext.refl _, r⟩ hd.2
  · cases h

theorem se_bin {l r : PySem.Expr} {op : Operator} {pos : Pos} {f g : Rho → Option D} {G : D → D → Option D} (hG : BinOk op G) (hl : SE J l f) (hr : SE J r g) : SE J (.BinOp l op r pos) (binE G f g) := fun A env P O vm s ρ d hA F h => by
  unfold binE at h
  rw [Option.bind_eq_some_iff] at h
  obtain ⟨a, ha, h⟩ := h
  rw [Option.bind_eq_some_iff] at h
  obtain ⟨b, hb, h⟩ := h
  rw [eval_BinOp]
  refine W.bind (W.mono (hl A env P O vm s ρ a hA F ha) fun x s₁ ⟨X1, r1⟩ => W.bind (W.holding (W.mono (hr A env P O vm s₁ ρ b hA (F.ext X1) hb) fun y s₂ ⟨X2, r2⟩ => W.bind (W.standAt (W.operate ?_)))))
  exact W.mono (hG J.cx A (Av env P O) s₂ a b x y d hA.units (fun p hp => ((F.ext X1).ext X2).avLt hp) (r1.keep X2.keep) r2 h) fun v s₃ ⟨X3, r3⟩ => ⟨X1.trans (X2.trans X3), r3⟩

theorem st_cmp {l r : PySem.Expr} {op : CmpOp} {pos : Pos} {f g : Rho → Option D} {G : D → D → Option Bool} (hG : CmpOk op G) (hl : SE J l f) (hr : SE J r g) (hm : behindInMarks op r = false := by rfl) : ST J (.Compare l [op] [r] pos) (cmpB G f g) := fun A env P O vm s ρ t hA F h => by
  unfold cmpB at h
  rw [Option.bind_eq_some_iff] at h
  obtain ⟨a, ha, h⟩ := h
  rw [Option.bind_eq_some_iff] at h
  obtain ⟨b, hb, h⟩ := h
  rw [isTrue_Compare1, markedBehindIn_of_false hm]
  refine W.bind (W.mono (hl A env P O vm s ρ a hA F ha) fun x s₁ ⟨X1, r1⟩ => W.bind (W.holding (W.mono (hr A env P O vm s₁ ρ b hA (F.ext X1) hb) fun y s₂ ⟨X2, r2⟩ => W.bind (W.standAt (W.bind (W.operate ?_))))))
  refine W.mono (hG J.cx A (Av env P O) s₂ a b x y t hA.units (r1.keep X2.keep) r2 h) fun v s₃ ⟨X3, e⟩ => ?_
  subst e
  exact W.holding (W.of_any (wpAny_truthy_bool ⟨X1.trans (X2.trans X3), rfl⟩))
end
end Mine

end
section
open PySem PySem.W PySem.Calls PyProof.Rows
set_option Elab.async false
set_option maxRecDepth 100000
namespace Mine

theorem szl : sizeLine = 16777216 := by decide

theorem truthy_ok {cx : Cx} {A : Around} {V : Avd} {s : Shared} {d : D} {v : Value} {b : Bool} (r : Rd cx s.heap V d v) (h : truth d = some b) :
    W cx.prog cx.w A (truthy v) (fun x s' => Ext s s' ∧ x = b) s := by
  unfold truth at h
  split at h
  · cases h; rw [Rd] at r; subst r; exact W.of_any (truthy_none ⟨Ext.refl _, rfl⟩)
  · cases h; rw [Rd] at r; subst r; exact W.of_any (wpAny_truthy_bool ⟨Ext.refl _, rfl⟩)
  · cases h; rw [Rd] at r; obtain ⟨t, rfl⟩ := r; exact W.of_any (truthy_int ⟨Ext.refl _, rfl⟩)
  · rename_i l
    cases h; rw [Rd] at r; obtain ⟨t, rfl, _, hz⟩ := r
    refine W.of_any (P.truthy_str (by have := szl; rw [str_len]; omega) ⟨Ext.toks _, ?_⟩)
    rw [str_len]
    cases l with
    | nil => rfl
    | cons c l => simp; omega
  · rename_i xs
    cases h; rw [Rd] at r; obtain ⟨a, vs, n, rfl, ho, _, hz, r⟩ := r
    have hl := r.length
    refine W.of_any (wpAny_truthy_list ⟨_, ho, rfl, n, rfl⟩ (by have := szl; omega) ⟨Ext.toks _, ?_⟩)
    cases xs with
    | nil => simp at hl; simp [hl]
    | cons x xs =>
      cases hv : vs.toList with
      | nil => rw [hv] at hl; simp at hl
      | cons y ys =>
        have : vs.size ≠ 0 := by rw [← Array.length_toList, hv]; simp
        simp [Array.isEmpty, this]
  · cases h

noncomputable def plainTest : PySem.Expr → Bool
  | .UnaryOp .Not _ _ => false
  | .BoolOp .. => false
  | .IfExp .. => false
  | .Compare .. => false
  | _ => true
noncomputable def negE (f : Rho → Option D) : Rho → Option D := fun ρ => (f ρ).bind fun a => match a with | .int i => some (.int (-i)) | _ => none

section
variable {J : Jd}

theorem st_plain {e : PySem.Expr} {f : Rho → Option D} (he : SE J e f) (hp : plainTest e = true := by rfl) : ST J e (truB f) := fun A env P O vm s ρ b hA F h => by
  unfold truB at h
  rw [Option.bind_eq_some_iff] at h
  obtain ⟨d, hd, h⟩ := h
  have hi : isTrue e env (eval e env) = (do let v ← eval e env; standAt e.pos; holding [v] (truthy v)) := by
    cases e <;> first | rfl | cases hp | skip
    case UnaryOp op x pos => cases op <;> first | rfl | cases hp
  rw [hi]
  refine W.bind (W.mono (he A env P O vm s ρ d hA F hd) fun v s₁ ⟨X1, r1⟩ => W.bind (W.standAt (W.holding ?_)))
  exact W.mono (truthy_ok r1 h) fun x s₂ ⟨X2, e⟩ => ⟨X1.trans X2, e⟩

theorem st_and {l r : PySem.Expr} {pos : Pos} {f g : Rho → Option Bool} (hl : ST J l f) (hr : ST J r g) : ST J (.BoolOp .And [l, r] pos) (andB f g) := fun A env P O vm s ρ b hA F h => by
  unfold andB at h
  rw [Option.bind_eq_some_iff] at h
  obtain ⟨a, ha, h⟩ := h
  show W _ _ A (allTrue .And [l, r] env) _ s
  unfold allTrue
  refine W.bind (W.mono (hl A env P O vm s ρ a hA F ha) fun x s₁ ⟨X1, e⟩ => ?_)
  subst e
  cases x with
  | false => simp only [Bool.false_eq_true, if_false] at h; cases h; exact W.pure ⟨X1, rfl⟩
  | true =>
    simp only [if_true] at h
    show W _ _ A (allTrue .And [r] env) _ s₁
    unfold allTrue
    refine W.bind (W.mono (hr A env P O vm s₁ ρ b hA (F.ext X1) h) fun y s₂ ⟨X2, e⟩ => ?_)
    subst e
    cases y with
    | false => exact W.pure ⟨X1.trans X2, rfl⟩
    | true => show W _ _ A (allTrue .And [] env) _ s₂; unfold allTrue; exact W.pure ⟨X1.trans X2, rfl⟩
theorem st_or {l r : PySem.Expr} {pos : Pos} {f g : Rho → Option Bool} (hl : ST J l f) (hr : ST J r g) : ST J (.BoolOp .Or [l, r] pos) (orB f g) := fun A env P O vm s ρ b hA F h => by
  unfold orB at h
  rw [Option.bind_eq_some_iff] at h
  obtain ⟨a, ha, h⟩ := h
  show W _ _ A (allTrue .Or [l, r] env) _ s
  unfold allTrue
  refine W.bind (W.mono (hl A env P O vm s ρ a hA F ha) fun x s₁ ⟨X1, e⟩ => ?_)
  subst e
  cases x with
  | true => simp only [if_true] at h; cases h; exact W.pure ⟨X1, rfl⟩
  | false =>
    simp only [Bool.false_eq_true, if_false] at h
    show W _ _ A (allTrue .Or [r] env) _ s₁
    unfold allTrue
    refine W.bind (W.mono (hr A env P O vm s₁ ρ b hA (F.ext X1) h) fun y s₂ ⟨X2, e⟩ => ?_)
    subst e
    cases y with
    | true => exact W.pure ⟨X1.trans X2, rfl⟩
    | false => show W _ _ A (allTrue .Or [] env) _ s₂; unfold allTrue; exact W.pure ⟨X1.trans X2, rfl⟩
theorem se_ifexp {t l r : PySem.Expr} {pos : Pos} {c : Rho → Option Bool} {f g : Rho → Option D} (ht : ST J t c) (hl : SE J l f) (hr : SE J r g) : SE J (.IfExp t l r pos) (ifE c f g) := fun A env P O vm s ρ b hA F h => by
  unfold ifE at h
  rw [Option.bind_eq_some_iff] at h
  obtain ⟨a, ha, h⟩ := h
  show W _ _ A (do if ← isTrue t env (eval t env) then eval l env else eval r env) _ s
  refine W.bind (W.mono (ht A env P O vm s ρ a hA F ha) fun x s₁ ⟨X1, e⟩ => ?_)
  subst e
  cases x with
  | true => simp only [if_true] at h ⊢; exact W.mono (hl A env P O vm s₁ ρ b hA (F.ext X1) h) fun y s₂ ⟨X2, e⟩ => ⟨X1.trans X2, e⟩
  | false => simp only [Bool.false_eq_true, if_false] at h ⊢; exact W.mono (hr A env P O vm s₁ ρ b hA (F.ext X1) h) fun y s₂ ⟨X2, e⟩ => ⟨X1.trans X2, e⟩

theorem se_neg {e : PySem.Expr} {pos : Pos} {f : Rho → Option D} (he : SE J e f) : SE J (.UnaryOp .USub e pos) (negE f) := fun A env P O vm s ρ d hA F h => by
  unfold negE at h
  rw [Option.bind_eq_some_iff] at h
  obtain ⟨a, ha, h⟩ := h
  split at h
  · cases h
    show W _ _ A (do let v ← eval e env; standAt pos; holding [v] (unaryOp .USub v)) _ s
    refine W.bind (W.mono (he A env P O vm s ρ _ hA F ha) fun v s₁ ⟨X1, r1⟩ => W.bind (W.standAt (W.holding ?_)))
    rw [Rd] at r1; obtain ⟨t, rfl⟩ := r1
    exact W.of_any (PyProof.Rows.neg_int ⟨X1.trans (Ext.toks _), by rw [Rd]; exact ⟨_, rfl⟩⟩)
  · cases h

end
end Mine

end
section
open PySem PySem.W PySem.Calls PyProof.Rows
set_option Elab.async false
set_option maxRecDepth 100000
namespace Mine

/-! displays -/
noncomputable def SEs (J : Jd) (es : List PySem.Expr) (f : Rho → Option (List D)) : Prop :=
  ∀ (A : Around) (env : Env) (P : Avd) (O : Nat → Option Addr) (vm : Str → Option Value) (s : Shared) (ρ : Rho) (ds : List D) (pos : Pos), Room A J.k → FrV J.cx J.sc J.tab env P O vm s ρ → f ρ = some ds →
    W J.cx.prog J.cx.w A (spliced (backTo pos (starEach es env))) (fun vs s' => Ext s s' ∧ RdAll J.cx s'.heap (Av env P O) ds vs) s
noncomputable def nilF : Rho → Option (List D) := fun _ => some []
noncomputable def consF (f : Rho → Option D) (g : Rho → Option (List D)) : Rho → Option (List D) := fun ρ => (f ρ).bind fun d => (g ρ).map fun ds => d :: ds
noncomputable def tupE (f : Rho → Option (List D)) : Rho → Option D := fun ρ => (f ρ).bind fun ds => if ds.length ≤ 1000 then some (.tup ds) else none
/-- the expression makes a new list -/
noncomputable def SEF (J : Jd) (e : PySem.Expr) (f : Rho → Option (List D)) : Prop :=
  ∀ (A : Around) (env : Env) (P : Avd) (O : Nat → Option Addr) (vm : Str → Option Value) (s : Shared) (ρ : Rho) (ds : List D), Room A J.k → FrV J.cx J.sc J.tab env P O vm s ρ → f ρ = some ds →
    W J.cx.prog J.cx.w A (eval e env) (fun v s' => Ext s s' ∧ ∃ a vs n, v = .ref a ∧ s.heap.objs.size ≤ a ∧ s'.heap.get? a = some { cls := .type "list", data := .seq vs n } ∧ vs.size ≤ sizeLine ∧
      RdAll J.cx s'.heap (fun b => Av env P O b ∨ b = a) ds vs.toList) s

section
variable {J : Jd}
theorem ses_nil : SEs J [] nilF := fun A env P O vm s ρ ds pos hA F h => by
  cases h
  exact W.of_any (Calls.spliced_nil ⟨Ext.refl _, RdAll.nil⟩)
theorem ses_cons {e : PySem.Expr} {es : List PySem.Expr} {f : Rho → Option D} {g : Rho → Option (List D)} (he : SE J e f) (hes : SEs J es g) (hs : isStarred e = false := by rfl) : SEs J (e :: es) (consF f g) := fun A env P O vm s ρ ds pos hA F h => by
  unfold consF at h
  rw [Option.bind_eq_some_iff] at h
  obtain ⟨d, hd, h⟩ := h
  rw [Option.map_eq_some_iff] at h
  obtain ⟨ds', hds, rfl⟩ := h
  have e1 : backTo pos (starEach (e :: es) env) = (false, eval e env) :: backTo pos (starEach es env) := by
    cases e <;> first | rfl | cases hs
  rw [e1, spliced]
  refine W.bind (W.mono (he A env P O vm s ρ d hA F hd) fun v s₁ ⟨X1, r1⟩ => ?_)
  simp only [Bool.false_eq_true, if_false]
  refine W.bind (W.pure (W.bind (W.holding (W.mono (hes A env P O vm s₁ ρ ds' pos hA (F.ext X1) hds) fun vs s₂ ⟨X2, r2⟩ => W.pure ⟨X1.trans X2, ?_⟩))))
  exact RdAll.cons (r1.keep X2.keep) r2

theorem sef_list {es : List PySem.Expr} {pos : Pos} {f : Rho → Option (List D)} (hes : SEs J es f) : SEF J (.List es pos) (fun ρ => (f ρ).bind fun ds => if ds.length ≤ 1000 then some ds else none) := fun A env P O vm s ρ ds hA F h => by
  rw [Option.bind_eq_some_iff] at h
  obtain ⟨ds', hds, h⟩ := h
  split at h
  · rename_i hz
    cases h
    show W _ _ A (do standAt pos; newList (← spliced (backTo pos (starEach es env)))) _ s
    refine W.bind (W.standAt (W.bind (W.mono (hes A env P O vm s ρ ds pos hA F hds) fun vs s₁ ⟨X1, r1⟩ => ?_)))
    have hl := r1.length
    have hz' : vs.length ≤ sizeLine := by have := szl; omega
    refine W.of_any (wpAny_newList ⟨X1.trans (Ext.push _ _), _, vs.toArray, 0, rfl, X1.size, Heap.get?_push_size _ rfl, by simpa using hz', ?_⟩ hz')
    refine r1.mono (fun a o _ e => Heap.get?_push_of_some _ e) fun a ha => ha.imp id fun e => ?_
    rw [e]; exact get_none (Nat.le_refl _)
  · cases h
theorem se_tup {es : List PySem.Expr} {k : Nat} {pos : Pos} {f : Rho → Option (List D)} (hes : SEs J es f) : SE J (.Tuple es k pos) (tupE f) := fun A env P O vm s ρ d hA F h => by
  unfold tupE at h
  rw [Option.bind_eq_some_iff] at h
  obtain ⟨ds, hds, h⟩ := h
  split at h
  · rename_i hz
    cases h
    show W _ _ A (do standAt pos; newTuple (← spliced (backTo pos (starEach es env)))) _ s
    refine W.bind (W.standAt (W.bind (W.mono (hes A env P O vm s ρ ds pos hA F hds) fun vs s₁ ⟨X1, r1⟩ => ?_)))
    have hl := r1.length
    have hz' : vs.length ≤ sizeLine := by have := szl; omega
    refine W.of_any (wpAny_newTuple ⟨X1.trans (Ext.push _ _), ?_⟩ hz')
    rw [Rd]
    refine ⟨_, vs.toArray, 0, rfl, Heap.get?_push_size _ rfl, (F.ext X1).new (Nat.le_refl _), by simpa using hz', ?_⟩
    exact r1.keep fun a o e => Heap.get?_push_of_some _ e
  · cases h
end

/-! subscripts -/
noncomputable def opItem : D → D → Option D
  | .str l, .int i => (seqIndex? i l.length).bind fun k => (l[k]?).map fun c => .str [c]
  | .list xs, .int i => (seqIndex? i xs.length).bind (xs[·]?)
  | .tup xs, .int i => (seqIndex? i xs.length).bind (xs[·]?)
  | _, _ => none
theorem seqIndex_bound {i : Int} {n k : Nat} (h : seqIndex? i n = some k) : -(n : Int) ≤ i ∧ i < n ∧ k = (if i < 0 then i + n else i).toNat ∧ k < n := by
  unfold seqIndex? at h
  dsimp only at h
  by_cases hi : i < 0
  · rw [if_pos hi] at h ⊢
    split at h
    · rename_i hc
      rw [Bool.and_eq_true, decide_eq_true_eq, decide_eq_true_eq] at hc
      cases h
      exact ⟨by omega, by omega, rfl, by omega⟩
    · cases h
  · rw [if_neg hi] at h ⊢
    split at h
    · rename_i hc
      rw [Bool.and_eq_true, decide_eq_true_eq, decide_eq_true_eq] at hc
      cases h
      exact ⟨by omega, by omega, rfl, by omega⟩
    · cases h

/-- one item -/
theorem item_ok {cx : Cx} {A : Around} {V : Avd} {s : Shared} {a b r : D} {x y : Value} {value slice : PySem.Expr} (ra : Rd cx s.heap V a x) (rb : Rd cx s.heap V b y) (h : opItem a b = some r)
    (hs : subscripted slice false x y = operate [x, y] (getItem x y)) : W cx.prog cx.w A (subscriptTail value slice x y) (fun v s' => Ext s s' ∧ Rd cx s'.heap V r v) s := by
  have hsz := szl
  unfold opItem at h
  split at h
  · rename_i l i
    rw [Rd] at ra
    rw [Rd] at rb
    obtain ⟨t, rfl, h1, h2⟩ := ra
    obtain ⟨u, rfl⟩ := rb
    rw [Option.bind_eq_some_iff] at h
    obtain ⟨k, hk, h⟩ := h
    rw [Option.map_eq_some_iff] at h
    obtain ⟨c, hc, rfl⟩ := h
    obtain ⟨b1, b2, b3, b4⟩ := seqIndex_bound hk
    refine W.of_any (tail_any (typeIs_str s _ t) slot_str_getitem.lookup (getItem_str (c := c) ?_ ?_ ⟨Ext.toks _, ?_⟩) hs)
    · simp only [Bool.or_eq_false_iff, decide_eq_false_iff_not]; constructor <;> omega
    · rw [str_len, hk]; simp [hc]
    · exact rd_str (fun c' hc' => by simp at hc'; subst hc'; exact h1 _ (List.mem_of_getElem? hc)) (by have := szl; simp; omega)
  · rename_i xs i
    rw [Rd] at ra
    rw [Rd] at rb
    obtain ⟨p, vs, n, rfl, ho, _, hz, ra⟩ := ra
    obtain ⟨u, rfl⟩ := rb
    rw [Option.bind_eq_some_iff] at h
    obtain ⟨k, hk, h⟩ := h
    obtain ⟨b1, b2, b3, b4⟩ := seqIndex_bound hk
    obtain ⟨v, hv, r⟩ := ra.get h
    have hl := ra.length
    rw [Array.length_toList] at hl
    have hv' : vs[k]? = some v := by rw [← Array.getElem?_toList]; exact hv
    have hlist : s.heap.IsList p vs := ⟨_, ho, rfl, n, rfl⟩
    by_cases hi : i < 0
    · rw [if_pos hi] at b3
      refine W.of_any (tail_any hlist.typeIs F.slot_list_getitem.lookup (wpAny_getItem_list_neg hlist hi (by omega) (by omega) (x := v) ?_ ⟨Ext.refl _, r⟩) hs)
      rw [show (i + (vs.size : Int)).toNat = k by rw [b3, hl]]; exact hv'
    · rw [if_neg hi] at b3
      refine W.of_any (tail_any hlist.typeIs F.slot_list_getitem.lookup (wpAny_getItem_list hlist (by omega) (by omega) (x := v) ?_ ⟨Ext.refl _, r⟩) hs)
      rw [← b3]; exact hv'
  · rename_i xs i
    rw [Rd] at ra
    rw [Rd] at rb
    obtain ⟨p, vs, n, rfl, ho, _, hz, ra⟩ := ra
    obtain ⟨u, rfl⟩ := rb
    rw [Option.bind_eq_some_iff] at h
    obtain ⟨k, hk, h⟩ := h
    obtain ⟨b1, b2, b3, b4⟩ := seqIndex_bound hk
    obtain ⟨v, hv, r⟩ := ra.get h
    have hl := ra.length
    rw [Array.length_toList] at hl
    have hv' : vs[k]? = some v := by rw [← Array.getElem?_toList]; exact hv
    exact W.of_any (tail_any (T := "tuple") ⟨_, ho, rfl⟩ F.slot_tuple_getitem.lookup (P.getItem_tuple ho (by omega) (by omega) (by rw [hl]; exact hk) hv' ⟨Ext.refl _, r⟩) hs)
  · cases h

noncomputable def notSlice : PySem.Expr → Bool
  | .Slice .. => false
  | _ => true
noncomputable def itemE (f g : Rho → Option D) : Rho → Option D := binE opItem f g
section
variable {J : Jd}
theorem subscript_split {value slice : PySem.Expr} {pos : Pos} {env : Env} : eval (.Subscript value slice pos) env = (do
    let o ← eval value env
    let i ← holding [o] (eval slice env)
    standAt pos
    subscriptTail value slice o i) := rfl
theorem se_item {value slice : PySem.Expr} {pos : Pos} {f g : Rho → Option D} (hv : SE J value f) (hi : SE J slice g) (hs : notSlice slice = true := by rfl) : SE J (.Subscript value slice pos) (itemE f g) := fun A env P O vm s ρ d hA F h => by
  unfold itemE binE at h
  rw [Option.bind_eq_some_iff] at h
  obtain ⟨a, ha, h⟩ := h
  rw [Option.bind_eq_some_iff] at h
  obtain ⟨b, hb, h⟩ := h
  rw [subscript_split]
  refine W.bind (W.mono (hv A env P O vm s ρ a hA F ha) fun x s₁ ⟨X1, r1⟩ => W.bind (W.holding (W.mono (hi A env P O vm s₁ ρ b hA (F.ext X1) hb) fun y s₂ ⟨X2, r2⟩ => W.bind (W.standAt ?_))))
  refine W.mono (item_ok (r1.keep X2.keep) r2 h ?_) fun v s₃ ⟨X3, r3⟩ => ⟨X1.trans (X2.trans X3), r3⟩
  cases slice <;> first | rfl | cases hs
end

/-! slices -/
noncomputable def cut {α : Type} (l : List α) (lo hi : Option Int) : List α := (l.drop (lo.elim 0 (clipAt l.length))).take (hi.elim l.length (clipAt l.length) - lo.elim 0 (clipAt l.length))
noncomputable def opCut (lo hi : Option Int) : D → Option D
  | .str l => some (.str (cut l lo hi))
  | .list xs => some (.list (cut xs lo hi))
  | _ => none
noncomputable def PartV : Option Int → Value → Prop
  | none, v => v = .none
  | some i, v => ∃ t, v = .int i t
noncomputable def SP (J : Jd) (e : Option PySem.Expr) (f : Rho → Option (Option Int)) : Prop :=
  ∀ (A : Around) (env : Env) (P : Avd) (O : Nat → Option Addr) (vm : Str → Option Value) (s : Shared) (ρ : Rho) (d : Option Int), Room A J.k → FrV J.cx J.sc J.tab env P O vm s ρ → f ρ = some d →
    W J.cx.prog J.cx.w A (valueOrNone (evalOpt e env)) (fun v s' => Ext s s' ∧ PartV d v) s
noncomputable def noP : Rho → Option (Option Int) := fun _ => some none
noncomputable def intP (f : Rho → Option D) : Rho → Option (Option Int) := fun ρ => (f ρ).bind fun d => match d with | .int i => some (some i) | _ => none
section
variable {J : Jd}
theorem sp_none : SP J none noP := fun A env P O vm s ρ d hA F h => by
  cases h; exact W.pure ⟨Ext.refl _, rfl⟩
theorem sp_some {e : PySem.Expr} {f : Rho → Option D} (he : SE J e f) : SP J (some e) (intP f) := fun A env P O vm s ρ d hA F h => by
  unfold intP at h
  rw [Option.bind_eq_some_iff] at h
  obtain ⟨a, ha, h⟩ := h
  split at h
  · cases h
    refine W.mono (he A env P O vm s ρ _ hA F ha) fun v s₁ ⟨X, r⟩ => ⟨X, ?_⟩
    rw [Rd] at r; exact r
  · cases h
theorem partV_isPart {d : Option Int} {v : Value} (h : PartV d v) : IsPart v d := by
  cases d with
  | none => cases h; exact .none
  | some i => obtain ⟨t, rfl⟩ := h; exact .int i t
theorem partV_value {d : Option Int} {v : Value} (h : PartV d v) : ∃ p : Option (Int × Tok), v = partValue p ∧ p.map (·.1) = d := by
  cases d with
  | none => cases h; exact ⟨none, rfl, rfl⟩
  | some i => obtain ⟨t, rfl⟩ := h; exact ⟨some (i, t), rfl, rfl⟩
theorem strSlice_plain (l : List Nat) (lo hi : Option Int) : (Builtin.Str.strSliceIndices lo hi 1 l.length).filterMap (l[·]?) = cut l lo hi := by
  have h1 : Builtin.Str.strSliceIndices lo hi 1 l.length = sliceRange (((lo.elim 0 (clipAt l.length) : Nat) : Int)) ((hi.elim l.length (clipAt l.length) : Nat) : Int) 1 := by
    cases lo <;> cases hi <;> simp [Builtin.Str.strSliceIndices, clipAt_cast]
  rw [h1, sliceRange_one]
  have := pick_run l.toArray (lo.elim 0 (clipAt l.length)) (hi.elim l.length (clipAt l.length) - lo.elim 0 (clipAt l.length))
  simpa [cut] using this
theorem mem_cut {α : Type} {l : List α} {lo hi : Option Int} {c : α} (h : c ∈ cut l lo hi) : c ∈ l := List.mem_of_mem_drop (List.mem_of_mem_take h)
theorem cut_le {α : Type} (l : List α) (lo hi : Option Int) : (cut l lo hi).length ≤ l.length := by
  unfold cut; rw [List.length_take, List.length_drop]; omega

noncomputable def cutE (f : Rho → Option D) (lo hi : Rho → Option (Option Int)) : Rho → Option D := fun ρ => (f ρ).bind fun a => (lo ρ).bind fun i => (hi ρ).bind fun j => opCut i j a

theorem cut_ok {cx : Cx} {A : Around} {V : Avd} {s : Shared} {a r : D} {x vl vu : Value} {lo hi : Option Int} {value : PySem.Expr} {l u : Option PySem.Expr} {p : Pos} {sl : Addr} (hV : ∀ p, V p → p < s.heap.objs.size) (ra : Rd cx s.heap V a x) (pl : PartV lo vl) (pu : PartV hi vu)
    (hsl : s.heap.get? sl = some { cls := .type "slice", data := .fields #[vl, vu, .none] }) (h : opCut lo hi a = some r) :
    W cx.prog cx.w A (subscriptTail value (.Slice l u none p) x (.ref sl)) (fun v s' => Ext s s' ∧ Rd cx s'.heap V r v) s := by
  unfold opCut at h
  split at h
  · rename_i l'
    cases h
    rw [Rd] at ra
    obtain ⟨t, rfl, h1, h2⟩ := ra
    obtain ⟨p1, rfl, e1⟩ := partV_value pl
    obtain ⟨p2, rfl, e2⟩ := partV_value pu
    refine W.of_any (tail_any (ops := [.ref sl, .str ⟨l'.toArray⟩ t]) (typeIs_str s _ t) slot_str_getitem.lookup (wpAny_getItem_str_slice (l := p1) (u := p2) (st := none) ⟨_, hsl, rfl, rfl⟩ rfl ?_) rfl)
    have hp : slicePicked ⟨l'.toArray⟩ p1 p2 none = Builtin.Str.strSliceIndices lo hi 1 l'.length := by
      unfold slicePicked; rw [e1, e2, str_len]; rfl
    unfold sliceMade
    rw [hp]
    have hget : ((Builtin.Str.strSliceIndices lo hi 1 l'.length).filterMap ((⟨l'.toArray⟩ : Str).cps[·]?)) = cut l' lo hi := by
      rw [← strSlice_plain]; simp
    have hr : ∀ t', Rd cx s.heap V (.str (cut l' lo hi)) (.str ⟨(cut l' lo hi).toArray⟩ t') := fun t' => rd_str (fun c hc => h1 c (mem_cut hc)) (Nat.le_trans (cut_le _ _ _) h2)
    split
    · rename_i hc
      rw [Bool.and_eq_true] at hc
      have hlen : (Builtin.Str.strSliceIndices lo hi 1 l'.length).length = l'.length := by have := hc.2; rw [str_len] at this; simpa using this
      have hcut : cut l' lo hi = l' := by
        have h1 : (Builtin.Str.strSliceIndices lo hi 1 l'.length) = sliceRange (((lo.elim 0 (clipAt l'.length) : Nat) : Int)) ((hi.elim l'.length (clipAt l'.length) : Nat) : Int) 1 := by
          cases lo <;> cases hi <;> simp [Builtin.Str.strSliceIndices, clipAt_cast]
        rw [h1, sliceRange_one] at hlen
        simp only [List.length_map, List.length_range] at hlen
        unfold cut
        generalize lo.elim 0 (clipAt l'.length) = i at *
        have hj : hi.elim l'.length (clipAt l'.length) ≤ l'.length := by
          cases hi with
          | none => exact Nat.le_refl _
          | some j => simp only [Option.elim]; have := clipAt_cast l'.length j; omega
        generalize hi.elim l'.length (clipAt l'.length) = j at *
        rcases Nat.eq_zero_or_pos l'.length with h0 | h0
        · have : l' = [] := List.length_eq_zero_iff.mp h0
          subst this; simp
        · have : i = 0 := by omega
          subst this
          rw [List.drop_zero, List.take_of_length_le (by omega)]
      exact ⟨Ext.refl _, by have := hr t; rw [hcut] at this ⊢; exact this⟩
    · rw [hget]
      exact ⟨by rw [str_len]; exact Nat.le_trans (cut_le _ _ _) h2, Ext.toks _, hr _⟩
  · rename_i xs
    cases h
    rw [Rd] at ra
    obtain ⟨q, vs, n, rfl, ho, _, hz, ra⟩ := ra
    have hlist : s.heap.IsList q vs := ⟨_, ho, rfl, n, rfl⟩
    refine W.of_any (tail_any (ops := [.ref sl, .ref q]) hlist.typeIs F.slot_list_getitem.lookup (wpAny_getItem_list_slice hlist ⟨_, hsl, rfl, rfl⟩ (partV_isPart pl) (partV_isPart pu) .none (by intro x; cases x) ⟨Ext.push _ _, ?_⟩ hz) rfl)
    have hl := ra.length
    rw [Array.length_toList] at hl
    rw [Rd]
    refine ⟨_, _, 0, rfl, Heap.get?_push_size _ rfl, fun hp => Nat.lt_irrefl _ (hV _ hp), Nat.le_trans (slicePick_size_le _ _ _ _) hz, ?_⟩
    rw [slicePick_plain, hl]
    exact ((ra.drop _).take _).keep fun _ _ e => Heap.get?_push_of_some _ e
  · cases h

theorem se_cut {value : PySem.Expr} {l u : Option PySem.Expr} {p pos : Pos} {f : Rho → Option D} {lo hi : Rho → Option (Option Int)} (hv : SE J value f) (hl : SP J l lo) (hu : SP J u hi) : SE J (.Subscript value (.Slice l u none p) pos) (cutE f lo hi) := fun A env P O vm s ρ d hA F h => by
  unfold cutE at h
  rw [Option.bind_eq_some_iff] at h
  obtain ⟨a, ha, h⟩ := h
  rw [Option.bind_eq_some_iff] at h
  obtain ⟨i, hi', h⟩ := h
  rw [Option.bind_eq_some_iff] at h
  obtain ⟨j, hj, h⟩ := h
  rw [subscript_split]
  refine W.bind (W.mono (hv A env P O vm s ρ a hA F ha) fun x s₁ ⟨X1, r1⟩ => W.bind (W.holding ?_))
  show W _ _ A (do let l' ← valueOrNone (evalOpt l env); let u' ← holding [l'] (valueOrNone (evalOpt u env)); let st ← holding [l', u'] (valueOrNone (evalOpt none env)); newFields "slice" [l', u', st]) _ s₁
  refine W.bind (W.mono (hl A env P O vm s₁ ρ i hA (F.ext X1) hi') fun vl s₂ ⟨X2, p2⟩ => W.bind (W.holding (W.mono (hu A env P O vm s₂ ρ j hA (F.ext (X1.trans X2)) hj) fun vu s₃ ⟨X3, p3⟩ => W.bind (W.holding (W.pure ?_)))))
  refine W.of_any (wpAny_newObj_type ?_ (by show (#[vl, vu, Value.none] : Array Value).size ≤ _; have := szl; simp; omega))
  refine W.bind (W.standAt ?_)
  have X := X1.trans (X2.trans (X3.trans (Ext.push (s := s₃) { cls := .type "slice", data := .fields #[vl, vu, .none] } s₃.toks)))
  refine W.mono (cut_ok (fun q hq => (F.ext X).avLt hq) (((r1.keep X2.keep).keep X3.keep).keep fun _ _ e => Heap.get?_push_of_some _ e) p2 p3 (Heap.get?_push_size _ rfl) h) fun v s₄ ⟨X4, r4⟩ => ⟨X.trans X4, r4⟩
end
end Mine

end
section
open PySem PySem.W PySem.Calls PyProof.Rows
set_option Elab.async false
set_option maxRecDepth 100000
namespace Mine

/-! calls -/
noncomputable def KeepOk (f : Value) (h : Heap) : Prop := (∃ a o fd, f = .ref a ∧ h.get? a = some o ∧ o.data = .func fd) ∨ ∀ a, f ≠ .ref a

theorem backTo_plain (pos : Pos) (env : Env) : ∀ {es : List PySem.Expr}, es.any isStarred = false → (backTo pos (starEach es env)).any (·.1) = false ∧ (backTo pos (starEach es env)).length = es.length
  | [], _ => ⟨rfl, rfl⟩
  | e :: es, h => by
    rw [List.any_cons, Bool.or_eq_false_iff] at h
    have e1 : backTo pos (starEach (e :: es) env) = (false, eval e env) :: backTo pos (starEach es env) := by
      cases e <;> first | rfl | cases h.1
    have ih := backTo_plain pos env h.2
    rw [e1]
    exact ⟨by rw [List.any_cons, ih.1]; rfl, by rw [List.length_cons, List.length_cons, ih.2]⟩

section
variable {prog : Program} {w : World} {A : Around} {s : Shared}
theorem evalArgs_ok {f : Value} {args : List (Bool × Sem Value)} {Q : Args → Shared → Prop} (hs : args.any (·.1) = false) (h : W prog w A (spliced args) (fun vs s' => Q ⟨vs, []⟩ s') s) : W prog w A (evalArgs f true args []) Q s := by
  have e : evalArgs f true args [] = (spliced args >>= fun pos => holding (pos ++ (Option.none : Option Value).toList) (do
      let kw := (([] : List (Option Str × Sem Value)).filterMap (·.1)).zip (← evalAll (([] : List (Option Str × Sem Value)).map (·.2)))
      return ⟨← (pure pos : Sem (List Value)), kw⟩)) := by
    unfold evalArgs
    cases args with
    | nil => simp
    | cons x rest =>
      obtain ⟨b, t⟩ := x
      cases b with
      | true => simp at hs
      | false => simp
  rw [e]
  exact W.bind (W.mono h fun vs s' h' => W.holding (W.bind (W.pure (W.bind (W.pure (W.pure h'))))))

theorem callWith_ok {pos : Pos} {f : Value} {first : List Value} {args : List (Bool × Sem Value)} {Q : Value → Shared → Prop} (hs : args.any (·.1) = false) (hl : args.length ≤ 30)
    (h : W prog w A (spliced args) (fun vs s₁ => KeepOk f s₁.heap ∧ W prog w A (PySem.call f (first ++ vs)) Q s₁) s) : W prog w A (callWith pos f first args []) Q s := by
  unfold callWith
  refine W.bind (W.holding (evalArgs_ok hs (W.mono h fun vs s₁ ⟨hk, h₁⟩ => W.bind (W.standAt ?_))))
  have hfin : ∀ {t : Sem Value}, W prog w A t Q s₁ → W prog w A (t >>= fun r => do holding [r] point; pure r) Q s₁ := fun ht =>
    W.bind (W.mono ht fun r s₂ hr => W.bind (W.holding (W.point (W.pure hr))))
  rcases hk with ⟨a, o, fd, rfl, ho, hd⟩ | hk
  · refine W.bind (m := keeperOf (.ref a)) ?_
    have hko : W prog w A (keeperOf (.ref a)) (fun k s' => k = .frame ∧ s' = s₁) s₁ := by
      refine W.of_any ?_
      unfold keeperOf
      refine wpAny_bind (wpAny_load ho ?_)
      rw [hd]
      exact wpAny_pure ⟨rfl, rfl⟩
    refine W.mono hko fun k s' ⟨e1, e2⟩ => ?_
    subst e1 e2
    simp only [hs, List.any_nil, Bool.or_false]
    rw [if_neg (by simp; omega)]
    refine hfin ?_
    unfold callMarked
    exact W.keep h₁
  · have hko : keeperOf f = pure .machine := by
      unfold keeperOf
      cases f <;> first | rfl | exact absurd rfl (hk _)
    rw [hko]
    refine W.bind (W.pure ?_)
    simp only [hs, List.any_nil, Bool.or_false]
    exact hfin h₁
end

noncomputable def Base (cx : Cx) (h : Heap) : Prop := cx.h₁.objs.size ≤ h.objs.size ∧ ∀ a o, cx.h₁.get? a = some o → h.get? a = some o
theorem FrV.baseOf {cx : Cx} {sc : Scope} {tab : List (Option Str)} {env : Env} {P : Avd} {O : Nat → Option Addr} {vm : Str → Option Value} {s : Shared} {ρ : List Slot} (F : FrV cx sc tab env P O vm s ρ) : Base cx s.heap :=
  ⟨have x := F.fresh env.locals (.inr (.inl rfl)); Nat.le_of_lt (Nat.lt_of_le_of_lt x.1 x.2), F.base⟩
/-- what a call of fv on data gives -/
noncomputable def Con (cx : Cx) (k : Nat) (fv : Value) (F : List D → Option D) : Prop :=
  ∀ (A : Around) (V : Avd) (s : Shared) (ds : List D) (vs : List Value) (r : D), Room A k → (∀ p, V p → p < s.heap.objs.size) → Base cx s.heap → RdAll cx s.heap V ds vs → F ds = some r →
    W cx.prog cx.w A (PySem.call fv vs) (fun v s' => Ext s s' ∧ Rd cx s'.heap V r v) s
noncomputable def callE (F : List D → Option D) (g : Rho → Option (List D)) : Rho → Option D := fun ρ => (g ρ).bind F

theorem Room.le {A : Around} {k k' : Nat} (h : Room A k) (hk : k' ≤ k) : Room A k' := ⟨h.1, by have := h.2.1; omega, by have := h.2.2; omega⟩

section
variable {J : Jd}
theorem se_call {fn : Str} {fv : Value} {p pos : Pos} {es : List PySem.Expr} {F : List D → Option D} {g : Rho → Option (List D)} {k : Nat} (hc : Con J.cx k fv F) (hes : SEs J es g)
    (hv : (J.cx.mg fn).or (J.cx.mb fn) = some fv) (hkeep : KeepOk fv J.cx.h₁) (hk : k ≤ J.k := by decide)
    (hl : J.sc.names.lookup fn = some .globalImplicit := by rfl) (hst : es.any isStarred = false := by rfl) (hlen : es.length ≤ 30 := by decide) (hdb : (fn == ("__debug__" : Str)) = false := by decide) :
    SE J (.Call (.Name fn p) es [] pos) (callE F g) := fun A env P O vm s ρ d hA Fr h => by
  unfold callE at h
  rw [Option.bind_eq_some_iff] at h
  obtain ⟨ds, hds, h⟩ := h
  show W _ _ A (do callWith pos (← eval (.Name fn p) env) [] (backTo pos (starEach es env)) []) _ s
  rw [eval_Name env fn p hdb]
  refine W.bind (W.bind (W.standAt (Fr.glob_ hl hv ?_)))
  have hb := backTo_plain pos env hst
  refine callWith_ok hb.1 (by rw [hb.2]; exact hlen) (W.mono (hes A env P O vm s ρ ds pos hA Fr hds) fun vs s₁ ⟨X1, r1⟩ => ⟨?_, ?_⟩)
  · rcases hkeep with ⟨a, o, fd, e, ho, hd⟩ | hk
    · exact .inl ⟨a, o, fd, e, (Fr.ext X1).base a o ho, hd⟩
    · exact .inr hk
  · exact W.mono (hc A (Av env P O) s₁ ds vs d (hA.le hk) (fun q hq => (Fr.ext X1).avLt hq) (Fr.ext X1).baseOf r1 h) fun v s₂ ⟨X2, r2⟩ => ⟨X1.trans X2, r2⟩
end

/-! built-in functions -/
noncomputable def chrF : List D → Option D
  | [.int i] => if 0 ≤ i ∧ i < 1114112 then some (.str [i.toNat]) else none
  | _ => none
theorem con_chr {cx : Cx} {k : Nat} : Con cx k (.builtin "chr") chrF := fun A V s ds vs r hA hV hb ra h => by
  have hsz := szl
  unfold chrF at h
  split at h
  · split at h
    · rename_i hi
      cases h
      rw [RdAll] at ra; obtain ⟨v, l, rfl, ra, rb⟩ := ra
      rw [RdAll] at rb; subst rb
      rw [Rd] at ra; obtain ⟨t, rfl⟩ := ra
      refine W.of_any (chr_of_range hi.1 (by omega) ⟨Ext.toks _, rd_str (fun c hc => ?_) (by simp; omega)⟩)
      simp at hc; subst hc; omega
    · cases h
  · cases h
end Mine

end
section
open PySem PySem.W PySem.Calls PyProof.Rows
set_option Elab.async false
set_option maxRecDepth 100000
namespace Mine

/-! the heap only grows -/
theorem runs_size {M : Model} {Γ : Ctx} {p : Pos} {t : Sem Fin} {fs : List Frame} {s s' : Shared} {e : End} (h : Runs M Γ p t fs s e s') : s.heap.objs.size ≤ s'.heap.objs.size := by
  induction h <;> (try simp only [Shared.setGen, Heap.size_push, Heap.size_after_update] at *) <;> omega
theorem wakes_size {M : Model} {Γ : Ctx} {p : Pos} {g : Nat} {r : Resume} {s s' : Shared} {res : GenResult} (h : Wakes M Γ p g r s res s') : s.heap.objs.size ≤ s'.heap.objs.size := by
  unfold Wakes at h
  split at h
  · exact h.elim
  · split at h
    · obtain ⟨e₁, s₁, hr, _, _, rfl⟩ := h; exact (runs_size hr : (s.setGen g .running).heap.objs.size ≤ s₁.heap.objs.size)
    · rw [h.2]; exact Nat.le_refl _
    · rw [h.2]; exact Nat.le_refl _
  · obtain ⟨e₁, s₁, hr, _, _, rfl⟩ := h; exact (runs_size hr : (s.setGen g .running).heap.objs.size ≤ s₁.heap.objs.size)
  · rw [h.2]; exact Nat.le_refl _
  · rw [h.2]; exact Nat.le_refl _
theorem wp_size {α : Type} (M : Model) (Γ : Ctx) (n : Nat) (t : Sem α) : ∀ (Q : α → Pos → Shared → Prop) (E : Value → Pos → Shared → Prop) (p : Pos) (s : Shared), n ≤ s.heap.objs.size → Sem.wp M Γ t Q E p s →
    Sem.wp M Γ t (fun a p' s' => n ≤ s'.heap.objs.size ∧ Q a p' s') E p s := by
  induction t with
  | pure a => intro Q E p s hn h; exact ⟨hn, h⟩
  | raise e => intro Q E p s hn h; exact h
  | unsupported _ => intro Q E p s _ h; exact h
  | finish _ => intro Q E p s _ h; exact h
  | rule _ k ih => intro Q E p s hn h; exact ih () Q E p s hn h
  | «at» p' k ih => intro Q E p s hn h; exact ih () Q E p' s hn h
  | load a _ k ih => intro Q E p s hn h; obtain ⟨o, ho, h⟩ := h; exact ⟨o, ho, ih o Q E p s hn h⟩
  | update a _ f k ih => intro Q E p s hn h; exact ⟨h.1, ih () Q E p _ (by show n ≤ (s.heap.update a f).objs.size; rw [Heap.size_after_update]; exact hn) h.2⟩
  | loadIfAlive a k ih => intro Q E p s hn h; exact ih _ Q E p s hn h
  | point _ k ih => intro Q E p s hn h; exact ih () Q E p s hn h
  | register _ _ => intro Q E p s _ h; exact h
  | alloc o k ih => intro Q E p s hn h; exact ih _ Q E p _ (by show n ≤ (s.heap.push o).objs.size; rw [Heap.size_push]; exact Nat.le_succ_of_le hn) h
  | fresh k ih => intro Q E p s hn h; exact ih _ Q E p { s with toks := s.toks + 1 } hn h
  | ask k ih => intro Q E p s hn h; exact ih _ Q E p s hn h
  | choose src m k ih => intro Q E p s hn h; exact ⟨h.1, ih _ Q E p _ hn h.2⟩
  | os q _ k ih => intro Q E p s hn h; exact ih _ Q E p _ hn h
  | call c hd _ _ k ih => intro Q E p s hn h; obtain ⟨r, s', hr, h⟩ := h; exact ⟨r, s', hr, ih r Q E p s' (Nat.le_trans hn (runs_size hr)) h⟩
  | handled own k ih => intro Q E p s hn h; exact ih _ Q E p s hn h
  | genState g k ih => intro Q E p s hn h; obtain ⟨st, hs, h⟩ := h; exact ⟨st, hs, ih _ Q E p s hn h⟩
  | newGen c k ih => intro Q E p s hn h; exact ih _ Q E p _ hn h
  | resume g r _ k ih => intro Q E p s hn h; obtain ⟨res, s', hw, h⟩ := h; exact ⟨res, s', hw, ih res Q E p s' (Nat.le_trans hn (wakes_size hw)) h⟩
  | yield _ _ _ _ => intro Q E p s _ h; exact h
  | stack k ih => intro Q E p s hn h; exact ih _ Q E p s hn h
  | fork _ _ => intro Q E p s _ h; exact h
  | thread k ih => intro Q E p s hn h; exact ih _ Q E p s hn h
  | await _ _ _ _ _ => intro Q E p s _ h; exact h

section
variable {α : Type} {prog : Program} {w : World} {A : Around} {s : Shared}
theorem W.size {t : Sem α} {Q : α → Shared → Prop} (h : W prog w A t Q s) : W prog w A t (fun a s' => s.heap.objs.size ≤ s'.heap.objs.size ∧ Q a s') s :=
  fun ht Γ p hΓ hc => wp_size _ Γ _ t _ _ p s (Nat.le_refl _) (h ht Γ p hΓ hc)
/-- a leaf whose rule tells the heap's size not at all -/
theorem W.of_anyS {t : Sem α} {Q : α → Shared → Prop} (h : wpAny (model prog w) A t (fun a s' => s.heap.objs.size ≤ s'.heap.objs.size → Q a s') (fun _ _ => False) s) : W prog w A t Q s :=
  W.mono (W.size (W.of_any h)) fun _ _ ⟨h1, h2⟩ => h2 h1
end

/-! statements -/
inductive Out where
  | next
  | ret (d : D)
noncomputable def OutOk (cx : Cx) (h : Heap) (P : Avd) : Out → Flow → Prop
  | .next, f => f = .next
  | .ret d, f => ∃ v, f = .ret v ∧ Rd cx h P d v

noncomputable def Post (J : Jd) (env : Env) (P : Avd) (O : Nat → Option Addr) (s : Shared) (out : Out) (ρ' : Rho) (fl : Flow) (s' : Shared) : Prop :=
  OutOk J.cx s'.heap P out fl ∧ ∃ O' vm', FrV J.cx J.sc J.tab env P O' vm' s' ρ' ∧ Tr env O s O' s'
noncomputable def SS (J : Jd) (st : List Stmt) (f : Rho → Option (Out × Rho)) : Prop :=
  ∀ (A : Around) (env : Env) (P : Avd) (O : Nat → Option Addr) (vm : Str → Option Value) (s : Shared) (ρ : Rho) (out : Out) (ρ' : Rho), Room A J.k → FrV J.cx J.sc J.tab env P O vm s ρ → f ρ = some (out, ρ') →
    W J.cx.prog J.cx.w A (execs st env) (Post J env P O s out ρ') s
noncomputable def S1 (J : Jd) (st : Stmt) (f : Rho → Option (Out × Rho)) : Prop :=
  ∀ (A : Around) (env : Env) (P : Avd) (O : Nat → Option Addr) (vm : Str → Option Value) (s : Shared) (ρ : Rho) (out : Out) (ρ' : Rho), Room A J.k → FrV J.cx J.sc J.tab env P O vm s ρ → f ρ = some (out, ρ') →
    W J.cx.prog J.cx.w A (exec st env) (Post J env P O s out ρ') s
/-- a target -/
noncomputable def SA (J : Jd) (t : PySem.Expr) (g : D → Rho → Option Rho) : Prop :=
  ∀ (A : Around) (env : Env) (P : Avd) (O : Nat → Option Addr) (vm : Str → Option Value) (s : Shared) (ρ : Rho) (d : D) (v : Value) (ρ' : Rho), Room A J.k → FrV J.cx J.sc J.tab env P O vm s ρ → Rd J.cx s.heap (Av env P O) d v → g d ρ = some ρ' →
    W J.cx.prog J.cx.w A (assign t env v) (fun _ s' => ∃ O' vm', FrV J.cx J.sc J.tab env P O' vm' s' ρ' ∧ Tr env O s O' s') s

noncomputable def skS : Rho → Option (Out × Rho) := fun ρ => some (.next, ρ)
noncomputable def seqS (f g : Rho → Option (Out × Rho)) : Rho → Option (Out × Rho) := fun ρ => (f ρ).bind fun x => match x with | (.next, ρ') => g ρ' | (.ret d, ρ') => some (.ret d, ρ')
noncomputable def retS (f : Rho → Option D) : Rho → Option (Out × Rho) := fun ρ => (f ρ).map fun d => (.ret d, ρ)
noncomputable def setS (g : D → Rho → Option Rho) (f : Rho → Option D) : Rho → Option (Out × Rho) := fun ρ => (f ρ).bind fun d => (g d ρ).map fun ρ' => (.next, ρ')
noncomputable def ownS (i : Nat) (f : Rho → Option (List D)) : Rho → Option (Out × Rho) := fun ρ => (f ρ).map fun ds => (.next, ρ.set i (.own ds))
noncomputable def ifS (t : Rho → Option Bool) (f g : Rho → Option (Out × Rho)) : Rho → Option (Out × Rho) := fun ρ => (t ρ).bind fun b => if b then f ρ else g ρ
noncomputable def frzS (i : Nat) (g : Rho → Option (Out × Rho)) : Rho → Option (Out × Rho) := fun ρ => match ρ[i]? with | some (.own xs) => g (ρ.set i (.val (.list xs))) | _ => none
noncomputable def nameA (i : Nat) : D → Rho → Option Rho := fun d ρ => some (ρ.set i (.val d))
noncomputable def setAll : List Nat → List D → Rho → Option Rho
  | [], [], ρ => some ρ
  | i :: is, d :: ds, ρ => setAll is ds (ρ.set i (.val d))
  | _, _, _ => none
noncomputable def tupA (is : List Nat) : D → Rho → Option Rho := fun d ρ => match d with | .tup ds => setAll is ds ρ | _ => none
noncomputable def twoA (g g' : D → Rho → Option Rho) : D → Rho → Option Rho := fun d ρ => (g d ρ).bind (g' d)

section
variable {J : Jd}
theorem ss_nil : SS J [] skS := fun A env P O vm s ρ out ρ' hA F h => by
  cases h
  exact W.pure ⟨rfl, O, vm, F, Tr.refl _ _ _⟩
theorem ss_cons {st : Stmt} {rest : List Stmt} {f g : Rho → Option (Out × Rho)} (h1 : S1 J st f) (h2 : SS J rest g) : SS J (st :: rest) (seqS f g) := fun A env P O vm s ρ out ρ' hA F h => by
  unfold seqS at h
  rw [Option.bind_eq_some_iff] at h
  obtain ⟨⟨o1, ρ1⟩, hf, h⟩ := h
  rw [execs_cons]
  refine W.bind (W.mono (h1 A env P O vm s ρ o1 ρ1 hA F hf) fun fl s₁ ⟨ok, O1, vm1, F1, T1⟩ => ?_)
  cases o1 with
  | next =>
    have : fl = .next := ok
    subst this
    exact W.mono (h2 A env P O1 vm1 s₁ ρ1 out ρ' hA F1 h) fun fl s₂ ⟨ok2, O2, vm2, F2, T2⟩ => ⟨ok2, O2, vm2, F2, T1.trans T2⟩
  | ret d =>
    cases h
    obtain ⟨v, rfl, r⟩ := ok
    exact W.pure ⟨⟨v, rfl, r⟩, O1, vm1, F1, T1⟩
theorem ss_freeze {st : List Stmt} {g : Rho → Option (Out × Rho)} {i : Nat} (h1 : SS J st g) : SS J st (frzS i g) := fun A env P O vm s ρ out ρ' hA F h => by
  unfold frzS at h
  split at h
  · rename_i xs hi
    refine W.mono (h1 A env P (off O i) vm s _ out ρ' hA (F.freeze hi) h) fun fl s₁ ⟨ok, O1, vm1, F1, T1⟩ => ⟨ok, O1, vm1, F1, ⟨T1.gens, T1.os, T1.size, fun a o hn e => T1.keep a o (fun m => hn (m.imp (fun ⟨j, hj⟩ => ⟨j, (off_some hj).2⟩) id)) e, fun j a e => (T1.own j a e).imp (fun ⟨k, hk⟩ => ⟨k, (off_some hk).2⟩) id⟩⟩
  · cases h

theorem s1_return {e : PySem.Expr} {pos : Pos} {f : Rho → Option D} (he : SE J e f) : S1 J (.Return (some e) pos) (retS f) := fun A env P O vm s ρ out ρ' hA F h => by
  unfold retS at h
  rw [Option.map_eq_some_iff] at h
  obtain ⟨d, hd, h⟩ := h
  cases h
  rw [exec_Return_some]
  exact W.bind (W.standAt (W.bind (W.mono (he A env P O vm s ρ d hA F hd) fun v s₁ ⟨X, r⟩ => W.pure ⟨⟨v, rfl, r.weak fun a ha => .inl ha⟩, O, vm, F.ext X, X.tr⟩)))

theorem sa_name {x : Str} {pos : Pos} {i : Nat} (ht : J.tab[i]? = some (some x) := by rfl) (hf : J.sc.names.lookup x ≠ some .free := by decide) : SA J (.Name x pos) (nameA i) := fun A env P O vm s ρ d v ρ' hA F r h => by
  cases h
  show W _ _ A (do standAt pos; bindName env x v) _ s
  refine W.bind (W.standAt ?_)
  unfold bindName
  exact W.bind (W.holding (W.point (W.bind (F.store ht (fun e => hf e) r fun s' F' T' => W.point ⟨_, _, F', T'⟩))))

noncomputable def notComp : PySem.Expr → Bool
  | .ListComp .. | .SetComp .. | .DictComp .. => false
  | _ => true
noncomputable def notTup : PySem.Expr → Bool
  | .Tuple .. => false
  | _ => true
noncomputable def notListT : PySem.Expr → Bool
  | .List .. => false
  | _ => true
theorem swaps_false {value : PySem.Expr} {t : Option PySem.Expr} {line : Nat} {env : Env} (h : notComp value = true) : swapsWith value t line env = pure false := by
  cases value <;> first | rfl | cases h

theorem assignEach_cons (env : Env) {t : PySem.Expr} {rest : List PySem.Expr} (h : isStarred t = false) : assignEach (t :: rest) env = (false, assign t env) :: assignEach rest env := by
  cases t <;> first | rfl | (cases h; done)
theorem s1_assign {t value : PySem.Expr} {pos : Pos} {f : Rho → Option D} {g : D → Rho → Option Rho} (ht : SA J t g) (hv : SE J value f) (hc : notComp value = true := by rfl) (hn : (notTup value || notTup t) = true := by rfl)
    (hst : isStarred t = false := by rfl) (hl : notListT t = true := by rfl) : S1 J (.Assign [t] value pos) (setS g f) := fun A env P O vm s ρ out ρ' hA F h => by
  unfold setS at h
  rw [Option.bind_eq_some_iff] at h
  obtain ⟨d, hd, h⟩ := h
  rw [Option.map_eq_some_iff] at h
  obtain ⟨ρ1, hg, h⟩ := h
  cases h
  have hsw : swappedStores [t] value env = pure none := by
    unfold swappedStores
    cases t <;> first | rfl | (cases hl; done) | skip
    all_goals (cases value <;> first | rfl | (cases hn; done))
  have hae : (assignEach [t] env).map (·.2) = [assign t env] := by rw [assignEach_cons env hst]; rfl
  show W _ _ A (do
    standAt pos
    if ← swapsWithSole [t] value pos.line env then do
      evalThenUse value env fun v => assignAll v ((assignEach [t] env).map (·.2))
      pure Flow.next
    else do
      let v ← eval value env
      assignStores env v (← swappedStores [t] value env) ((assignEach [t] env).map (·.2))) _ s
  rw [show swapsWithSole [t] value pos.line env = pure false from swaps_false hc, hsw, hae]
  refine W.bind (W.standAt (W.bind (W.pure ?_)))
  rw [if_neg Bool.false_ne_true]
  refine W.bind (W.mono (hv A env P O vm s ρ d hA F hd) fun v s₁ ⟨X, r⟩ => W.bind (W.pure ?_))
  show W _ _ A (do assignAll v [assign t env]; pure Flow.next) _ s₁
  refine W.bind (W.mono (ht A env P O vm s₁ ρ d v ρ' hA (F.ext X) r hg) fun _ s₂ ⟨O', vm', F', T'⟩ => W.pure ⟨rfl, O', vm', F', X.tr.trans T'⟩)

theorem s1_assign2 {t t' value : PySem.Expr} {pos : Pos} {f : Rho → Option D} {g g' : D → Rho → Option Rho} (ht : SA J t g) (ht' : SA J t' g') (hv : SE J value f)
    (hst : (isStarred t || isStarred t') = false := by rfl) : S1 J (.Assign [t, t'] value pos) (setS (twoA g g') f) := fun A env P O vm s ρ out ρ' hA F h => by
  unfold setS twoA at h
  rw [Option.bind_eq_some_iff] at h
  obtain ⟨d, hd, h⟩ := h
  rw [Option.map_eq_some_iff] at h
  obtain ⟨ρ1, hg, h⟩ := h
  cases h
  rw [Option.bind_eq_some_iff] at hg
  obtain ⟨ρ2, hg, hg'⟩ := hg
  rw [Bool.or_eq_false_iff] at hst
  have hae : (assignEach [t, t'] env).map (·.2) = [assign t env, assign t' env] := by
    rw [assignEach_cons env hst.1, assignEach_cons env hst.2]; rfl
  show W _ _ A (do
    standAt pos
    if ← swapsWithSole [t, t'] value pos.line env then do
      evalThenUse value env fun v => assignAll v ((assignEach [t, t'] env).map (·.2))
      pure Flow.next
    else do
      let v ← eval value env
      assignStores env v (← swappedStores [t, t'] value env) ((assignEach [t, t'] env).map (·.2))) _ s
  have hsw : swappedStores [t, t'] value env = pure none := by
    unfold swappedStores
    cases t <;> rfl
  rw [hae, hsw, show swapsWithSole [t, t'] value pos.line env = pure false from rfl]
  refine W.bind (W.standAt (W.bind (W.pure ?_)))
  rw [if_neg Bool.false_ne_true]
  refine W.bind (W.mono (hv A env P O vm s ρ d hA F hd) fun v s₁ ⟨X, r⟩ => W.bind (W.pure ?_))
  show W _ _ A (do (do holding [v] (assign t env v); assign t' env v); pure Flow.next) _ s₁
  refine W.bind (W.bind (W.holding (W.mono (ht A env P O vm s₁ ρ d v ρ2 hA (F.ext X) r hg) fun _ s₂ ⟨O', vm', F', T'⟩ => ?_)))
  refine W.mono (ht' A env P O' vm' s₂ ρ2 d v ρ' hA F' ((F.ext X).rdTr T' r) hg') fun _ s₃ ⟨O'', vm'', F'', T''⟩ => W.pure ⟨rfl, O'', vm'', F'', X.tr.trans (T'.trans T'')⟩

theorem s1_own {x : Str} {p pos : Pos} {value : PySem.Expr} {i : Nat} {f : Rho → Option (List D)} (hv : SEF J value f) (hc : notComp value = true := by rfl) (ht : J.tab[i]? = some (some x) := by rfl) (hf : J.sc.names.lookup x ≠ some .free := by decide) :
    S1 J (.Assign [.Name x p] value pos) (ownS i f) := fun A env P O vm s ρ out ρ' hA F h => by
  unfold ownS at h
  rw [Option.map_eq_some_iff] at h
  obtain ⟨ds, hds, h⟩ := h
  cases h
  rw [exec_Assign_Name env x p value pos (swaps_false hc)]
  refine W.bind (W.standAt (W.bind (W.mono (hv A env P O vm s ρ ds hA F hds) fun v s₁ ⟨X, a, vs, n, e1, e2, e3, e4, e5⟩ => W.bind (W.standAt ?_))))
  subst e1
  unfold bindName
  exact W.bind (W.bind (W.holding (W.point (W.bind (F.storeOwn X ht (fun e => hf e) e2 e3 e4 e5 fun s' F' T' => W.point (W.pure ⟨rfl, _, _, F', T'⟩))))))

theorem s1_if {t : PySem.Expr} {body orelse : List Stmt} {pos : Pos} {c : Rho → Option Bool} {f g : Rho → Option (Out × Rho)} (ht : ST J t c) (hb : SS J body f) (ho : SS J orelse g) : S1 J (.If t body orelse pos) (ifS c f g) := fun A env P O vm s ρ out ρ' hA F h => by
  unfold ifS at h
  rw [Option.bind_eq_some_iff] at h
  obtain ⟨b, hb', h⟩ := h
  rw [exec_If]
  refine W.bind (W.standAt (W.bind (W.mono (ht A env P O vm s ρ b hA F hb') fun x s₁ ⟨X, e⟩ => ?_)))
  subst e
  cases x with
  | true =>
    simp only [if_true] at h ⊢
    exact W.mono (hb A env P O vm s₁ ρ out ρ' hA (F.ext X) h) fun fl s₂ ⟨ok, O', vm', F', T'⟩ => ⟨ok, O', vm', F', X.tr.trans T'⟩
  | false =>
    simp only [Bool.false_eq_true, if_false] at h ⊢
    exact W.mono (ho A env P O vm s₁ ρ out ρ' hA (F.ext X) h) fun fl s₂ ⟨ok, O', vm', F', T'⟩ => ⟨ok, O', vm', F', X.tr.trans T'⟩

end
end Mine

end
section
open PySem PySem.W PySem.Calls PyProof.Rows
set_option Elab.async false
set_option maxRecDepth 100000
namespace Mine

theorem FrV.rdAllTr {cx : Cx} {sc : Scope} {tab : List (Option Str)} {env : Env} {P : Avd} {O O' : Nat → Option Addr} {vm : Str → Option Value} {s s' : Shared} {ρ : List Slot} (F : FrV cx sc tab env P O vm s ρ) (x : Tr env O s O' s') {d : List D} {v : List Value} (r : RdAll cx s.heap (Av env P O) d v) : RdAll cx s'.heap (Av env P O') d v :=
  RdAll.of_get r.length fun i d' v' e1 e2 => by
    obtain ⟨v'', e, q⟩ := r.get e1
    rw [e] at e2; cases e2
    exact F.rdTr x q

/-! targets of several names -/
inductive TN (J : Jd) : List PySem.Expr → List Nat → Prop
  | nil : TN J [] []
  | cons {x : Str} {p : Pos} {i : Nat} {es : List PySem.Expr} {is : List Nat} (ht : J.tab[i]? = some (some x)) (hf : J.sc.names.lookup x ≠ some .free) (h : TN J es is) : TN J (.Name x p :: es) (i :: is)
theorem TN.length {J : Jd} {es : List PySem.Expr} {is : List Nat} (h : TN J es is) : es.length = is.length := by
  induction h with
  | nil => rfl
  | cons _ _ _ ih => simp [ih]
theorem setAll_length : ∀ {is : List Nat} {ds : List D} {ρ ρ' : Rho}, setAll is ds ρ = some ρ' → ds.length = is.length
  | [], [], _, _, _ => rfl
  | [], _ :: _, _, _, h => by simp [setAll] at h
  | _ :: _, [], _, _, h => by simp [setAll] at h
  | i :: is, d :: ds, ρ, ρ', h => by rw [setAll] at h; simp [setAll_length h]
section
variable {J : Jd}
theorem tn_store {es : List PySem.Expr} {is : List Nat} (h : TN J es is) : ∀ (A : Around) (env : Env) (P : Avd) (O : Nat → Option Addr) (vm : Str → Option Value) (s : Shared) (ρ : Rho) (ds : List D) (vs : List Value) (ρ' : Rho),
    Room A J.k → FrV J.cx J.sc J.tab env P O vm s ρ → RdAll J.cx s.heap (Av env P O) ds vs → setAll is ds ρ = some ρ' →
    W J.cx.prog J.cx.w A (assignInOrder ((assignEach es env).map (·.2)) vs) (fun _ s' => ∃ O' vm', FrV J.cx J.sc J.tab env P O' vm' s' ρ' ∧ Tr env O s O' s') s := by
  induction h with
  | nil =>
    intro A env P O vm s ρ ds vs ρ' hA F r hs
    cases ds with
    | nil => rw [setAll] at hs; cases hs; exact W.pure ⟨O, vm, F, Tr.refl _ _ _⟩
    | cons _ _ => simp [setAll] at hs
  | cons ht hf h ih =>
    intro A env P O vm s ρ ds vs ρ' hA F r hs
    cases ds with
    | nil => simp [setAll] at hs
    | cons d ds =>
      rw [setAll] at hs
      rw [RdAll] at r
      obtain ⟨v, l, rfl, r1, r2⟩ := r
      rw [assignEach_cons env rfl]
      show W _ _ A (do holding l (assign _ env v); assignInOrder _ l) _ s
      refine W.bind (W.holding (W.mono (sa_name ht hf A env P O vm s ρ d v _ hA F r1 rfl) fun _ s₁ ⟨O1, vm1, F1, T1⟩ => ?_))
      exact W.mono (ih A env P O1 vm1 s₁ _ ds l ρ' hA F1 (F.rdAllTr T1 r2) hs) fun _ s₂ ⟨O2, vm2, F2, T2⟩ => ⟨O2, vm2, F2, T1.trans T2⟩

theorem tn_nostar (env : Env) {es : List PySem.Expr} {is : List Nat} (h : TN J es is) : (assignEach es env).findIdx? (·.1) = none ∧ (assignEach es env).length = es.length := by
  induction h with
  | nil => exact ⟨rfl, rfl⟩
  | cons ht hf h ih => rw [assignEach_cons env rfl]; exact ⟨by simp [List.findIdx?_cons, ih.1], by simp [ih.2]⟩

theorem sa_tup {es : List PySem.Expr} {is : List Nat} {k : Nat} {pos : Pos} (h : TN J es is) : SA J (.Tuple es k pos) (tupA is) := fun A env P O vm s ρ d v ρ' hA F r hs => by
  unfold tupA at hs
  split at hs
  · rename_i ds
    rw [Rd] at r
    obtain ⟨a, vs, n, rfl, ho, _, hz, r⟩ := r
    have hst := tn_nostar env h
    have hl := r.length
    rw [Array.length_toList] at hl
    have hn : (assignEach es env).length = vs.size := by rw [hst.2, h.length, hl, setAll_length hs]
    show W _ _ A (do standAt pos; unpack (.ref a) (assignEach es env)) _ s
    refine W.bind (W.standAt ?_)
    unfold unpack
    rw [hn, hst.1]
    refine W.bind (W.holding (W.of_anyS (wpAny_unpackItems_tuple hA.1 ⟨_, ho, rfl, n, rfl⟩ fun h' hk hsz => ?_)))
    have X : Ext s { s with heap := h' } := ⟨rfl, rfl, hsz, fun b o e => hk b o (Nat.ne_of_lt (Heap.lt_size e)) e⟩
    exact W.mono (tn_store h A env P O vm _ ρ ds vs.toList ρ' hA (F.ext X) (r.keep X.keep) hs) fun _ s₂ ⟨O2, vm2, F2, T2⟩ => ⟨O2, vm2, F2, X.tr.trans T2⟩
  · cases hs
end

/-! methods of built-in types -/
noncomputable def GetOk (name : Str) (id : String) (p : D → Bool) : Prop :=
  ∀ (cx : Cx) (A : Around) (V : Avd) (s : Shared) (d : D) (v : Value) (pl : Sem Bool) (Q : Value × List Value → Shared → Prop), p d = true → Rd cx s.heap V d v → Q (.builtin id, [v]) s → wpAny (model cx.prog cx.w) A (getMethod v name pl) Q (fun _ _ => False) s
noncomputable def isStrD : D → Bool | .str _ => true | _ => false
noncomputable def isMatD : D → Bool | .mat .. => true | _ => false
noncomputable def methE (p : D → Bool) (F : List D → Option D) (f : Rho → Option D) (g : Rho → Option (List D)) : Rho → Option D := fun ρ => (f ρ).bind fun a => (g ρ).bind fun as => if p a then F (a :: as) else none
theorem get_str {name : Str} {id : String} (slot : PySem.Slot "str" name id) (ty : typeOf (.builtin id) = pure (.type "method_descriptor")) : GetOk name id isStrD := fun cx A V s d v pl Q hp r h => by
  unfold isStrD at hp
  split at hp
  · rw [Rd] at r; obtain ⟨t, rfl, _⟩ := r
    exact GM.of _ (typeIs_str _ _ _) slot ty (fun _ e => nomatch e) h
  · cases hp

noncomputable def notSuperCall : PySem.Expr → Bool
  | .Call (.Name _ _) [] [] _ => false
  | _ => true
theorem attributeBase_plain {o : PySem.Expr} {name : Str} {env : Env} {whole : Sem Value} (h : notSuperCall o = true) : attributeBase o name env whole = whole := by
  unfold attributeBase
  split
  · cases h
  · rfl
section
variable {J : Jd}
theorem method_split {o : PySem.Expr} {name : Str} {apos pos : Pos} {es : List PySem.Expr} {env : Env} (ho : notSuperCall o = true) (hst : es.any isStarred = false) (hlen : es.length < 29) (hp : apos.endLine = pos.line) :
    eval (.Call (.Attribute o name apos) es [] pos) env = (do
      let ov ← eval o env
      standAt apos.atName
      let r ← holding [ov] (getMethod ov name (do return (← importBound o env).getD true))
      callWith pos r.1 r.2 (backTo pos (starEach es env)) []) := by
  have hb := backTo_plain pos env hst
  have hall : (backTo pos (starEach es env)).all (!·.1) = true := by
    have := hb.1
    rw [List.any_eq_false] at this
    rw [List.all_eq_true]
    intro x hx
    have := this x hx
    simpa using this
  have hf : methodCallForm (es.length + 0) (backTo pos (starEach es env)) [] = true := by
    unfold methodCallForm
    rw [hall]
    simp; omega
  have e1 : eval (.Call (.Attribute o name apos) es [] pos) env = (do
      let ov ← attributeBase o name env (eval o env)
      standAt apos.atName
      methodCall o name apos pos env ov (es.length + 0) (backTo pos (starEach es env)) []) := rfl
  rw [e1, attributeBase_plain ho]
  unfold methodCall
  simp only [hf, calleeOf, if_true, methodCallPos, Bool.not_true, Bool.false_or, hp, beq_self_eq_true, pure_bind]

theorem se_method {o : PySem.Expr} {name : Str} {id : String} {apos pos : Pos} {es : List PySem.Expr} {f : Rho → Option D} {g : Rho → Option (List D)} {p : D → Bool} {F : List D → Option D} {k : Nat} (hg : GetOk name id p) (hc : Con J.cx k (.builtin id) F) (ho : SE J o f) (hes : SEs J es g)
    (hk : k ≤ J.k := by decide) (hs : notSuperCall o = true := by rfl) (hst : es.any isStarred = false := by rfl) (hlen : es.length < 29 := by decide) (hp : apos.endLine = pos.line := by rfl) :
    SE J (.Call (.Attribute o name apos) es [] pos) (methE p F f g) := fun A env P O vm s ρ d hA Fr h => by
  unfold methE at h
  rw [Option.bind_eq_some_iff] at h
  obtain ⟨a, ha, h⟩ := h
  rw [Option.bind_eq_some_iff] at h
  obtain ⟨as, has, h⟩ := h
  split at h
  · rename_i hpa
    rw [method_split hs hst hlen hp]
    refine W.bind (W.mono (ho A env P O vm s ρ a hA Fr ha) fun v s₁ ⟨X1, r1⟩ => W.bind (W.standAt (W.bind (W.holding (W.of_any (hg J.cx A (Av env P O) s₁ a v _ _ hpa r1 ?_))))))
    have hb := backTo_plain pos env hst
    refine callWith_ok hb.1 (by rw [hb.2]; omega) (W.mono (hes A env P O vm s₁ ρ as pos hA (Fr.ext X1) has) fun vs s₂ ⟨X2, r2⟩ => ⟨.inr (by intro a e; cases e), ?_⟩)
    have X := X1.trans X2
    exact W.mono (hc A (Av env P O) s₂ (a :: as) (v :: vs) d (hA.le hk) (fun q hq => (Fr.ext X).avLt hq) (Fr.ext X).baseOf (RdAll.cons (r1.keep X2.keep) r2) h) fun v s₃ ⟨X3, r3⟩ => ⟨X.trans X3, r3⟩
  · cases h
end

/-! a def's own call -/
noncomputable def runF (n m : Nat) (g : Rho → Option (Out × Rho)) : List D → Option D := fun ds =>
  if ds.length = n then (g (ds.map .val ++ List.replicate m .unb)).map fun x => match x.1 with | .next => .none | .ret d => d else none

theorem bindL_get (kindOf : Str → Option NameKind) : ∀ (binds : List (Str × Value)) (m : Str → Option Value) (x : Str), kindOf x = some .local → bindL kindOf binds m x = (binds.reverse.lookup x).or (m x)
  | [], m, x, _ => by simp [bindL]
  | (n, v) :: r, m, x, hx => by
    rw [bindL, bindL_get kindOf r _ x hx, List.reverse_cons, List.lookup_append, Option.or_assoc]
    congr 1
    by_cases hn : x = n
    · subst hn; simp [hx, List.lookup_cons]
    · have hb : (x == n) = false := by simpa using hn
      split <;> simp [List.lookup_cons, hb, hn]
theorem bindC_get (kindOf : Str → Option NameKind) : ∀ (binds : List (Str × Value)) (m : Str → Option Value) (x : Str), kindOf x ≠ some .local → bindC kindOf binds m x = (binds.reverse.lookup x).or (m x)
  | [], m, x, _ => by simp [bindC]
  | (n, v) :: r, m, x, hx => by
    rw [bindC, bindC_get kindOf r _ x hx, List.reverse_cons, List.lookup_append, Option.or_assoc]
    congr 1
    by_cases hn : x = n
    · subst hn; simp [hx, List.lookup_cons]
    · have hb : (x == n) = false := by simpa using hn
      split <;> simp [List.lookup_cons, hb, hn]

theorem lookup_zip_rev {xs : List Str} {vs : List Value} (hn : xs.Nodup) (hl : vs.length = xs.length) {i : Nat} {x : Str} {v : Value} (hx : xs[i]? = some x) (hv : vs[i]? = some v) : ((xs.zip vs).reverse.lookup x) = some v := by
  induction xs generalizing vs i with
  | nil => simp at hx
  | cons y ys ih =>
    cases vs with
    | nil => simp at hl
    | cons u us =>
      rw [List.nodup_cons] at hn
      rw [List.zip_cons_cons, List.reverse_cons, List.lookup_append]
      cases i with
      | zero =>
        simp at hx hv
        subst hx hv
        have : (ys.zip us).reverse.lookup y = none := by
          rw [List.lookup_eq_none_iff]
          intro p hp
          rw [List.mem_reverse] at hp
          have := (List.of_mem_zip hp).1
          simpa using fun e : y = p.1 => hn.1 (e ▸ this)
        rw [this]; simp [List.lookup_cons]
      | succ i =>
        simp at hx hv
        rw [ih hn.2 (by simpa using hl) hx hv]; rfl

theorem C.call_function {prog : Program} {w : World} {A : Around} {s : Shared} {a : Addr} {args : Args} {o : Obj} {fd : FuncData} {body : List Stmt} {R : Flow → Shared → Prop} (hroom : A.depth < recursionLimit)
    (ho : s.heap.get? a = some o) (hd' : o.data = .func fd) (hco : fd.scope.isCoroutine = false) (hgen : fd.scope.isGenerator = false) (hbody : fd.body = .stmts body) (hcd : s.heap.CodeRec fd.code fd.qualname)
    (h : wpAny (model prog w) A.in1 (bindArgs fd args) (fun binds s₁ => wpAny (model prog w) A.in1 (newFunctionEnv fd.scope fd.globals fd.closure binds (fd.qualname ++ ".<locals>.") (some a) fd.code none fd.builtins)
        (fun env s₂ => s₂.heap.NoLimit ∧ C prog w A (.func body env) R s₂) (fun _ _ => False) s₁) (fun _ _ => False) s) : C prog w A (.call (.ref a) args) R s := by
  refine C.of_tree rfl rfl (W.of_any ?_)
  show wpAny _ A.in1 (callAny (.ref a) args) _ _ s
  simp only [callAny]
  refine wpAny_bind (wpAny_load ho ?_)
  obtain ⟨c, oc, vs, tq, hc, hoc, hdc, hq⟩ := hcd
  simp only [hd', callFunction, hco, hgen, hbody, hc]
  rw [hc] at h
  refine wpAny_bind (m := field (.ref c) 1) (wpAny_field hoc hdc hq (wpAny_bind (wpAny_pure ?_)))
  exact wpAny_bind (wpAny_mono h (fun binds s₁ h₁ => wpAny_bind (wpAny_mono h₁ (fun env s₂ h₂ => wpAny_bind (wpAny_enterFrame h₂.1 hroom
    (wpAny_pure (And.intro rfl h₂.2)))) fun _ _ h' => h')) fun _ _ h' => h')

theorem cellsFrom_mem : ∀ (names : List (Str × NameKind)) (n : Nat) (acc : List (Str × Addr)) (x : Str) (c : Addr), (x, c) ∈ cellsFrom n names acc → (x, c) ∈ acc ∨ (x, NameKind.cell) ∈ names
  | [], _, _, _, _, h => .inl h
  | (y, kd) :: r, n, acc, x, c, h => by
    unfold cellsFrom at h
    split at h
    · rename_i hk
      have hk' : kd = .cell := by simpa using hk
      rcases cellsFrom_mem r _ _ x c h with h | h
      · rcases List.mem_cons.mp h with e | h
        · cases e; subst hk'; exact .inr (List.mem_cons_self)
        · exact .inl h
      · exact .inr (List.mem_cons_of_mem _ h)
    · rcases cellsFrom_mem r _ _ x c h with h | h
      · exact .inl h
      · exact .inr (List.mem_cons_of_mem _ h)
theorem cellsFrom_acc : ∀ (names : List (Str × NameKind)) (n : Nat) (acc : List (Str × Addr)) (x : Str), (acc.lookup x).isSome = true → ((cellsFrom n names acc).lookup x).isSome = true
  | [], _, _, _, h => h
  | (y, kd) :: r, n, acc, x, h => by
    unfold cellsFrom
    split
    · refine cellsFrom_acc r _ _ x ?_
      rw [List.lookup_cons]
      split
      · rfl
      · exact h
    · exact cellsFrom_acc r _ _ x h
theorem cellsFrom_has : ∀ (names : List (Str × NameKind)) (n : Nat) (acc : List (Str × Addr)) (x : Str), (x, NameKind.cell) ∈ names → ((cellsFrom n names acc).lookup x).isSome = true
  | (y, kd) :: r, n, acc, x, h => by
    unfold cellsFrom
    rcases List.mem_cons.mp h with e | h
    · cases e
      rw [if_pos (by rfl)]
      exact cellsFrom_acc r _ _ y (by simp)
    · split
      · exact cellsFrom_has r _ _ x h
      · exact cellsFrom_has r _ _ x h
theorem lookup_of_mem {names : List (Str × NameKind)} (hn : (names.map (·.1)).Nodup) {x : Str} {kd : NameKind} (h : (x, kd) ∈ names) : names.lookup x = some kd := by
  induction names with
  | nil => cases h
  | cons p r ih =>
    obtain ⟨y, kd'⟩ := p
    rw [List.map_cons, List.nodup_cons] at hn
    rw [List.lookup_cons]
    rcases List.mem_cons.mp h with e | h
    · cases e; simp
    · have : x ≠ y := fun e => hn.1 (e ▸ List.mem_map.mpr ⟨_, h, rfl⟩)
      have hb : (x == y) = false := by simpa using this
      rw [hb]; exact ih hn.2 h

theorem con_def {cx : Cx} {k : Nat} {a : Addr} {o : Obj} {name : Str} {params : Arguments} {body : List Stmt} {scope : Scope} {pm cd doc : Value} {xs rest : List Str} {g : Rho → Option (Out × Rho)}
    (ho : cx.h₁.get? a = some o) (hd : o.data = .func (docDef name params body scope pm cd doc)) (hcd : cx.h₁.CodeRec cd name)
    (hbody : SS ⟨cx, scope, (xs ++ rest).map some, k⟩ body g)
    (hbind : ∀ vs : List Value, vs.length = xs.length → bindArgs (docDef name params body scope pm cd doc) ⟨vs, []⟩ = pure (xs.zip vs))
    (hnd : decide (xs ++ rest).Nodup = true := by decide) (hnames : decide (scope.names.map (·.1)).Nodup = true := by decide)
    (hknown : ((xs ++ rest).all fun x => scope.names.lookup x == some .local || scope.names.lookup x == some .cell) = true := by decide)
    (hco : scope.isCoroutine = false := by rfl) (hgen : scope.isGenerator = false := by rfl) (hk : scope.kind = .function := by rfl) : Con cx (k + 1) (.ref a) (runF xs.length rest.length g) := fun A V s ds vs r hA hV hbase' ra h => by
  have hbase := hbase'.2
  unfold runF at h
  split at h
  · rename_i hlen
    have hnd := of_decide_eq_true hnd
    have hnames := of_decide_eq_true hnames
    have hkn : ∀ x ∈ xs ++ rest, scope.names.lookup x = some .local ∨ scope.names.lookup x = some .cell := fun x hx => by
      have := List.all_eq_true.mp hknown x hx
      simpa using this
    have hlv : vs.length = xs.length := by rw [ra.length, hlen]
    rw [Option.map_eq_some_iff] at h
    obtain ⟨⟨out, ρ'⟩, hg, h⟩ := h
    refine W.call (C.call_function (by have := hA.2.1; omega) (hbase a o ho) hd hco hgen rfl (hcd.keeps hbase) ?_)
    rw [hbind vs hlv]
    have hmem : ∀ x, scope.names.lookup x = some .cell → (x, NameKind.cell) ∈ scope.names := fun x hx => mem_of_lookup hx
    refine wpAny_pure (wpAny_newFunctionEnv_cells hk (fun x hx => ?_) fun env he s' x => ?_)
    · have hx' : x.1 ∈ xs := (List.of_mem_zip hx).1
      rcases hkn x.1 (List.mem_append_left _ hx') with h1 | h1
      · exact .inl h1
      · exact .inr ⟨h1, cellsFrom_has _ _ _ _ (hmem _ h1)⟩
    refine ⟨(cx.lim.keeps hbase).keeps x.toInCall.keep, C.func ?_⟩
    obtain ⟨hh, tk, hs'⟩ := x.toInCall.same
    have hkeep := x.toInCall.keep
    have hEs : env.scope = scope := by rw [he]; rfl
    have hEl : env.locals = s.heap.objs.size := by rw [he]; rfl
    have hEc : env.cells = cellsFrom (s.heap.objs.size + 1) scope.names [] := by rw [he]; rfl
    have hEg : env.globals = mainGlobals := by rw [he]; rfl
    have hEb : env.builtins = builtinsNs := by rw [he]; rfl
    have hsz : s.heap.objs.size ≤ s'.heap.objs.size := by
      have h0 := x.toInCall.ns.lt
      rw [hEl] at h0; exact Nat.le_of_lt h0
    have X : Ext s s' := ⟨by rw [hs'], by rw [hs'], hsz, hkeep⟩
    have hkind : ∀ y, env.kindOf y = scope.names.lookup y := fun y => by show env.scope.names.lookup y = _; rw [hEs]
    have hge1 : cx.h₁.objs.size ≤ s.heap.objs.size := hbase'.1
    let vm : Str → Option Value := fun y => if scope.names.lookup y = some .local then bindL env.kindOf (xs.zip vs) (fun _ => none) y else bindC env.kindOf (xs.zip vs) (fun _ => none) y
    have hvm : ∀ y, vm y = (xs.zip vs).reverse.lookup y := fun y => by
      show (if scope.names.lookup y = some .local then _ else _) = _
      split
      · rename_i hy; rw [bindL_get _ _ _ _ (by rw [hkind]; exact hy)]; simp
      · rename_i hy; rw [bindC_get _ _ _ _ (by rw [hkind]; exact hy)]; simp
    have F : FrV cx scope ((xs ++ rest).map some) env V (fun _ => none) vm s' (ds.map .val ++ List.replicate rest.length .unb) := {
      scope := hEs, kind := hk, glob := hEg, blt := hEb
      base := fun b o' e => hkeep b o' (hbase b o' e)
      ns := ⟨_, x.toInCall.ns, fun y hy => by show _ = (if scope.names.lookup y = some .local then _ else _); rw [if_pos hy]⟩
      cell := fun y c hc => by
        have := x.cell y c hc
        have hy : scope.names.lookup y ≠ some .local := by
          have hm := mem_of_lookup hc
          rw [hEc] at hm
          rcases cellsFrom_mem _ _ _ _ _ hm with h' | h'
          · cases h'
          · rw [lookup_of_mem hnames h']; intro e; cases e
        show s'.heap.IsCell c (if scope.names.lookup y = some .local then _ else _)
        rw [if_neg hy]; exact this
      apart := x.apart
      fresh := fun b hb => by
        rcases hb with ⟨j, hj⟩ | hb | ⟨y, hy⟩
        · cases hj
        · subst hb; exact ⟨by rw [hEl]; exact hge1, x.toInCall.ns.lt⟩
        · have h0 := x.above y b (mem_of_lookup hy)
          exact ⟨by rw [hEl] at h0; exact Nat.le_trans hge1 (Nat.le_of_lt h0), (x.cell y b hy).lt⟩
      nsCell := fun y hy => Nat.lt_irrefl _ (x.above y _ (mem_of_lookup hy))
      av := fun b hb => Nat.lt_of_lt_of_le (hV b hb) hsz
      len := by simp [hlen]
      tabInj := fun i j y h1 h2 => by
        rw [List.getElem?_map, Option.map_eq_some_iff] at h1 h2
        obtain ⟨y1, h1, e1⟩ := h1
        obtain ⟨y2, h2, e2⟩ := h2
        cases e1; cases e2
        have hi : i < (xs ++ rest).length := by
          rcases Nat.lt_or_ge i (xs ++ rest).length with h' | h'
          · exact h'
          · rw [List.getElem?_eq_none h'] at h1; cases h1
        exact (List.getElem?_inj hi hnd).mp (h1.trans h2.symm)
      cellNL := fun y c hc => by
        have hm := mem_of_lookup hc
        rw [hEc] at hm
        rcases cellsFrom_mem _ _ _ _ _ hm with h' | h'
        · cases h'
        · rw [lookup_of_mem hnames h']; intro e; cases e
      known := fun i y h1 => by
        rw [List.getElem?_map, Option.map_eq_some_iff] at h1
        obtain ⟨y1, h1, e1⟩ := h1
        cases e1
        rcases hkn y (List.mem_of_getElem? h1) with h' | h'
        · exact .inl h'
        · exact .inr ⟨.inl h', by rw [hEc]; exact cellsFrom_has _ _ _ _ (hmem _ h')⟩
      slots := fun i y sl h1 h2 => by
        rw [List.getElem?_map, Option.map_eq_some_iff] at h1
        obtain ⟨y1, h1, e1⟩ := h1
        cases e1
        rcases Nat.lt_or_ge i xs.length with hi | hi
        · rw [List.getElem?_append_left hi] at h1
          rw [List.getElem?_append_left (by simpa [hlen] using hi), List.getElem?_map, Option.map_eq_some_iff] at h2
          obtain ⟨d', h2, e2⟩ := h2
          subst e2
          obtain ⟨v', hv', q⟩ := ra.get h2
          refine ⟨v', by rw [hvm]; exact lookup_zip_rev (List.nodup_append.mp hnd).1 hlv h1 hv', ?_⟩
          refine q.mono (fun b o' _ e => hkeep b o' e) fun b hb => ?_
          rcases hb with hb | ⟨j, hj⟩ | hb | ⟨z, hz⟩
          · exact .inl hb
          · cases hj
          · exact .inr (get_none (by rw [hb, hEl]; exact Nat.le_refl _))
          · exact .inr (get_none (by have h0 := x.above z b (mem_of_lookup hz); rw [hEl] at h0; exact Nat.le_of_lt h0))
        · rw [List.getElem?_append_right (by simpa [hlen] using hi)] at h2
          have := List.mem_of_getElem? h2
          rw [List.mem_replicate] at this
          rw [this.2]; trivial
      ownInj := fun i j b h1 _ => by cases h1
      ownSlot := fun i b h1 => by cases h1
      ownApart := fun i b h1 => by cases h1
      ownNP := fun i b h1 => by cases h1 }
    have hA' : Room (A.deeper env) k := ⟨hA.1, by show A.depth + 1 + k < _; have := hA.2.1; omega, by show A.units + 3 + 8 * k + 200 < _; have := hA.2.2; omega⟩
    refine W.mono (hbody (A.deeper env) env V (fun _ => none) vm s' _ out ρ' hA' F hg) fun fl s₂ ⟨ok, O2, vm2, F2, T2⟩ => ?_
    have X2 : Ext s s₂ := ⟨T2.gens.trans X.gens, T2.os.trans X.os, Nat.le_trans X.size T2.size, fun b o' e => T2.keep b o' (fun hm => by
      have hb := Heap.lt_size e
      rcases hm with ⟨j, hj⟩ | hm | ⟨z, hz⟩
      · cases hj
      · rw [hm, hEl] at hb; exact Nat.lt_irrefl _ hb
      · have h0 := x.above z b (mem_of_lookup hz); rw [hEl] at h0; exact Nat.lt_irrefl _ (Nat.lt_trans hb h0)) (hkeep b o' e)⟩
    cases out with
    | next =>
      have : fl = .next := ok
      subst this
      cases h
      exact ⟨_, rfl, X2, by rw [Rd]⟩
    | ret d =>
      obtain ⟨v, rfl, q⟩ := ok
      cases h
      exact ⟨v, rfl, X2, q⟩
  · cases h
end Mine

end
section
open PySem PySem.W PySem.Calls PyProof.Rows
set_option Elab.async false
set_option maxRecDepth 100000
namespace Mine

/-- of what stood only the objects of wr are changed -/
structure Chg (wr : List Addr) (s s' : Shared) : Prop where
  gens : s'.gens = s.gens
  os : s'.os = s.os
  size : s.heap.objs.size ≤ s'.heap.objs.size
  keep : ∀ a o, a ∉ wr → s.heap.get? a = some o → s'.heap.get? a = some o
theorem Chg.trans {wr : List Addr} {a b c : Shared} (x : Chg wr a b) (y : Chg wr b c) : Chg wr a c := ⟨y.gens.trans x.gens, y.os.trans x.os, Nat.le_trans x.size y.size, fun p o hn e => y.keep p o hn (x.keep p o hn e)⟩
theorem Ext.chg {wr : List Addr} {s s' : Shared} (x : Ext s s') : Chg wr s s' := ⟨x.gens, x.os, x.size, fun a o _ e => x.keep a o e⟩

theorem FrV.chg {cx : Cx} {sc : Scope} {tab : List (Option Str)} {env : Env} {P : Avd} {O : Nat → Option Addr} {vm : Str → Option Value} {s s' : Shared} {ρ : List Slot} {wr : List Addr} (F : FrV cx sc tab env P O vm s ρ) (x : Chg wr s s')
    (hP : ∀ b ∈ wr, P b) (hb : ∀ b ∈ wr, cx.h₁.objs.size ≤ b) (hm : ∀ b ∈ wr, ¬ muts env O b) : FrV cx sc tab env P O vm s' ρ := by
  have hk : ∀ a o, ¬ Av env P O a → s.heap.get? a = some o → s'.heap.get? a = some o := fun a o hn e => x.keep a o (fun hw => hn (.inl (hP a hw))) e
  exact {
    scope := F.scope, kind := F.kind, glob := F.glob, blt := F.blt
    base := fun a o e => x.keep a o (fun hw => Nat.lt_irrefl _ (Nat.lt_of_lt_of_le (Heap.lt_size e) (hb a hw))) (F.base a o e)
    ns := let ⟨m, h1, h2⟩ := F.ns; ⟨m, h1.at' fun o e => x.keep _ o (fun hw => hm _ hw (.inr (.inl rfl))) e, h2⟩
    cell := fun y c e => let ⟨o, h1, h2⟩ := F.cell y c e; ⟨o, x.keep c o (fun hw => hm _ hw (.inr (.inr ⟨y, e⟩))) h1, h2⟩
    apart := F.apart
    fresh := fun a m => ⟨(F.fresh a m).1, Nat.lt_of_lt_of_le (F.fresh a m).2 x.size⟩
    nsCell := F.nsCell
    av := fun a h => Nat.lt_of_lt_of_le (F.av a h) x.size
    len := F.len, tabInj := F.tabInj, cellNL := F.cellNL, known := F.known
    slots := fun i y sl h1 h2 => slot_tr (F.slots i y sl h1 h2) hk (fun _ h => .inl h) rfl fun a o e e' => x.keep a o (fun hw => hm a hw (.inl ⟨i, e⟩)) e'
    ownInj := F.ownInj, ownSlot := F.ownSlot, ownApart := F.ownApart, ownNP := F.ownNP }

/-- an iterator that will give these data, one after the other; wr: what its steps change; N: the heap's size where it was made; U: what others may change -/
structure Wk (cx : Cx) (A : Around) (tgt : PySem.Expr) (I : Addr) (wr : List Addr) (N : Nat) (ds : List D) (U : Avd) (St : Nat → Heap → Prop) : Prop where
  frame : ∀ i h h', St i h → (∀ a o, ¬ U a → a < N → h.get? a = some o → h'.get? a = some o) → St i h'
  item : ∀ (i : Nat) (d : D) (s : Shared) (V : Avd) (Q : Value → Shared → Prop), ds[i]? = some d → St i s.heap → Base cx s.heap → (∀ a, V a → (U a ∨ a ∈ wr ∨ N ≤ a) ∧ a < s.heap.objs.size) →
    (∀ v s', Chg wr s s' → Rd cx s'.heap V d v → St (i + 1) s'.heap → Q v s') →
    W cx.prog cx.w A (pyNext (.ref I)) (fun r s₁ => ∃ v, r = some v ∧ W cx.prog cx.w A (letOwnedTupleGo tgt (.ref I) v) (fun _ s₂ => Q v s₂) s₁) s
  done : ∀ (s : Shared) (Q : Shared → Prop), St ds.length s.heap → Base cx s.heap → (∀ s', Chg wr s s' → Q s') → W cx.prog cx.w A (pyNext (.ref I)) (fun r s' => r = none ∧ Q s') s
  self : ∀ (i : Nat) (s : Shared), St i s.heap → W cx.prog cx.w A (pyIter (.ref I)) (fun v s' => v = .ref I ∧ s' = s) s

/-- the expression, iterated -/
def SI (J : Jd) (tgt e : PySem.Expr) (f : Rho → Option (List D)) : Prop :=
  ∀ (A : Around) (env : Env) (P : Avd) (O : Nat → Option Addr) (vm : Str → Option Value) (s : Shared) (ρ : Rho) (ds : List D), Room A J.k → FrV J.cx J.sc J.tab env P O vm s ρ → f ρ = some ds →
    W J.cx.prog J.cx.w A (eval e env) (fun x s₁ => foldedSetIterable e env x = pure x ∧ W J.cx.prog J.cx.w A (pyIter x) (fun it s₂ => Ext s s₂ ∧ ds.length ≤ sizeLine ∧ ∃ I wr St, it = .ref I ∧
      Wk J.cx A tgt I wr s₂.heap.objs.size ds (Av env P O) St ∧ St 0 s₂.heap ∧ (∀ b ∈ wr, s.heap.objs.size ≤ b ∧ b < s₂.heap.objs.size)) s₁) s

noncomputable def loopS (g : D → Rho → Option Rho) (b : Rho → Option (Out × Rho)) : List D → Rho → Option (Out × Rho)
  | [], ρ => some (.next, ρ)
  | d :: ds, ρ => (g d ρ).bind fun ρ1 => (b ρ1).bind fun x => match x with | (.next, ρ2) => loopS g b ds ρ2 | (.ret r, ρ2) => some (.ret r, ρ2)
noncomputable def forS (f : Rho → Option (List D)) (g : D → Rho → Option Rho) (b : Rho → Option (Out × Rho)) : Rho → Option (Out × Rho) := fun ρ => (f ρ).bind fun ds => loopS g b ds ρ

section
variable {J : Jd}
theorem s1_for {tgt iter : PySem.Expr} {body : List Stmt} {pos : Pos} {f : Rho → Option (List D)} {g : D → Rho → Option Rho} {b : Rho → Option (Out × Rho)} (hi : SI J tgt iter f) (ht : SA J tgt g) (hb : SS J body b) : S1 J (.For tgt iter body [] pos) (forS f g b) := fun A env P O vm s ρ out ρ' hA F h => by
  unfold forS at h
  rw [Option.bind_eq_some_iff] at h
  obtain ⟨ds, hds, h⟩ := h
  show W _ _ A (do
    standAt pos
    let x ← foldedSetIterable iter env (← eval iter env)
    standAt iter.pos
    runOwn (.forLoop tgt (← holding [x] (pyIter x)) body [] env) env) _ s
  refine W.bind (W.standAt (W.bind (W.mono (hi A env P O vm s ρ ds hA F hds) fun x s₁ ⟨hfold, h₁⟩ => ?_)))
  rw [hfold]
  refine W.bind (W.pure (W.bind (W.standAt (W.bind (W.holding (W.mono h₁ fun it s₂ ⟨X, _, I, wr, St, e, wk, st0, hwr'⟩ => ?_))))))
  subst e
  refine W.runOwn ?_
  have hwr : ∀ b ∈ wr, s.heap.objs.size ≤ b := fun b hb => (hwr' b hb).1
  have hwr2 : ∀ b ∈ wr, b < s₂.heap.objs.size := fun b hb => (hwr' b hb).2
  have hbase : J.cx.h₁.objs.size ≤ s.heap.objs.size := F.baseOf.1
  have F2 : FrV J.cx J.sc J.tab env (fun b => P b ∨ b ∈ wr) O vm s₂ ρ := F.moreP X fun a ha => ha.imp id fun hw => ⟨hwr a hw, hwr2 a hw⟩
  -- what stays of the start through all turns
  refine C.forLoop (R := Post J env P O s out ρ') (fun k s₃ => ∃ O₁ vm₁ ρ₁ i, FrV J.cx J.sc J.tab env (fun b => P b ∨ b ∈ wr) O₁ vm₁ s₃ ρ₁ ∧ Tr env O s O₁ s₃ ∧ s₂.heap.objs.size ≤ s₃.heap.objs.size ∧
      (∀ j a, O₁ j = some a → (∃ l, O l = some a) ∨ s₂.heap.objs.size ≤ a) ∧ St i s₃.heap ∧ i ≤ ds.length ∧ k = ds.length - i ∧ loopS g b (ds.drop i) ρ₁ = some (out, ρ')) ?_ ds.length
    ⟨O, vm, ρ, 0, F2, X.tr, Nat.le_refl _, fun j a e => .inl ⟨j, e⟩, st0, Nat.zero_le _, rfl, h⟩
  rintro k s₃ ⟨O₁, vm₁, ρ₁, i, F₁, T₁, hsz, hown, st, hle, rfl, h₃⟩
  have hnm : ∀ b ∈ wr, ¬ muts env O₁ b := fun b hb hm => by
    rcases hm with ⟨j, hj⟩ | hm
    · rcases hown j b hj with ⟨l, hl⟩ | hge
      · exact Nat.lt_irrefl _ (Nat.lt_of_lt_of_le (F.fresh b (.inl ⟨l, hl⟩)).2 (hwr b hb))
      · exact Nat.lt_irrefl _ (Nat.lt_of_lt_of_le (hwr2 b hb) hge)
    · exact Nat.lt_irrefl _ (Nat.lt_of_lt_of_le (F.fresh b (.inr hm)).2 (hwr b hb))
  have hb1 : ∀ b ∈ wr, J.cx.h₁.objs.size ≤ b := fun b hb => Nat.le_trans hbase (hwr b hb)
  have hnfp : ∀ b, ¬ Av env P O b → b < s₂.heap.objs.size → ¬ muts env O₁ b := fun b hn hlt hm => by
    rcases hm with ⟨j, hj⟩ | hm
    · rcases hown j b hj with ⟨l, hl⟩ | hge
      · exact hn (.inr (.inl ⟨l, hl⟩))
      · exact Nat.lt_irrefl _ (Nat.lt_of_lt_of_le hlt hge)
    · exact hn (.inr (.inr hm))
  have chgTr : ∀ s₄, Chg wr s₃ s₄ → Tr env O s O₁ s₄ := fun s₄ x => ⟨x.gens.trans T₁.gens, x.os.trans T₁.os, Nat.le_trans T₁.size x.size, fun a o hn e => x.keep a o (fun hw => Nat.lt_irrefl _ (Nat.lt_of_lt_of_le (Heap.lt_size e) (hwr a hw))) (T₁.keep a o hn e), T₁.own⟩
  rcases Nat.lt_or_ge i ds.length with hlt | hge
  · have hd : ds[i]? = some ds[i] := List.getElem?_eq_getElem hlt
    have hdrop : ds.drop i = ds[i] :: ds.drop (i + 1) := List.drop_eq_getElem_cons hlt
    rw [hdrop, loopS, Option.bind_eq_some_iff] at h₃
    obtain ⟨ρ4, hg4, h₃⟩ := h₃
    rw [Option.bind_eq_some_iff] at h₃
    obtain ⟨⟨o5, ρ5⟩, hb5, h₃⟩ := h₃
    refine W.mono (wk.item i ds[i] s₃ (Av env (fun b => P b ∨ b ∈ wr) O₁) (fun v s₄ => W J.cx.prog J.cx.w A (assign tgt env v) _ s₄) hd st F₁.baseOf (fun a ha => ⟨?_, F₁.avLt ha⟩) fun v s₄ x r st' => ?_) fun r s₄ hr => by obtain ⟨v, e, h₄⟩ := hr; subst e; exact h₄
    · rcases ha with (ha | ha) | ⟨j, hj⟩ | ha
      · exact .inl (.inl ha)
      · exact .inr (.inl ha)
      · rcases hown j a hj with ⟨l, hl⟩ | hge
        · exact .inl (.inr (.inl ⟨l, hl⟩))
        · exact .inr (.inr hge)
      · exact .inl (.inr (.inr ha))
    have F4 := F₁.chg x (fun b hb => .inr hb) hb1 hnm
    refine W.mono (ht A env _ O₁ vm₁ s₄ ρ₁ ds[i] v ρ4 hA F4 r hg4) fun _ s₅ ⟨O5, vm5, F5, T5⟩ => ?_
    refine W.mono (hb A env _ O5 vm5 s₅ ρ4 o5 ρ5 hA F5 hb5) fun fl s₆ ⟨ok, O6, vm6, F6, T6⟩ => ?_
    have T56 := T5.trans T6
    have T := (chgTr s₄ x).trans T56
    cases o5 with
    | next =>
      have : fl = .next := ok
      subst this
      refine ⟨ds.length - (i + 1), by omega, O6, vm6, ρ5, i + 1, F6, T, Nat.le_trans hsz (Nat.le_trans x.size T56.size), fun j a e => ?_, wk.frame _ _ _ st' fun b o hn hlt e => T56.keep b o (hnfp b hn hlt) e, hlt, rfl, h₃⟩
      rcases T56.own j a e with ⟨l, hl⟩ | hge
      · exact hown l a hl
      · exact .inr (Nat.le_trans hsz (Nat.le_trans x.size hge))
    | ret d =>
      cases h₃
      obtain ⟨v', rfl, r'⟩ := ok
      exact ⟨⟨v', rfl, r'.weak fun a ha => .inl ha⟩, O6, vm6, F6.lessP fun a ha => .inl ha, T⟩
  · have hi : i = ds.length := by omega
    subst hi
    rw [List.drop_length, loopS] at h₃
    cases h₃
    refine W.mono (wk.done s₃ (fun s₄ => Post J env P O s .next _ .next s₄) st F₁.baseOf fun s₄ x => ⟨rfl, O₁, vm₁, (F₁.chg x (fun b hb => .inr hb) hb1 hnm).lessP fun a ha => .inl ha, chgTr s₄ x⟩) fun r s₄ ⟨e, h₄⟩ => by subst e; exact h₄
end
end Mine

end
section
open PySem PySem.W PySem.Calls PyProof.Rows
set_option Elab.async false
set_option maxRecDepth 100000
namespace Mine

noncomputable abbrev noO : Nat → Option Addr := fun _ => none

/-! a comprehension's tests -/
noncomputable def tests (ifs : List PySem.Expr) (env : Env) : Sem Bool :=
  forIn ifs true fun c r => if r = true then do let ok ← isTrue c env (eval c env); pure (ForInStep.yield ok) else pure (ForInStep.yield r)
noncomputable def TsOk (J : Jd) (ifs : List PySem.Expr) (t : Rho → Option Bool) : Prop :=
  ∀ (A : Around) (env : Env) (P : Avd) (O : Nat → Option Addr) (vm : Str → Option Value) (s : Shared) (ρ : Rho) (b : Bool), Room A J.k → FrV J.cx J.sc J.tab env P O vm s ρ → t ρ = some b →
    W J.cx.prog J.cx.w A (tests ifs env) (fun v s' => Ext s s' ∧ v = b) s
noncomputable def tt : Rho → Option Bool := fun _ => some true
theorem ts_nil {J : Jd} : TsOk J [] tt := fun A env P O vm s ρ b hA F h => by cases h; exact W.pure ⟨Ext.refl _, rfl⟩
noncomputable def mutsL (env : Env) (O : Nat → Option Addr) : Avd := fun a => (∃ j, O j = some a) ∨ a = env.locals
theorem mutsL.m {env : Env} {O : Nat → Option Addr} {a : Addr} (h : mutsL env O a) : muts env O a := h.imp id .inl
/-! what a turn lays into the new list -/
structure CTr (env : Env) (O : Nat → Option Addr) (L : List Addr) (s : Shared) (O' : Nat → Option Addr) (s' : Shared) : Prop where
  gens : s'.gens = s.gens
  os : s'.os = s.os
  size : s.heap.objs.size ≤ s'.heap.objs.size
  keep : ∀ b o, b ∉ L → ¬ mutsL env O b → s.heap.get? b = some o → s'.heap.get? b = some o
  own : ∀ j a, O' j = some a → (∃ i, O i = some a) ∨ s.heap.objs.size ≤ a
theorem CTr.trans {env : Env} {L : List Addr} {O O' O'' : Nat → Option Addr} {s s' s'' : Shared} (x : CTr env O L s O' s') (y : CTr env O' L s' O'' s'') : CTr env O L s O'' s'' where
  gens := y.gens.trans x.gens
  os := y.os.trans x.os
  size := Nat.le_trans x.size y.size
  keep := fun a o hL hn e => y.keep a o hL (fun m => by
    rcases m with ⟨j, hj⟩ | m
    · rcases x.own j a hj with ⟨i, hi⟩ | hge
      · exact hn (.inl ⟨i, hi⟩)
      · exact absurd (Heap.lt_size e) (Nat.not_lt.mpr hge)
    · exact hn (.inr m)) (x.keep a o hL hn e)
  own := fun j a hj => by
    rcases y.own j a hj with ⟨i, hi⟩ | hge
    · exact x.own i a hi
    · exact .inr (Nat.le_trans x.size hge)
theorem CTr.sub {env : Env} {L L' : List Addr} {O O' : Nat → Option Addr} {s s' : Shared} (x : CTr env O L s O' s') (h : ∀ a ∈ L, a < s.heap.objs.size → a ∈ L') : CTr env O L' s O' s' :=
  ⟨x.gens, x.os, x.size, fun b o hb hn e => x.keep b o (fun hm => hb (h b hm (Heap.lt_size e))) hn e, x.own⟩
theorem CTr.tr {env : Env} {O O' : Nat → Option Addr} {s s' : Shared} (x : CTr env O [] s O' s') : Tr env O s O' s' := ⟨x.gens, x.os, x.size, fun b o hn e => x.keep b o (fun h => nomatch h) (fun h => hn h.m) e, x.own⟩
theorem Ext.c {env : Env} {L : List Addr} {O : Nat → Option Addr} {s s' : Shared} (x : Ext s s') : CTr env O L s O s' := ⟨x.gens, x.os, x.size, fun b o _ _ e => x.keep b o e, fun j _ e => .inl ⟨j, e⟩⟩
/-- a target of local names -/
noncomputable def SAL (J : Jd) (t : PySem.Expr) (g : D → Rho → Option Rho) : Prop :=
  ∀ (A : Around) (env : Env) (P : Avd) (O : Nat → Option Addr) (vm : Str → Option Value) (s : Shared) (ρ : Rho) (d : D) (v : Value) (ρ' : Rho), Room A J.k → FrV J.cx J.sc J.tab env P O vm s ρ → Rd J.cx s.heap (Av env P O) d v → g d ρ = some ρ' →
    W J.cx.prog J.cx.w A (assign t env v) (fun _ s' => ∃ O' vm', FrV J.cx J.sc J.tab env P O' vm' s' ρ' ∧ CTr env O [] s O' s') s
theorem FrV.storeL {cx : Cx} {sc : Scope} {tab : List (Option Str)} {env : Env} {P : Avd} {O : Nat → Option Addr} {vm : Str → Option Value} {s : Shared} {ρ : List Slot} {prog : Program} {w : World} {A : Around} (F : FrV cx sc tab env P O vm s ρ) {i : Nat} {x : Str} {v : Value} {d : D} {Q : Unit → Shared → Prop} (ht : tab[i]? = some (some x)) (hl : sc.names.lookup x = some .local)
    (r : Rd cx s.heap (Av env P O) d v)
    (hQ : ∀ s', FrV cx sc tab env P (off O i) (upd vm x v) s' (ρ.set i (.val d)) → CTr env O [] s (off O i) s' → Q () s') : W prog w A (storeName env x v) Q s := by
  have hkd : env.scope.kind = .function := by rw [F.scope]; exact F.kind
  obtain ⟨m, hn, hm⟩ := F.ns
  refine W.of_any (wpAny_storeName_local (by show env.scope.names.lookup x = _; rw [F.scope]; exact hl) hn (fun h' hn' hs' => ?_) (by rw [hkd]; rfl))
  have hsz := hs'.1
  have hkk : ∀ a o, a ≠ env.locals → s.heap.get? a = some o → h'.get? a = some o := fun a o ha e => hs'.extBut a o ha e
  have hk : ∀ a o, a ≠ env.locals → (∀ y, env.cells.lookup y ≠ some a) → s.heap.get? a = some o → h'.get? a = some o := fun a o ha _ e => hkk a o ha e
  have hns : ∃ m, h'.Ns env.locals m ∧ ∀ y, sc.names.lookup y = some .local → m y = upd vm x v y := ⟨_, hn', fun y hy => by
    unfold upd
    split
    · rfl
    · exact hm y hy⟩
  have hcell : ∀ y c, env.cells.lookup y = some c → h'.IsCell c (upd vm x v y) := fun y c hc => by
    have hne : y ≠ x := fun e => by
      subst e
      exact F.cellNL y c hc hl
    have : upd vm x v y = vm y := by unfold upd; rw [if_neg hne]
    rw [this]
    exact (F.cell y c hc).sameBut hs' fun e => F.nsCell y (e ▸ hc)
  have hA : ∀ a, Av env P (off O i) a → Av env P O a := fun a h => h.imp id fun m => m.imp (fun ⟨j, hj⟩ => ⟨j, (off_some hj).2⟩) id
  have hk' : ∀ a o, ¬ Av env P O a → s.heap.get? a = some o → h'.get? a = some o := fun a o hn e => hk a o (fun e' => hn (.inr (.inr (.inl e')))) (fun y e' => hn (.inr (.inr (.inr ⟨y, e'⟩)))) e
  refine hQ _ (F.put (s' := { s with heap := h', toks := s.toks + 1 }) ht hsz hk hns hcell (fun j hj => by unfold off; rw [if_neg hj]) (fun a h => absurd rfl (off_some h).1) (fun j y sl hj h1 h2 => ?_) ⟨v, rfl, r.mono hk' fun a h => .inl (hA a h)⟩) ?_
  · exact slot_tr (F.slots j y sl h1 h2) hk' (fun a h => .inl (hA a h)) (by unfold off; rw [if_neg hj]) fun a o e e' => hk a o (F.ownApart j a e).1 (F.ownApart j a e).2 e'
  · exact ⟨rfl, rfl, Nat.le_of_eq hsz.symm, fun a o _ hn e => hkk a o (fun e' => hn (.inr e')) e, fun j a h => .inl ⟨j, (off_some h).2⟩⟩
theorem sal_name {J : Jd} {x : Str} {pos : Pos} {i : Nat} (ht : J.tab[i]? = some (some x) := by rfl) (hl : J.sc.names.lookup x = some .local := by rfl) : SAL J (.Name x pos) (nameA i) := fun A env P O vm s ρ d v ρ' hA F r h => by
  cases h
  show W _ _ A (do standAt pos; bindName env x v) _ s
  refine W.bind (W.standAt ?_)
  unfold bindName
  exact W.bind (W.holding (W.point (W.bind (F.storeL ht hl r fun s' F' T' => W.point ⟨_, _, F', T'⟩))))
inductive TNL (J : Jd) : List PySem.Expr → List Nat → Prop
  | nil : TNL J [] []
  | cons {x : Str} {p : Pos} {i : Nat} {es : List PySem.Expr} {is : List Nat} (ht : J.tab[i]? = some (some x)) (hl : J.sc.names.lookup x = some .local) (h : TNL J es is) : TNL J (.Name x p :: es) (i :: is)
theorem Chg.c {env : Env} {L : List Addr} {O : Nat → Option Addr} {s s' : Shared} (x : Chg L s s') : CTr env O L s O s' := ⟨x.gens, x.os, x.size, fun b o hb _ e => x.keep b o hb e, fun j _ e => .inl ⟨j, e⟩⟩

/-- the new list, so far -/
structure Acc (cx : Cx) (env : Env) (P : Avd) (O : Nat → Option Addr) (a : Addr) (zs : List D) (s : Shared) : Prop where
  obj : ∃ vs n, s.heap.get? a = some { cls := .type "list", data := .seq vs n } ∧ RdAll cx s.heap (Av env P O) zs vs.toList
  inP : P a
  above : cx.h₁.objs.size ≤ a
  nm : a ≠ env.locals ∧ ∀ x, env.cells.lookup x ≠ some a

section
variable {cx : Cx} {sc : Scope} {tab : List (Option Str)} {env : Env} {P : Avd} {O O' : Nat → Option Addr} {vm : Str → Option Value} {s s' : Shared} {ρ : List Slot} {a : Addr} {zs : List D}
theorem Acc.notMut (x : Acc cx env P O a zs s) (F : FrV cx sc tab env P O vm s ρ) : ¬ muts env O a := fun m => by
  rcases m with ⟨j, hj⟩ | m | ⟨y, hy⟩
  · exact F.ownNP j a hj x.inP
  · exact x.nm.1 m
  · exact x.nm.2 y hy
theorem Acc.ext (x : Acc cx env P O a zs s) (X : Ext s s') : Acc cx env P O a zs s' :=
  let ⟨vs, n, h1, h2⟩ := x.obj
  ⟨⟨vs, n, X.keep _ _ h1, h2.keep X.keep⟩, x.inP, x.above, x.nm⟩
theorem Acc.tr (x : Acc cx env P O a zs s) (F : FrV cx sc tab env P O vm s ρ) (T : Tr env O s O' s') : Acc cx env P O' a zs s' :=
  let ⟨vs, n, h1, h2⟩ := x.obj
  ⟨⟨vs, n, T.keep _ _ (x.notMut F) h1, F.rdAllTr T h2⟩, x.inP, x.above, x.nm⟩
theorem Acc.chg {wr : List Addr} (x : Acc cx env P O a zs s) (X : Chg wr s s') (hP : ∀ b ∈ wr, P b) (ha : a ∉ wr) : Acc cx env P O a zs s' :=
  let ⟨vs, n, h1, h2⟩ := x.obj
  ⟨⟨vs, n, X.keep _ _ ha h1, h2.mono (fun b o hn e => X.keep b o (fun hw => hn (.inl (hP b hw))) e) fun _ h => .inl h⟩, x.inP, x.above, x.nm⟩
theorem Acc.length (x : Acc cx env P O a zs s) : ∃ vs n, s.heap.get? a = some { cls := .type "list", data := .seq vs n } ∧ RdAll cx s.heap (Av env P O) zs vs.toList ∧ vs.size = zs.length := by
  obtain ⟨vs, n, h1, h2⟩ := x.obj
  exact ⟨vs, n, h1, h2, by rw [← Array.length_toList, h2.length]⟩
end

noncomputable def EmOk (J : Jd) (tree : Value → Env → Sem Unit) (em : Rho → Option (List D × Rho)) : Prop :=
  ∀ (A : Around) (env : Env) (P : Avd) (O : Nat → Option Addr) (vm : Str → Option Value) (s : Shared) (ρ : Rho) (a : Addr) (zs ys : List D) (ρ' : Rho), Room A J.k → FrV J.cx J.sc J.tab env P O vm s ρ → Acc J.cx env P O a zs s → zs.length + ys.length ≤ sizeLine → em ρ = some (ys, ρ') →
    W J.cx.prog J.cx.w A (tree (.ref a) env) (fun _ s' => ∃ O' vm', FrV J.cx J.sc J.tab env P O' vm' s' ρ' ∧ Acc J.cx env P O' a (zs ++ ys) s' ∧ CTr env O [a] s O' s') s

noncomputable def emE (f : Rho → Option D) : Rho → Option (List D × Rho) := fun ρ => (f ρ).map fun y => ([y], ρ)
theorem em_last {J : Jd} {elt : PySem.Expr} {f : Rho → Option D} (he : SE J elt f) : EmOk J (fun acc env => do let _ ← PySem.call (.builtin "list.append") [acc, ← eval elt env]) (emE f) := fun A env P O vm s ρ a zs ys ρ' hA F hacc hz h => by
  unfold emE at h
  rw [Option.map_eq_some_iff] at h
  obtain ⟨y, hy, h⟩ := h
  cases h
  refine W.bind (W.mono (he A env P O vm s ρ y hA F hy) fun v s₁ ⟨X, r⟩ => W.bind ?_)
  have hacc1 := hacc.ext X
  obtain ⟨vs, n, ho, hr, hl⟩ := hacc1.length
  have hz1 : vs.size ≤ sizeLine := by rw [hl]; simp at hz; omega
  refine W.of_any (wpAny_list_append_plain (hsz := hz1) ⟨n, ho⟩ fun h' hp hs => ?_)
  show W _ _ _ _ _ _
  refine W.pure ?_
  obtain ⟨n', ho'⟩ := hp
  have F1 := F.ext X
  have hchg : Chg [a] s₁ { s₁ with heap := h' } := ⟨rfl, rfl, Nat.le_of_eq hs.1.symm, fun b o hb e => hs.extBut b o (by simpa using hb) e⟩
  refine ⟨O, vm, F1.chg hchg (fun b hb => by simp at hb; subst hb; exact hacc.inP) (fun b hb => by simp at hb; subst hb; exact hacc.above) (fun b hb => by simp at hb; subst hb; exact hacc1.notMut F1), ⟨⟨vs.push v, n', ho', ?_⟩, hacc.inP, hacc.above, hacc.nm⟩, (X.c).trans hchg.c⟩
  rw [Array.toList_push]
  exact (hr.append (RdAll.cons r RdAll.nil)).mono (fun b o hn e => hs.extBut b o (fun e' => hn (.inl (e' ▸ hacc.inP))) e) fun _ h => .inl h

noncomputable def loopC (g : D → Rho → Option Rho) (t : Rho → Option Bool) (em : Rho → Option (List D × Rho)) : List D → Rho → Option (List D × Rho)
  | [], ρ => some ([], ρ)
  | d :: ds, ρ => (g d ρ).bind fun ρ1 => (t ρ1).bind fun b => if b then (em ρ1).bind fun x => (loopC g t em ds x.2).map fun y => (x.1 ++ y.1, y.2) else loopC g t em ds ρ1

/-- the turn of a clause, as the model has it -/
noncomputable def turnOf (tgt iter : PySem.Expr) (ifs : List PySem.Expr) (tree : Value → Env → Sem Unit) (c : Value → Value → Env → Code) (it acc : Value) (env : Env) : Sem Fin :=
  standAt iter.pos >>= fun _ => pyNext it >>= fun r => match r with
      | none => pure (.done .next)
      | some v => letOwnedTupleGo tgt it v >>= fun _ => assign tgt env v >>= fun _ => tests ifs env >>= fun ok => (if ok = true then (tree acc env >>= fun _ => again (c it acc env)) else again (c it acc env))

/-- one clause's loop -/
theorem comp_loop {J : Jd} {tgt iter : PySem.Expr} {ifs : List PySem.Expr} {tree : Value → Env → Sem Unit} {c : Value → Value → Env → Code} {g : D → Rho → Option Rho} {t : Rho → Option Bool} {em : Rho → Option (List D × Rho)}
    (hden : ∀ it acc env, ∃ k, denote table (c it acc env) = (turnOf tgt iter ifs tree c it acc env).onRaise k)
    (hci : ∀ it acc env, notCI (c it acc env) = true) (hask : ∀ it acc env, isAsk (c it acc env) = false)
    (hq : ∀ it acc env, (c it acc env).quiet = true) (hund : ∀ (A : Around) it acc env, A.under (c it acc env) = A)
    (ht : SAL J tgt g) (hts : TsOk J ifs t) (hem : EmOk J tree em)
    {A : Around} {env : Env} {P : Avd} {O : Nat → Option Addr} {vm : Str → Option Value} {s : Shared} {ρ ρ' : Rho} {a : Addr} {zs ys : List D} {ds : List D} {I : Addr} {wr : List Addr} {N : Nat} {U : Avd} {St : Nat → Heap → Prop} (hA : Room A J.k) (F : FrV J.cx J.sc J.tab env P O vm s ρ) (hacc : Acc J.cx env P O a zs s)
    (hz : zs.length + ys.length ≤ sizeLine) (h : loopC g t em ds ρ = some (ys, ρ')) (wk : Wk J.cx A tgt I wr N ds U St) (st : St 0 s.heap) (hwP : ∀ b ∈ wr, P b) (hwb : ∀ b ∈ wr, J.cx.h₁.objs.size ≤ b) (hwm : ∀ b ∈ wr, ¬ muts env O b) (hwa : a ∉ wr)
    (hN : N ≤ s.heap.objs.size) (hU : ∀ b, Av env P O b → U b ∨ b ∈ wr ∨ N ≤ b) (hUm : ∀ b, b = a ∨ muts env O b → U b ∨ N ≤ b) :
    C J.cx.prog J.cx.w A (c (.ref I) (.ref a) env) (fun _ s' => ∃ O' vm', FrV J.cx J.sc J.tab env P O' vm' s' ρ' ∧ Acc J.cx env P O' a (zs ++ ys) s' ∧ CTr env O (a :: wr) s O' s') s := by
  refine C.loop (hci _ _ _) (hask _ _ _) (hq _ _ _) (fun k s₃ => ∃ O₁ vm₁ ρ₁ zs₁ ys₁ i, FrV J.cx J.sc J.tab env P O₁ vm₁ s₃ ρ₁ ∧ Acc J.cx env P O₁ a zs₁ s₃ ∧ CTr env O (a :: wr) s O₁ s₃ ∧ St i s₃.heap ∧ i ≤ ds.length ∧ k = ds.length - i ∧
      loopC g t em (ds.drop i) ρ₁ = some (ys₁, ρ') ∧ zs₁ ++ ys₁ = zs ++ ys) ?_ ds.length
    ⟨O, vm, ρ, zs, ys, 0, F, hacc, ⟨rfl, rfl, Nat.le_refl _, fun _ _ _ _ e => e, fun j _ e => .inl ⟨j, e⟩⟩, st, Nat.zero_le _, rfl, h, rfl⟩
  rintro k s₃ ⟨O₁, vm₁, ρ₁, zs₁, ys₁, i, F₁, hacc₁, T₁, st, hle, rfl, h₃, hzy⟩
  rw [hund]
  obtain ⟨kk, hd⟩ := hden (.ref I) (.ref a) env
  rw [hd]
  refine W.onRaise (W.bind (W.standAt (W.bind ?_)))
  have hnm : ∀ (O₂ : Nat → Option Addr) (s₄ : Shared), CTr env O (a :: wr) s O₂ s₄ → ∀ b ∈ wr, b < s.heap.objs.size → ¬ muts env O₂ b := fun O₂ s₄ T b hb hlt hm => by
    rcases hm with ⟨j, hj⟩ | hm
    · rcases T.own j b hj with ⟨l, hl⟩ | hge
      · exact hwm b hb (.inl ⟨l, hl⟩)
      · exact Nat.lt_irrefl _ (Nat.lt_of_lt_of_le hlt hge)
    · exact hwm b hb (.inr hm)
  have hlw : ∀ b ∈ wr, b < s.heap.objs.size := fun b hb => F.av b (hwP b hb)
  have hUm1 : ∀ (O₂ : Nat → Option Addr) (s₄ : Shared), CTr env O (a :: wr) s O₂ s₄ → ∀ b, ¬ U b → b < N → ¬ muts env O₂ b := fun O₂ s₄ T b hn hlt hm => by
    rcases hm with ⟨j, hj⟩ | hm
    · rcases T.own j b hj with ⟨l, hl⟩ | hge
      · rcases hUm b (.inr (.inl ⟨l, hl⟩)) with h1 | h1
        · exact hn h1
        · exact Nat.lt_irrefl _ (Nat.lt_of_lt_of_le hlt h1)
      · exact Nat.lt_irrefl _ (Nat.lt_of_lt_of_le hlt (Nat.le_trans hN hge))
    · rcases hUm b (.inr (.inr hm)) with h1 | h1
      · exact hn h1
      · exact Nat.lt_irrefl _ (Nat.lt_of_lt_of_le hlt h1)
  have hUa : ∀ b, ¬ U b → b < N → b ≠ a := fun b hn hlt e => by
    rcases hUm b (.inl e) with h1 | h1
    · exact hn h1
    · exact Nat.lt_irrefl _ (Nat.lt_of_lt_of_le hlt h1)
  have chgT : ∀ s₄, Chg wr s₃ s₄ → CTr env O (a :: wr) s O₁ s₄ := fun s₄ x => T₁.trans (x.c.sub fun b hb _ => List.mem_cons_of_mem _ hb)
  rcases Nat.lt_or_ge i ds.length with hlt | hge
  · have hd : ds[i]? = some ds[i] := List.getElem?_eq_getElem hlt
    have hdrop : ds.drop i = ds[i] :: ds.drop (i + 1) := List.drop_eq_getElem_cons hlt
    rw [hdrop, loopC, Option.bind_eq_some_iff] at h₃
    obtain ⟨ρ4, hg4, h₃⟩ := h₃
    rw [Option.bind_eq_some_iff] at h₃
    obtain ⟨bb, hb4, h₃⟩ := h₃
    refine W.mono (wk.item i ds[i] s₃ (Av env P O₁) (fun v s₄ => W J.cx.prog J.cx.w A (assign tgt env v >>= fun _ => tests ifs env >>= fun ok => (if ok = true then (tree (.ref a) env >>= fun _ => again (c (.ref I) (.ref a) env)) else again (c (.ref I) (.ref a) env))) _ s₄) hd st F₁.baseOf (fun b hb => ⟨?_, F₁.avLt hb⟩) fun v s₄ x r st' => ?_) fun r s₄ hr => by obtain ⟨v, e, h₄⟩ := hr; subst e; exact W.bind h₄
    · rcases hb with hb | ⟨j, hj⟩ | hb
      · exact hU b (.inl hb)
      · rcases T₁.own j b hj with ⟨l, hl⟩ | hge
        · exact hU b (.inr (.inl ⟨l, hl⟩))
        · exact .inr (.inr (Nat.le_trans hN hge))
      · exact hU b (.inr (.inr hb))
    have hwm1 : ∀ b ∈ wr, ¬ muts env O₁ b := fun b hb => hnm O₁ s₃ T₁ b hb (hlw b hb)
    have F4 := F₁.chg x hwP hwb hwm1
    have acc4 := hacc₁.chg x hwP hwa
    refine W.bind (W.mono (ht A env _ O₁ vm₁ s₄ ρ₁ ds[i] v ρ4 hA F4 r hg4) fun _ s₅ ⟨O5, vm5, F5, T5⟩ => ?_)
    have acc5 := acc4.tr F4 T5.tr
    have C5 : CTr env O (a :: wr) s O5 s₅ := (chgT s₄ x).trans (T5.sub fun b hb _ => nomatch hb)
    have st5 : St (i + 1) s₅.heap := wk.frame _ _ _ st' fun b o hn hlt e => T5.keep b o (fun h => nomatch h) (fun h => hUm1 O₁ s₃ T₁ b hn hlt h.m) e
    refine W.bind (W.mono (hts A env P O5 vm5 s₅ ρ4 bb hA F5 hb4) fun ok s₆ ⟨X6, e⟩ => ?_)
    subst e
    have F6 := F5.ext X6
    have acc6 := acc5.ext X6
    have C6 : CTr env O (a :: wr) s O5 s₆ := C5.trans X6.c
    have st6 : St (i + 1) s₆.heap := wk.frame _ _ _ st5 fun b o _ _ e => X6.keep b o e
    cases ok with
    | false =>
      simp only [Bool.false_eq_true, if_false] at h₃ ⊢
      exact W.pure (Or.inl ⟨rfl, ds.length - (i + 1), by omega, O5, vm5, ρ4, zs₁, ys₁, i + 1, F6, acc6, C6, st6, hlt, rfl, h₃, hzy⟩)
    | true =>
      simp only [if_true] at h₃ ⊢
      rw [Option.bind_eq_some_iff] at h₃
      obtain ⟨⟨ys7, ρ7⟩, hem7, h₃⟩ := h₃
      rw [Option.map_eq_some_iff] at h₃
      obtain ⟨⟨ys8, ρ8⟩, h8, h₃⟩ := h₃
      cases h₃
      have hl : zs₁.length + (ys7.length + ys8.length) = zs.length + ys.length := by
        have := congrArg List.length hzy
        simp at this
        omega
      refine W.bind (W.mono (hem A env P O5 vm5 s₆ ρ4 a zs₁ ys7 ρ7 hA F6 acc6 (by omega) hem7) fun _ s₇ ⟨O7, vm7, F7, acc7, T7⟩ => ?_)
      refine W.pure (Or.inl ⟨rfl, ds.length - (i + 1), by omega, O7, vm7, ρ7, zs₁ ++ ys7, ys8, i + 1, F7, acc7, C6.trans (T7.sub fun b hb _ => by simp at hb; subst hb; exact List.mem_cons_self), ?_, hlt, rfl, h8, ?_⟩)
      · exact wk.frame _ _ _ st6 fun b o hn hlt e => T7.keep b o (by simp; exact hUa b hn hlt) (fun h => hUm1 O5 s₆ C6 b hn hlt h.m) e
      · rw [List.append_assoc]; exact hzy
  · have hi : i = ds.length := by omega
    subst hi
    rw [List.drop_length, loopC] at h₃
    cases h₃
    rw [List.append_nil] at hzy
    subst hzy
    have hwm1 : ∀ b ∈ wr, ¬ muts env O₁ b := fun b hb => hnm O₁ s₃ T₁ b hb (hlw b hb)
    refine W.mono (wk.done s₃ (fun s₄ => ∃ O' vm', FrV J.cx J.sc J.tab env P O' vm' s₄ _ ∧ Acc J.cx env P O' a _ s₄ ∧ CTr env O (a :: wr) s O' s₄) st F₁.baseOf fun s₄ x => ⟨O₁, vm₁, F₁.chg x hwP hwb hwm1, hacc₁.chg x hwP hwa, chgT s₄ x⟩) fun r s₄ ⟨e, h₄⟩ => by subst e; exact W.pure h₄
end Mine

end
section
open PySem PySem.W PySem.Calls PyProof.Rows
set_option Elab.async false
set_option maxRecDepth 100000
namespace Mine

noncomputable def relab (scope sc : Scope) : Scope := { scope with names := scope.names.map fun (n, k) => if (k == .free && sc.kind == .function && sc.names.lookup n == some .cell) then (n, .cell) else (n, k) }
theorem lookup_relab (sc : Scope) (x : Str) : ∀ names : List (Str × NameKind), (names.map fun (n, k) => if (k == NameKind.free && sc.kind == .function && sc.names.lookup n == some .cell) then (n, NameKind.cell) else (n, k)).lookup x =
    (names.lookup x).map fun k => if (k == .free && sc.kind == .function && sc.names.lookup x == some .cell) then .cell else k
  | [] => rfl
  | (n, k) :: r => by
    have ih := lookup_relab sc x r
    have e : (if (k == NameKind.free && sc.kind == .function && sc.names.lookup n == some .cell) then (n, NameKind.cell) else (n, k)) = (n, if (k == NameKind.free && sc.kind == .function && sc.names.lookup n == some .cell) then NameKind.cell else k) := by split <;> rfl
    rw [List.map_cons]
    show List.lookup x ((if (k == NameKind.free && sc.kind == .function && sc.names.lookup n == some .cell) then (n, NameKind.cell) else (n, k)) :: _) = _
    rw [e]
    cases hx : x == n with
    | true =>
      have := eq_of_beq hx
      subst this
      simp [List.lookup_cons]
    | false => simp only [List.lookup_cons, hx]; exact ih

theorem relab_local {scope sc : Scope} {x : Str} : (relab scope sc).names.lookup x = some .local ↔ scope.names.lookup x = some .local := by
  unfold relab
  rw [lookup_relab]
  cases scope.names.lookup x with
  | none => simp
  | some k => cases k <;> simp <;> split <;> simp
theorem relab_free {scope sc : Scope} {x : Str} (h : scope.names.lookup x = some .free) : (relab scope sc).names.lookup x = some .cell ∨ (relab scope sc).names.lookup x = some .free := by
  unfold relab
  rw [lookup_relab, h]
  simp only [Option.map_some]
  split
  · exact .inl rfl
  · exact .inr rfl

/-! the closure -/
noncomputable def clRev (cells : List (Str × Addr)) : List (Str × NameKind) → List (Str × Addr) → List (Str × Addr)
  | [], acc => acc
  | (n, k) :: r, acc => if k == .free then clRev cells r ((n, (cells.lookup n).getD 0) :: acc) else clRev cells r acc

theorem closure_ok {scope : Scope} {env : Env} (h : ∀ x, (x, NameKind.free) ∈ scope.names → (env.cells.lookup x).isSome = true) : closureFor scope env = pure (clRev env.cells scope.names []) := by
  unfold closureFor
  have : ∀ (names : List (Str × NameKind)) (acc : List (Str × Addr)), (∀ x, (x, NameKind.free) ∈ names → (env.cells.lookup x).isSome = true) →
      (forIn names acc fun x r => (match x with | (name, kind) => if (kind == NameKind.free) = true then do let c ← cellOf env name; pure (ForInStep.yield ((name, c) :: r)) else pure (ForInStep.yield r)) : Sem (List (Str × Addr))) = pure (clRev env.cells names acc) := by
    intro names
    induction names with
    | nil => intro acc _; rfl
    | cons x r ih =>
      intro acc h
      obtain ⟨n, k⟩ := x
      rw [List.forIn_cons]
      have hr : ∀ x, (x, NameKind.free) ∈ r → (env.cells.lookup x).isSome = true := fun x hx => h x (List.mem_cons_of_mem _ hx)
      by_cases hk : (k == NameKind.free) = true
      · have hk' : k = .free := eq_of_beq hk
        subst hk'
        obtain ⟨c, hc⟩ := Option.isSome_iff_exists.mp (h n List.mem_cons_self)
        have e : cellOf env n = pure c := by unfold cellOf; rw [hc]
        simp only [hk, if_true, e]
        rw [clRev, if_pos hk, hc]
        exact ih _ hr
      · simp only [hk, Bool.false_eq_true, if_false]
        rw [clRev, if_neg hk]
        exact ih _ hr
  have h2 := this scope.names [] h
  exact Eq.trans (congrArg (fun t : Sem (List (Str × Addr)) => t >>= fun r => pure r) h2) rfl

theorem clRev_mem {cells : List (Str × Addr)} {x : Str} {c : Addr} : ∀ {names : List (Str × NameKind)} {acc : List (Str × Addr)}, (∀ y, (y, NameKind.free) ∈ names → (cells.lookup y).isSome = true) → (x, c) ∈ clRev cells names acc → (x, c) ∈ acc ∨ ((x, NameKind.free) ∈ names ∧ cells.lookup x = some c)
  | [], _, _, h => .inl h
  | (n, k) :: r, acc, hf, h => by
    rw [clRev] at h
    have hr : ∀ y, (y, NameKind.free) ∈ r → (cells.lookup y).isSome = true := fun y hy => hf y (List.mem_cons_of_mem _ hy)
    split at h
    · rename_i hk
      have hk' : k = .free := eq_of_beq hk
      subst hk'
      rcases clRev_mem hr h with h | ⟨h1, h2⟩
      · rcases List.mem_cons.mp h with h | h
        · obtain ⟨c', hc⟩ := Option.isSome_iff_exists.mp (hf n List.mem_cons_self)
          rw [hc] at h
          cases h
          exact .inr ⟨List.mem_cons_self, hc⟩
        · exact .inl h
      · exact .inr ⟨List.mem_cons_of_mem _ h1, h2⟩
    · rcases clRev_mem hr h with h | ⟨h1, h2⟩
      · exact .inl h
      · exact .inr ⟨List.mem_cons_of_mem _ h1, h2⟩
theorem clRev_has {cells : List (Str × Addr)} {x : Str} : ∀ {names : List (Str × NameKind)} {acc : List (Str × Addr)}, ((x, NameKind.free) ∈ names ∨ ∃ c, (x, c) ∈ acc) → ∃ c, (x, c) ∈ clRev cells names acc
  | [], _, h => h.elim (fun h => nomatch h) id
  | (n, k) :: r, acc, h => by
    rw [clRev]
    split
    · rename_i hk
      rcases h with h | ⟨c, h⟩
      · rcases List.mem_cons.mp h with h | h
        · cases h
          exact clRev_has (.inr ⟨_, List.mem_cons_self⟩)
        · exact clRev_has (.inl h)
      · exact clRev_has (.inr ⟨c, List.mem_cons_of_mem _ h⟩)
    · rename_i hk
      rcases h with h | h
      · rcases List.mem_cons.mp h with h | h
        · cases h
          exact absurd (by rfl) hk
        · exact clRev_has (.inl h)
      · exact clRev_has (.inr h)
theorem clRev_names {cells : List (Str × Addr)} : ∀ {names : List (Str × NameKind)} {acc : List (Str × Addr)}, (names.map (·.1)).Nodup → (acc.map (·.1)).Nodup → (∀ x ∈ names, ∀ y ∈ acc, x.1 ≠ y.1) → ((clRev cells names acc).map (·.1)).Nodup
  | [], _, _, h, _ => h
  | (n, k) :: r, acc, h1, h2, h3 => by
    rw [List.map_cons, List.nodup_cons] at h1
    rw [clRev]
    split
    · refine clRev_names h1.2 ?_ ?_
      · rw [List.map_cons, List.nodup_cons]
        refine ⟨fun hm => ?_, h2⟩
        obtain ⟨y, hy, e⟩ := List.mem_map.mp hm
        exact h3 _ List.mem_cons_self y hy e.symm
      · intro x hx y hy
        rcases List.mem_cons.mp hy with hy | hy
        · subst hy
          intro e
          exact h1.1 (e ▸ List.mem_map.mpr ⟨x, hx, rfl⟩)
        · exact h3 x (List.mem_cons_of_mem _ hx) y hy
    · exact clRev_names h1.2 h2 fun x hx y hy => h3 x (List.mem_cons_of_mem _ hx) y hy

theorem lookup_of_mem_nodup {β : Type} {x : Str} {c : β} : ∀ {l : List (Str × β)}, (l.map (·.1)).Nodup → (x, c) ∈ l → l.lookup x = some c
  | [], _, h => nomatch h
  | (n, k) :: r, h1, h => by
    rw [List.map_cons, List.nodup_cons] at h1
    rcases List.mem_cons.mp h with h | h
    · cases h; simp [List.lookup_cons]
    · have hne : (x == n) = false := by
        cases hx : x == n with
        | false => rfl
        | true => exact absurd (List.mem_map.mpr ⟨(x, c), h, eq_of_beq hx⟩) h1.1
      simp only [List.lookup_cons, hne]
      exact lookup_of_mem_nodup h1.2 h

theorem pairwise_of_inj {l : List (Str × Addr)} (h1 : (l.map (·.1)).Nodup) (h2 : ∀ x y c, (x, c) ∈ l → (y, c) ∈ l → x = y) : l.Pairwise fun x y => x.2 ≠ y.2 := by
  induction l with
  | nil => exact .nil
  | cons a r ih =>
    rw [List.map_cons, List.nodup_cons] at h1
    refine .cons (fun b hb e => ?_) (ih h1.2 fun x y c hx hy => h2 x y c (List.mem_cons_of_mem _ hx) (List.mem_cons_of_mem _ hy))
    have : a.1 = b.1 := h2 a.1 b.1 a.2 List.mem_cons_self (List.mem_cons_of_mem _ (by rw [e]; exact hb))
    exact h1.1 (this ▸ List.mem_map.mpr ⟨b, hb, rfl⟩)

/-! the comprehension's own frame -/
noncomputable def seen (scope : Scope) : Option Str → Option Str
  | some x => if scope.names.lookup x == some .free then some x else none
  | none => none
noncomputable def hideOwn : Slot → Slot
  | .own _ => .unb
  | x => x
noncomputable def Jc (J : Jd) (scope : Scope) (vars : List Str) : Jd := ⟨J.cx, relab scope J.sc, J.tab.map (seen scope) ++ vars.map some, J.k⟩
noncomputable def rhoC (vars : List Str) (ρ : Rho) : Rho := ρ.map hideOwn ++ vars.map fun _ => .unb

structure CompSc (J : Jd) (scope : Scope) (vars : List Str) : Prop where
  kind : scope.kind = .function
  nodup : (scope.names.map (·.1)).Nodup
  noCell : ∀ x ∈ scope.names, x.2 ≠ .cell
  free : ∀ x ∈ scope.names, x.2 = .free → (some x.1 ∈ J.tab) ∧ J.sc.names.lookup x.1 ≠ some .local
  vloc : ∀ x ∈ vars, scope.names.lookup x = some .local
  vnd : vars.Nodup

theorem lookup_mem' {β : Type} {x : Str} {c : β} : ∀ {l : List (Str × β)}, l.lookup x = some c → (x, c) ∈ l
  | [], h => by simp at h
  | (n, k) :: r, h => by
    rw [List.lookup_cons] at h
    split at h
    · rename_i hx
      have := eq_of_beq hx
      subst this
      cases h
      exact List.mem_cons_self
    · exact List.mem_cons_of_mem _ (lookup_mem' h)
end Mine

end
section
open PySem PySem.W PySem.Calls PyProof.Rows
set_option Elab.async false
set_option maxRecDepth 100000
namespace Mine

theorem seen_some {scope : Scope} {o : Option Str} {x : Str} (h : seen scope o = some x) : o = some x ∧ scope.names.lookup x = some .free := by
  cases o with
  | none => cases h
  | some y =>
    unfold seen at h
    simp only at h
    split at h
    · rename_i hb
      cases h
      exact ⟨rfl, eq_of_beq hb⟩
    · cases h

theorem tabC_cases {J : Jd} {scope : Scope} {vars : List Str} {i : Nat} {x : Str} (h : (Jc J scope vars).tab[i]? = some (some x)) :
    (i < J.tab.length ∧ J.tab[i]? = some (some x) ∧ scope.names.lookup x = some .free) ∨ (J.tab.length ≤ i ∧ vars[i - J.tab.length]? = some x) := by
  unfold Jc at h
  simp only at h
  rcases Nat.lt_or_ge i J.tab.length with hi | hi
  · rw [List.getElem?_append_left (by simpa using hi), List.getElem?_map, Option.map_eq_some_iff] at h
    obtain ⟨o, h1, h2⟩ := h
    obtain ⟨e1, e2⟩ := seen_some h2
    subst e1
    exact .inl ⟨hi, h1, e2⟩
  · rw [List.getElem?_append_right (by simpa using hi), List.length_map, List.getElem?_map, Option.map_eq_some_iff] at h
    obtain ⟨y, h1, h2⟩ := h
    cases h2
    exact .inr ⟨hi, h1⟩

theorem Nodup.inj {l : List Str} (h : l.Nodup) {i j : Nat} {x : Str} (h1 : l[i]? = some x) (h2 : l[j]? = some x) : i = j := by
  obtain ⟨hi, e1⟩ := List.getElem?_eq_some_iff.mp h1
  obtain ⟨hj, e2⟩ := List.getElem?_eq_some_iff.mp h2
  have hp := List.pairwise_iff_getElem.mp h
  rcases Nat.lt_trichotomy i j with hlt | he | hlt
  · exact absurd (e1.trans e2.symm) (hp i j hi hj hlt)
  · exact he
  · exact absurd (e2.trans e1.symm) (hp j i hj hi hlt)

/-- the frame of a comprehension, as it begins -/
theorem FrV.comp {J : Jd} {scope : Scope} {vars : List Str} {env : Env} {P : Avd} {O : Nat → Option Addr} {vm : Str → Option Value} {s s' : Shared} {ρ : Rho} (cs : CompSc J scope vars) (F : FrV J.cx J.sc J.tab env P O vm s ρ) (X : Ext s s')
    {cenv : Env} {P' : Avd} (e1 : cenv.scope = relab scope J.sc) (e2 : cenv.globals = env.globals) (e3 : cenv.builtins = env.builtins) (e4 : cenv.cells = clRev env.cells scope.names [])
    (hl : s.heap.objs.size ≤ cenv.locals) (hns : s'.heap.Ns cenv.locals fun _ => none) (hP : ∀ a, P' a → Av env P O a ∨ s.heap.objs.size ≤ a) (hP' : ∀ a, P' a → a < s'.heap.objs.size) :
    ∃ vm', FrV J.cx (Jc J scope vars).sc (Jc J scope vars).tab cenv P' noO vm' s' (rhoC vars ρ) := by
  have hfr : ∀ x, (x, NameKind.free) ∈ scope.names → (env.cells.lookup x).isSome = true := fun x hx => by
    obtain ⟨h1, h2⟩ := cs.free _ hx rfl
    obtain ⟨i, hi⟩ := List.mem_iff_getElem?.mp h1
    rcases F.known i x hi with h | h
    · exact absurd h h2
    · exact h.2
  have hcl : ∀ x c, cenv.cells.lookup x = some c → (x, NameKind.free) ∈ scope.names ∧ env.cells.lookup x = some c := fun x c h => by
    rw [e4] at h
    rcases clRev_mem hfr (lookup_mem' h) with h | h
    · exact nomatch h
    · exact h
  have hclm : ∀ x c, (x, c) ∈ cenv.cells → env.cells.lookup x = some c := fun x c h => by
    rw [e4] at h
    rcases clRev_mem hfr h with h | h
    · exact nomatch h
    · exact h.2
  have hnd : (cenv.cells.map (·.1)).Nodup := by rw [e4]; exact clRev_names cs.nodup (by simp) (fun _ _ y hy => nomatch hy)
  have hnl : ∀ x c, cenv.cells.lookup x = some c → (relab scope J.sc).names.lookup x ≠ some .local := fun x c h e => by
    have := relab_local.mp e
    rw [lookup_of_mem_nodup cs.nodup (hcl x c h).1] at this
    cases this
  have hAv : ∀ a, Av cenv P' noO a → Av env P O a ∨ s.heap.objs.size ≤ a := fun a h => by
    rcases h with h | ⟨j, hj⟩ | h | ⟨x, hx⟩
    · exact hP a h
    · cases hj
    · exact .inr (h ▸ hl)
    · exact .inl (.inr (.inr (.inr ⟨x, (hcl x a hx).2⟩)))
  have hbase := F.baseOf
  refine ⟨fun x => if (relab scope J.sc).names.lookup x = some .local then none else vm x, {
    scope := e1, kind := cs.kind, glob := e2.trans F.glob, blt := e3.trans F.blt
    base := fun a o e => X.keep a o (F.base a o e)
    ns := ⟨_, hns, fun x hx => (if_pos hx).symm⟩
    cell := fun x c h => by
      show s'.heap.IsCell c (if _ then none else vm x)
      rw [if_neg (hnl x c h)]
      exact (F.cell x c (hcl x c h).2).keeps X.keep
    apart := pairwise_of_inj hnd fun x y c hx hy => name_of_addr F.apart (mem_of_lookup (hclm x c hx)) (mem_of_lookup (hclm y c hy))
    fresh := fun a m => by
      rcases m with ⟨j, hj⟩ | h | ⟨x, hx⟩
      · cases hj
      · rw [h]; exact ⟨Nat.le_trans hbase.1 hl, hns.lt⟩
      · have := F.fresh a (.inr (.inr ⟨x, (hcl x a hx).2⟩))
        exact ⟨this.1, Nat.lt_of_lt_of_le this.2 X.size⟩
    nsCell := fun x e => Nat.lt_irrefl _ (Nat.lt_of_lt_of_le (F.fresh _ (.inr (.inr ⟨x, (hcl x _ e).2⟩))).2 hl)
    av := hP'
    len := by unfold rhoC Jc; simp [F.len]
    tabInj := fun i j x hi hj => by
      rcases tabC_cases hi with ⟨_, h1, h2⟩ | ⟨h1, h2⟩ <;> rcases tabC_cases hj with ⟨_, k1, k2⟩ | ⟨k1, k2⟩
      · exact F.tabInj i j x h1 k1
      · rw [cs.vloc x (List.mem_of_getElem? k2)] at h2; cases h2
      · rw [cs.vloc x (List.mem_of_getElem? h2)] at k2; cases k2
      · have := Nodup.inj cs.vnd h2 k2; omega
    cellNL := hnl
    known := fun i x hi => by
      rcases tabC_cases hi with ⟨_, h1, h2⟩ | ⟨h1, h2⟩
      · refine .inr ⟨relab_free h2, ?_⟩
        obtain ⟨c, hc⟩ := clRev_has (cells := env.cells) (acc := []) (.inl (lookup_mem' h2))
        rw [← e4] at hc
        rw [lookup_of_mem_nodup hnd hc]; rfl
      · exact .inl (relab_local.mpr (cs.vloc x (List.mem_of_getElem? h2)))
    slots := fun i x sl h1 h2 => ?_
    ownInj := fun i j a h _ => nomatch h
    ownSlot := fun i a h => nomatch h
    ownApart := fun i a h => nomatch h
    ownNP := fun i a h => nomatch h }⟩
  unfold rhoC at h2
  rcases tabC_cases h1 with ⟨hi, h3, h4⟩ | ⟨hi, h3⟩
  · rw [List.getElem?_append_left (by rw [List.length_map, F.len]; exact hi), List.getElem?_map, Option.map_eq_some_iff] at h2
    obtain ⟨sl0, h5, h6⟩ := h2
    have hs := F.slots i x sl0 h3 h5
    have hv : (if (relab scope J.sc).names.lookup x = some .local then none else vm x) = vm x := if_neg fun e => by rw [relab_local.mp e] at h4; cases h4
    simp only [hv]
    cases sl0 with
    | unb => subst h6; trivial
    | own xs => subst h6; trivial
    | val d =>
      subst h6
      obtain ⟨v, e, r⟩ := hs
      exact ⟨v, e, rd_moreP hAv X.keep (Nat.le_refl _) r⟩
  · rw [List.getElem?_append_right (by rw [List.length_map, F.len]; exact hi), List.getElem?_map, Option.map_eq_some_iff] at h2
    obtain ⟨_, _, h6⟩ := h2
    subst h6
    trivial

noncomputable def useQ (prog : Program) (w : World) (A : Around) (use : Option (Value → Sem Unit)) (Q : Value → Shared → Prop) (acc : Value) (L : Addr) (s' : Shared) : Prop := match use with
  | none => ∃ m, s'.heap.Ns L m ∧ ∀ h', Heap.SameBut L s'.heap h' → Q acc { s' with heap := h' }
  | some u => W prog w A (u acc) (fun _ s'' => ∃ m, s''.heap.Ns L m ∧ ∀ h', Heap.SameBut L s''.heap h' → Q .none { s'' with heap := h' }) s'
section
variable {prog : Program} {w : World} {A : Around} {s : Shared} {env : Env}
theorem W.comprehension {e : PySem.Expr} {scope : Scope} {pos : Pos} {newAcc first : Sem Value} {g : Comprehension} {gs : List Comprehension} {cl : List (Str × Addr)} {use : Option (Value → Sem Unit)}
    {Q : Value → Shared → Prop} (hcl : clausesOf e = g :: gs) (hclos : closureFor scope env = Pure.pure cl)
    (hkind : scope.kind = .function) (hnames : ∀ x ∈ scope.names, x.2 = .local → scope.names.lookup x.1 = some .local)
    (h : W prog w A first (fun x s₁ => foldedSetIterable g.iter env x = Pure.pure x ∧ W prog w A (pyIter x) (fun it s₂ => W prog w A newAcc (fun acc s₃ =>
      W prog w A (newFunctionEnv scope env.globals cl [] env.qual none .none (some env)) (fun cenv s₄ =>
        C prog w A (.compStart e 0 it acc { cenv with scope := relabel scope env }) (fun _ s' => useQ prog w A use Q acc cenv.locals s') s₄) s₃) s₂) s₁) s) :
    W prog w A (PySem.comprehension e scope env pos newAcc false first use) Q s := by
  unfold PySem.comprehension
  rw [hclos, hcl]
  refine W.bind (W.mono h fun x s₁ ⟨hs, h₁⟩ => W.bind (W.standAt (W.bind (W.of_eq hs (W.pure (W.bind (W.holding (W.mono h₁ fun it s₂ h₂ => ?_))))))))
  have hfin : W prog w A newAcc (fun acc s₃ => W prog w A (newFunctionEnv scope env.globals cl [] env.qual none .none (some env)) (fun cenv s₄ =>
        C prog w A (.compStart e 0 it acc { cenv with scope := relabel scope env }) (fun _ s' => useQ prog w A use Q acc cenv.locals s') s₄) s₃) s₂ := h₂
  cases use with
  | none =>
    simp only [Option.isSome_none, Bool.false_eq_true, if_false]
    refine W.bind (W.mono hfin fun acc s₃ h₃ => W.bind (W.pure (W.bind (W.mono h₃ fun cenv s₄ h₄ => ?_))))
    have hv : ∀ x ∈ (scope.names.filter fun x => (x.2 == .local || x.2 == .cell) && x.1 != (".0" : Str)).reverse, x.2 = .local →
        Env.kindOf { cenv with scope := relabel scope env } x.1 = some .local := fun x hx hl => lookup_relabel_local (hnames x (List.mem_filter.mp (List.mem_reverse.mp hx)).1 hl)
    refine W.holding (W.bind (W.attempt (W.holding (W.run (h₄.mono fun f s' hr => ?_)))))
    obtain ⟨m, hn, hr⟩ := hr
    exact W.bind (W.holding (W.of_any (wpAny_comp_letGo (cenv := { cenv with scope := relabel scope env }) hkind _ s' m hv hn fun h' m' _ hs' => W.pure (hr h' hs'))))
  | some u =>
    simp only [Option.isSome_some, if_true]
    refine W.bind (W.standAt (W.bind (W.mono hfin fun acc s₃ h₃ => W.bind (W.pure (W.bind (W.mono h₃ fun cenv s₄ h₄ => ?_))))))
    have hv : ∀ x ∈ (scope.names.filter fun x => (x.2 == .local || x.2 == .cell) && x.1 != (".0" : Str)).reverse, x.2 = .local →
        Env.kindOf { cenv with scope := relabel scope env } x.1 = some .local := fun x hx hl => lookup_relabel_local (hnames x (List.mem_filter.mp (List.mem_reverse.mp hx)).1 hl)
    have hv' : ∀ x ∈ (scope.names.filter fun x => (x.2 == .local || x.2 == .cell) && x.1 != (".0" : Str)).reverse.drop 1 ++ (scope.names.filter fun x => (x.2 == .local || x.2 == .cell) && x.1 != (".0" : Str)).reverse.take 1,
        x.2 = .local → Env.kindOf { cenv with scope := relabel scope env } x.1 = some .local := fun x hx hl => by
      rcases List.mem_append.mp hx with h1 | h1
      · exact hv x (List.mem_of_mem_drop h1) hl
      · exact hv x (List.mem_of_mem_take h1) hl
    refine W.holding (W.bind (W.attempt (W.holding (W.run (h₄.mono fun f s' hr => ?_)))))
    refine W.bind (W.rule (W.bind (W.holding (W.mono hr fun _ s'' hr' => ?_))))
    obtain ⟨m, hn, hr'⟩ := hr'
    exact W.bind (W.of_any (wpAny_comp_letGo (cenv := { cenv with scope := relabel scope env }) hkind _ s'' m hv' hn fun h' m' _ hs' => W.pure (hr' h' hs')))

theorem C.compStart {e : PySem.Expr} {d : Nat} {it acc : Value} {g : Comprehension} {R : Flow → Shared → Prop} (hg : (clausesOf e)[d]? = some g) (hga : (g.is_async != 0) = false) (hfr : (Code.compStart e d it acc env).isFrame = false)
    (hun : ∀ A : Around, A.under (Code.compStart e d it acc env) = A) (hq : ∀ it, (Code.compLoop e d it acc env).quiet = true)
    (h : W prog w A (pyIter it) (fun it' s' => it' = it ∧ s' = s) s) (hl : C prog w A (.compLoop e d it acc env) R s) : C prog w A (.compStart e d it acc env) R s := by
  refine C.of_tree rfl rfl ?_
  rw [hun]
  show W _ _ A (if (Code.compStart e d it acc env).isFrame then (PySem.compStart e d it acc env).onRaise (leaving env) else (PySem.compStart e d it acc env).onRaise (fun x => do noteFrame x env; PySem.standAt theWindowsPlace)) _ s
  rw [hfr]
  simp only [Bool.false_eq_true, if_false]
  refine W.onRaise ?_
  unfold PySem.compStart
  rw [hg]
  simp only [Option.elim_some, hga, Bool.false_eq_true, if_false]
  have hask : ∀ {β : Type} {k : Setting → Sem β} {Q : β → Shared → Prop}, (∀ x, W prog w A (k x) Q s) → W prog w A (PySem.ask >>= k) Q s := fun hk => W.bind (W.of_any (wpAny_askSetting (hk _)))
  refine hask fun x => ?_
  split
  · first
    | exact W.pure ⟨hq _, hl⟩
    | exact W.bind (W.pure (W.pure ⟨hq _, hl⟩))
  · first
    | exact W.bind (W.rule (W.bind (W.standAt (W.bind (W.mono h fun it' s' ⟨e1, e2⟩ => by subst e1 e2; exact W.pure ⟨hq _, hl⟩)))))
    | exact W.bind (W.rule (W.bind (W.standAt (W.bind (W.mono h fun it' s' ⟨e1, e2⟩ => by subst e1 e2; exact W.bind (W.pure (W.pure ⟨hq _, hl⟩)))))))
end
end Mine

end
section
open PySem PySem.W PySem.Calls PyProof.Rows
set_option Elab.async false
set_option maxRecDepth 100000
namespace Mine

noncomputable def compF (vars : List Str) (f : Rho → Option (List D)) (g : D → Rho → Option Rho) (t : Rho → Option Bool) (em : Rho → Option (List D × Rho)) : Rho → Option (List D) :=
  fun ρ => (f ρ).bind fun ds => (loopC g t em ds (rhoC vars ρ)).bind fun x => if x.1.length ≤ sizeLine then some x.1 else none

/-- the model's turn is this one -/
noncomputable def TurnIs (e : PySem.Expr) (d : Nat) (tgt iter : PySem.Expr) (ifs : List PySem.Expr) (tree : Value → Env → Sem Unit) : Prop :=
  ∀ it acc env, ∃ k, denote table (.compLoop e d it acc env) = (turnOf tgt iter ifs tree (fun it acc env => .compLoop e d it acc env) it acc env).onRaise k

theorem Ext.over {s s' : Shared} {L : Addr} {h' : Heap} (x : Ext s s') (hs : Heap.SameBut L s'.heap h') (hL : s.heap.objs.size ≤ L) : Ext s { s' with heap := h' } :=
  ⟨x.gens, x.os, by show _ ≤ h'.objs.size; rw [hs.1]; exact x.size, fun b o e => hs.extBut b o (fun e' => Nat.lt_irrefl _ (Nat.lt_of_lt_of_le (Heap.lt_size e) (e' ▸ hL))) (x.keep b o e)⟩

section
variable {J : Jd} {scope : Scope} {vars : List Str} {elt tgt iter : PySem.Expr} {ifs : List PySem.Expr} {gs : List Comprehension} {pos : Pos} {tree : Value → Env → Sem Unit} {g : D → Rho → Option Rho} {t : Rho → Option Bool} {em : Rho → Option (List D × Rho)}

theorem FrV.closure (cs : CompSc J scope vars) {env : Env} {P : Avd} {O : Nat → Option Addr} {vm : Str → Option Value} {s : Shared} {ρ : Rho} (F : FrV J.cx J.sc J.tab env P O vm s ρ) : ∀ x, (x, NameKind.free) ∈ scope.names → (env.cells.lookup x).isSome = true := fun x hx => by
  obtain ⟨h1, h2⟩ := cs.free _ hx rfl
  obtain ⟨i, hi⟩ := List.mem_iff_getElem?.mp h1
  rcases F.known i x hi with h | h
  · exact absurd h h2
  · exact h.2

theorem comp_core (cs : CompSc J scope vars) (hturn : TurnIs (.ListComp elt (⟨tgt, iter, ifs, 0⟩ :: gs) scope pos) 0 tgt iter ifs tree) (ht : SAL (Jc J scope vars) tgt g) (hts : TsOk (Jc J scope vars) ifs t) (hem : EmOk (Jc J scope vars) tree em)
    {A : Around} {env : Env} {P : Avd} {O : Nat → Option Addr} {vm : Str → Option Value} {s s₂ : Shared} {ρ ρ' : Rho} {ds ys : List D} {I : Addr} {wr : List Addr} {St : Nat → Heap → Prop} (hA : Room A J.k) (F : FrV J.cx J.sc J.tab env P O vm s ρ) (X : Ext s s₂)
    (wk : Wk J.cx A tgt I wr s₂.heap.objs.size ds (Av env P O) St) (st : St 0 s₂.heap) (hwr : ∀ b ∈ wr, s.heap.objs.size ≤ b ∧ b < s₂.heap.objs.size)
    (h : loopC g t em ds (rhoC vars ρ) = some (ys, ρ')) (hz : ys.length ≤ sizeLine)
    {R : Value → Env → Shared → Prop} (hR : ∀ a (cenv : Env) s' vs n m, a ≠ cenv.locals → s.heap.objs.size ≤ a → s.heap.objs.size ≤ cenv.locals → s'.heap.Ns cenv.locals m → s'.heap.get? a = some { cls := .type "list", data := .seq vs n } → vs.size ≤ sizeLine →
      RdAll J.cx s'.heap (fun b => Av env P O b ∨ b = a ∨ b = cenv.locals) ys vs.toList → Ext s s' → R (.ref a) cenv s') :
    W J.cx.prog J.cx.w A (newList []) (fun acc s₃ => W J.cx.prog J.cx.w A (newFunctionEnv scope env.globals (clRev env.cells scope.names []) [] env.qual none .none (some env)) (fun cenv s₄ =>
      C J.cx.prog J.cx.w A (.compStart (.ListComp elt (⟨tgt, iter, ifs, 0⟩ :: gs) scope pos) 0 (.ref I) acc { cenv with scope := relabel scope env }) (fun _ s' => R acc cenv s') s₄) s₃) s₂ := by
  refine W.of_any (wpAny_newList (W.of_any (wpAny_newFunctionEnv cs.noCell (by intro y hy; simp at hy) (fun h₁ hns₁ hsb₁ => ?_) cs.kind)) (by simp))
  dsimp only at hns₁ hsb₁ ⊢
  generalize hH2 : s₂.heap.push { cls := .type "list", dict := none, data := .seq ([] : List Value).toArray } = H2 at hns₁ hsb₁ ⊢
  have hC : H2.objs.size = s₂.heap.objs.size + 1 := by rw [← hH2, Heap.size_push]
  have hDC : s₂.heap.objs.size ≠ H2.objs.size := by rw [hC]; exact Nat.ne_of_lt (Nat.lt_succ_self _)
  have hCle : s₂.heap.objs.size ≤ H2.objs.size := by rw [hC]; exact Nat.le_succ _
  have below : ∀ b, b < s₂.heap.objs.size → b ≠ H2.objs.size ∧ b ≠ s₂.heap.objs.size := fun b hb => ⟨by rw [hC]; exact Nat.ne_of_lt (Nat.lt_succ_of_lt hb), Nat.ne_of_lt hb⟩
  have old : ∀ b o, s₂.heap.get? b = some o → h₁.get? b = some o := fun b o e => hsb₁.extBut b o (below b (Heap.lt_size e)).1 (Heap.get?_push_of_some _ (hH2 ▸ Heap.get?_push_of_some _ e))
  have hacc : h₁.get? s₂.heap.objs.size = some { cls := .type "list", data := .seq #[] 0 } := hsb₁.extBut _ _ hDC (Heap.get?_push_of_some _ (hH2 ▸ Heap.get?_push_size _ rfl))
  have hh₁ : h₁.objs.size = s₂.heap.objs.size + 2 := by rw [hsb₁.1, Heap.size_push, hC]
  generalize hs4 : ({ s₂ with heap := h₁, toks := s₂.toks + ([] : List (Str × Value)).length } : Shared) = s₄
  have hs4h : s₄.heap = h₁ := by rw [← hs4]
  have hs4s : s₄.heap.objs.size = s₂.heap.objs.size + 2 := by rw [hs4h, hh₁]
  have X24 : Ext s₂ s₄ := ⟨by rw [← hs4], by rw [← hs4], by rw [hs4s]; exact Nat.le_add_right _ _, fun b o e => by rw [hs4h]; exact old b o e⟩
  have X4 := X.trans X24
  have hsle := X.size
  have hL : s.heap.objs.size ≤ H2.objs.size := Nat.le_trans hsle hCle
  have hns4 : s₄.heap.Ns H2.objs.size fun _ => none := by rw [hs4h]; exact hns₁
  generalize hce : ({ newEnv scope H2.objs.size env.globals (clRev env.cells scope.names []) env.qual none .none (some env) builtinsNs with scope := relabel scope env } : Env) = cenv'
  have el : cenv'.locals = H2.objs.size := by rw [← hce]; rfl
  have ec : cenv'.cells = clRev env.cells scope.names [] := by rw [← hce]; rfl
  have es : cenv'.scope = relab scope J.sc := by rw [← hce, ← F.scope]; rfl
  have hclF := F.closure cs
  have hcells : ∀ x c, cenv'.cells.lookup x = some c → env.cells.lookup x = some c := fun x c h => by
    rw [ec] at h
    rcases clRev_mem hclF (lookup_mem' h) with h | h
    · exact nomatch h
    · exact h.2
  have hcellLt : ∀ x c, cenv'.cells.lookup x = some c → c < s.heap.objs.size := fun x c h => (F.fresh c (.inr (.inr ⟨x, hcells x c h⟩))).2
  have hbase := F.baseOf
  obtain ⟨vm', F'⟩ := FrV.comp (P' := fun b => Av env P O b ∨ b ∈ wr ∨ b = s₂.heap.objs.size) cs F X4 (cenv := cenv') es (by rw [← hce]; rfl) (by rw [← hce]; rfl) ec (by rw [el]; exact hL) (by rw [el]; exact hns4)
    (fun a ha => by
      rcases ha with ha | ha | ha
      · exact .inl ha
      · exact .inr (hwr a ha).1
      · exact .inr (by rw [ha]; exact hsle))
    (fun a ha => by
      rw [hs4s]
      rcases ha with ha | ha | ha
      · exact Nat.lt_of_lt_of_le (F.avLt ha) (Nat.le_trans hsle (Nat.le_add_right _ _))
      · exact Nat.lt_of_lt_of_le (hwr a ha).2 (Nat.le_add_right _ _)
      · rw [ha]; exact Nat.lt_add_of_pos_right (by decide))
  have hAcc : Acc J.cx cenv' (fun b => Av env P O b ∨ b ∈ wr ∨ b = s₂.heap.objs.size) noO s₂.heap.objs.size [] s₄ := ⟨⟨#[], 0, by rw [hs4h]; exact hacc, RdAll.nil⟩, .inr (.inr rfl), Nat.le_trans hbase.1 hsle, by rw [el]; exact hDC, fun x e => Nat.lt_irrefl _ (Nat.lt_of_lt_of_le (hcellLt x _ e) hsle)⟩
  have hloop : C J.cx.prog J.cx.w A (.compLoop (.ListComp elt (⟨tgt, iter, ifs, 0⟩ :: gs) scope pos) 0 (.ref I) (.ref s₂.heap.objs.size) cenv') (fun _ s' => R (.ref s₂.heap.objs.size) (newEnv scope H2.objs.size env.globals (clRev env.cells scope.names []) env.qual none .none (some env) builtinsNs) s') s₄ := by
    refine C.mono (comp_loop (c := fun it acc env => .compLoop (.ListComp elt (⟨tgt, iter, ifs, 0⟩ :: gs) scope pos) 0 it acc env) hturn (fun _ _ _ => rfl) (fun _ _ _ => rfl) (fun _ _ _ => rfl) (fun _ _ _ _ => rfl) ht hts hem hA F' hAcc (by simpa using hz) h wk
      (wk.frame _ _ _ st fun b o _ _ e => X24.keep b o e) (fun b hb => .inr (.inl hb)) (fun b hb => Nat.le_trans hbase.1 (hwr b hb).1) ?_ (fun hm => Nat.lt_irrefl _ (hwr _ hm).2) X24.size ?_ ?_) ?_
    · intro b hb hm
      rcases hm with ⟨j, hj⟩ | hm | ⟨x, hx⟩
      · cases hj
      · rw [el] at hm; exact (below b (hwr b hb).2).1 hm
      · exact Nat.lt_irrefl _ (Nat.lt_of_lt_of_le (hcellLt x b hx) (hwr b hb).1)
    · intro b hb
      rcases hb with (hb | hb | hb) | ⟨j, hj⟩ | hb | ⟨x, hx⟩
      · exact .inl hb
      · exact .inr (.inl hb)
      · exact .inr (.inr (by rw [hb]; exact Nat.le_refl _))
      · cases hj
      · exact .inr (.inr (by rw [hb, el]; exact hCle))
      · exact .inl (.inr (.inr (.inr ⟨x, hcells x b hx⟩)))
    · intro b hb
      rcases hb with hb | ⟨j, hj⟩ | hb | ⟨x, hx⟩
      · exact .inr (by rw [hb]; exact Nat.le_refl _)
      · cases hj
      · exact .inr (by rw [hb, el]; exact hCle)
      · exact .inl (.inr (.inr (.inr ⟨x, hcells x b hx⟩)))
    · intro _ s' ⟨O', vm'', F'', acc'', T''⟩
      rw [List.nil_append] at acc''
      obtain ⟨vs, n, ho, hr, hl⟩ := acc''.length
      obtain ⟨m, hm, _⟩ := F''.ns
      rw [el] at hm
      refine hR s₂.heap.objs.size (newEnv scope H2.objs.size env.globals (clRev env.cells scope.names []) env.qual none .none (some env) builtinsNs) s' vs n m hDC hsle hL hm ho (by rw [hl]; exact hz) (hr.weak fun b hb => ?_) ?_
      · rcases hb with hb | hb | hb
        · exact .inl (.inl hb)
        · exact .inl (.inr (.inr hb))
        · exact .inr (.inr (.inl (by rw [el]; exact hb)))
      · refine ⟨T''.gens.trans X4.gens, T''.os.trans X4.os, Nat.le_trans X4.size T''.size, fun b o e => T''.keep b o (fun hm => ?_) (fun hm => ?_) (X4.keep b o e)⟩
        · have hlt := Heap.lt_size e
          rcases List.mem_cons.mp hm with hm | hm
          · exact Nat.lt_irrefl _ (Nat.lt_of_lt_of_le hlt (by rw [hm]; exact hsle))
          · exact Nat.lt_irrefl _ (Nat.lt_of_lt_of_le hlt (hwr b hm).1)
        · have hlt := Heap.lt_size e
          rcases hm with ⟨j, hj⟩ | hm
          · cases hj
          · exact Nat.lt_irrefl _ (Nat.lt_of_lt_of_le hlt (by rw [hm, el]; exact hL))
  exact C.compStart rfl rfl rfl (fun _ => rfl) (fun _ => rfl) (wk.self 0 s₄ (wk.frame _ _ _ st fun b o _ _ e => X24.keep b o e)) hloop

theorem CompSc.locals (cs : CompSc J scope vars) : ∀ x ∈ scope.names, x.2 = .local → scope.names.lookup x.1 = some .local := fun x hx e => lookup_of_mem_nodup cs.nodup (by rw [← e]; exact hx)

theorem sef_comp {f : Rho → Option (List D)} (cs : CompSc J scope vars) (hturn : TurnIs (.ListComp elt (⟨tgt, iter, ifs, 0⟩ :: gs) scope pos) 0 tgt iter ifs tree) (hi : SI J tgt iter f) (ht : SAL (Jc J scope vars) tgt g) (hts : TsOk (Jc J scope vars) ifs t) (hem : EmOk (Jc J scope vars) tree em) :
    SEF J (.ListComp elt (⟨tgt, iter, ifs, 0⟩ :: gs) scope pos) (compF vars f g t em) := fun A env P O vm s ρ ys hA F h => by
  unfold compF at h
  rw [Option.bind_eq_some_iff] at h
  obtain ⟨ds, hds, h⟩ := h
  rw [Option.bind_eq_some_iff] at h
  obtain ⟨⟨ys', ρ'⟩, hl, h⟩ := h
  split at h
  · rename_i hz
    cases h
    rw [eval_ListComp]
    refine W.comprehension (use := none) rfl (closure_ok (F.closure cs)) cs.kind cs.locals (W.mono (hi A env P O vm s ρ ds hA F hds) fun x s₁ ⟨hf, h₁⟩ => ⟨hf, W.mono h₁ fun it s₂ ⟨X, _, I, wr, St, e, wk, st, hwr⟩ => ?_⟩)
    subst e
    refine comp_core cs hturn ht hts hem hA F X wk st hwr hl hz (R := fun acc cenv s' => useQ J.cx.prog J.cx.w A none _ acc cenv.locals s') fun a cenv s' vs n m hac ha hc hn ho hvz hr X' => ?_
    refine ⟨m, hn, fun h' hs => ?_⟩
    have hk : ∀ b o, b ≠ cenv.locals → s'.heap.get? b = some o → h'.get? b = some o := fun b o hb e => hs.extBut b o hb e
    refine ⟨X'.over hs hc, a, vs, n, rfl, ha, hk a _ hac ho, hvz, hr.mono (fun b o hb e => hk b o (fun e' => hb (.inr (.inr e'))) e) fun b hb => .inl (hb.imp id .inl)⟩
  · cases h

noncomputable def listF (f : Rho → Option (List D)) : Rho → Option D := fun ρ => (f ρ).map .list
theorem SEF.se {e : PySem.Expr} {f : Rho → Option (List D)} (h : SEF J e f) : SE J e (listF f) := fun A env P O vm s ρ d hA F hd => by
  unfold listF at hd
  rw [Option.map_eq_some_iff] at hd
  obtain ⟨ds, hds, hd⟩ := hd
  subst hd
  refine W.mono (h A env P O vm s ρ ds hA F hds) fun v s₁ ⟨X, a, vs, n, e1, e2, e3, e4, e5⟩ => ⟨X, ?_⟩
  rw [Rd]
  exact ⟨a, vs, n, e1, e3, F.new e2, e4, e5.weak fun b hb => .inl hb⟩

end
end Mine

end
section
open PySem PySem.W PySem.Calls PyProof.Rows
set_option Elab.async false
set_option maxRecDepth 100000
namespace Mine

noncomputable abbrev lastT (elt : PySem.Expr) : Value → Env → Sem Unit := fun acc env => do let _ ← PySem.call (.builtin "list.append") [acc, ← eval elt env]
theorem turn_one {elt tgt iter : PySem.Expr} {ifs : List PySem.Expr} {scope : Scope} {pos : Pos} : TurnIs (.ListComp elt [⟨tgt, iter, ifs, 0⟩] scope pos) 0 tgt iter ifs (lastT elt) := fun it acc env => ⟨fun x => do noteFrame x env; theTreesLotGoes x, by
  show (compTurn (.ListComp elt [⟨tgt, iter, ifs, 0⟩] scope pos) 0 it acc env).onRaise _ = _
  congr 1⟩

end Mine

end
section
open PySem PySem.W PySem.Calls PyProof.Rows
set_option Elab.async false
set_option maxRecDepth 100000
namespace Mine

noncomputable def ownsTup (n : String) : Bool := ["enumerate", "zip", "dict_itemiterator", "dict_reverseitemiterator", "odict_iterator", "itertools.zip_longest", "itertools.pairwise"].contains n

theorem go_skip {prog : Program} {w : World} {A : Around} {s : Shared} {tgt : PySem.Expr} {I : Addr} {v : Value} {o : Obj} {n : String} {Q : Unit → Shared → Prop} (ho : s.heap.get? I = some o) (hc : o.cls = .type n) (hn : ownsTup n = false) (h : Q () s) :
    W prog w A (letOwnedTupleGo tgt (.ref I) v) Q s := by
  refine W.of_any ?_
  unfold letOwnedTupleGo
  have fin : ∀ a, wpAny (model prog w) A (do
      let o ← load I
      match o.cls, o.data with
      | .type n, .fields vs =>
        if ["enumerate", "zip", "dict_itemiterator", "dict_reverseitemiterator", "odict_iterator", "itertools.zip_longest", "itertools.pairwise"].contains n && vs[0]? == some (rawInt a) then
          rule "for.unpacks-the-owned-tuple"
          updateField I 0 .none
      | _, _ => pure () : Sem Unit) Q (fun _ _ => False) s := fun a => by
    refine wpAny_bind (wpAny_load ho ?_)
    rw [hc]
    split
    · rename_i n' vs e1 e2
      cases e1
      rw [if_neg]
      · exact wpAny_pure h
      · intro hh
        have : ownsTup n = true := (Bool.and_eq_true_iff.mp hh).1
        rw [hn] at this
        cases this
    · exact wpAny_pure h
  cases tgt <;> first | exact wpAny_pure h | (cases v <;> first | exact wpAny_pure h | exact fin _)

noncomputable abbrev Vinf (U : Avd) (wr : List Addr) (N : Nat) : Avd := fun a => U a ∨ a ∈ wr ∨ N ≤ a

theorem Wk.of {cx : Cx} {A : Around} {tgt : PySem.Expr} {I : Addr} {fp wr : List Addr} {N n : Nat} {ds : List D} {U : Avd} {Pv : Nat → Value → Prop} {St0 : Nat → Heap → Prop} (Wl : Walks cx.prog cx.w A I fp wr n Pv St0) (hn : ds.length = n) (hfp : ∀ b ∈ fp, ¬ U b ∧ b < N)
    (Dt : Heap → Prop) (hDt : ∀ h h', Dt h → (∀ a o, ¬ Vinf U wr N a → h.get? a = some o → h'.get? a = some o) → Dt h') (hrd : ∀ h (i : Nat) v d, Dt h → Pv i v → ds[i]? = some d → Rd cx h (Vinf U wr N) d v)
    (hcls : ∀ i h, St0 i h → ∃ o nm, h.get? I = some o ∧ o.cls = .type nm ∧ ownsTup nm = false) : Wk cx A tgt I wr N ds U (fun i h => St0 i h ∧ Dt h) where
  frame := fun i h h' st hk => ⟨Wl.frame i h h' st.1 fun b hb o e => hk b o (hfp b hb).1 (hfp b hb).2 e, hDt h h' st.2 fun a o ha e => hk a o (fun h => ha (.inl h)) (Nat.lt_of_not_le fun h => ha (.inr (.inr h))) e⟩
  item := fun i d s V Q hd st hb hV hQ => by
    have hi : i < n := by
      rw [← hn]
      rcases Nat.lt_or_ge i ds.length with h | h
      · exact h
      · rw [List.getElem?_eq_none h] at hd; cases hd
    refine W.of_anyS (Wl.item i s _ _ hi st.1 fun v h' tk hP hst hk hsz => ⟨v, rfl, ?_⟩)
    obtain ⟨o, nm, ho, hc, hnm⟩ := hcls _ _ hst
    have hdt : Dt h' := hDt _ _ st.2 fun a o ha e => hk a o (fun h => ha (.inr (.inl h))) e
    exact go_skip ho hc hnm (hQ v _ ⟨rfl, rfl, hsz, hk⟩ ((hrd h' i v d hdt hP hd).weak fun a ha => (hV a ha).1) ⟨hst, hdt⟩)
  done := fun s Q st hb hQ => W.of_anyS (Wl.done s _ _ (hn ▸ st.1) fun h' tk hk hsz => ⟨rfl, hQ _ ⟨rfl, rfl, hsz, hk⟩⟩)
  self := fun i s st => W.of_any (Wl.self i s _ _ st.1 ⟨rfl, rfl⟩)

noncomputable def notSetE : PySem.Expr → Bool
  | .Set .. => false
  | _ => true
theorem folded_ok {e : PySem.Expr} (h : notSetE e = true) (env : Env) (x : Value) : foldedSetIterable e env x = pure x := by
  cases e <;> first | rfl | cases h

noncomputable def asList : D → Option (List D)
  | .list ds => some ds
  | _ => none
noncomputable def asTup : D → Option (List D)
  | .tup ds => some ds
  | _ => none
noncomputable def itE (k : D → Option (List D)) (f : Rho → Option D) : Rho → Option (List D) := fun ρ => (f ρ).bind k

theorem si_list {J : Jd} {tgt e : PySem.Expr} {f : Rho → Option D} (he : SE J e f) (hs : notSetE e = true := by rfl) : SI J tgt e (itE asList f) := fun A env P O vm s ρ ds hA F h => by
  unfold itE at h
  rw [Option.bind_eq_some_iff] at h
  obtain ⟨d, hd, h⟩ := h
  unfold asList at h
  split at h
  · rename_i ds'
    cases h
    refine W.mono (he A env P O vm s ρ _ hA F hd) fun x s₁ ⟨X, r⟩ => ⟨folded_ok hs env x, ?_⟩
    rw [Rd] at r
    obtain ⟨l, vs, n, rfl, ho, hna, hz, hr⟩ := r
    refine W.of_any (wpAny_pyIter_list ⟨_, ho, rfl, n, rfl⟩ ?_)
    have hll := hr.length
    rw [Array.length_toList] at hll
    have hlt := Heap.lt_size ho
    have F1 := F.ext X
    have hsz : (s₁.heap.push { cls := .type "list_iterator", data := .fields #[.ref l, .int 0 0] }).objs.size = s₁.heap.objs.size + 1 := Heap.size_push ..
    have X2 : Ext s₁ { s₁ with heap := s₁.heap.push { cls := .type "list_iterator", data := .fields #[.ref l, .int 0 0] } } := Ext.push _ _
    refine ⟨X.trans X2, by rw [← hll]; exact hz, s₁.heap.objs.size, [s₁.heap.objs.size], _, rfl, Wk.of (Walks.list hA.1 s₁.heap.objs.size l (Nat.ne_of_lt hlt) vs) hll.symm ?_
      (fun h => RdAll J.cx h (Vinf (Av env P O) [s₁.heap.objs.size] (s₁.heap.push { cls := .type "list_iterator", data := .fields #[.ref l, .int 0 0] }).objs.size) ds vs.toList) (fun h h' r hk => r.mono hk fun _ x => .inl x) ?_ ?_, ⟨⟨⟨_, Heap.get?_push_size _ rfl, rfl, rfl⟩, ⟨_, Heap.get?_push_of_some _ ho, rfl, n, rfl⟩⟩, ?_⟩, ?_⟩
    · intro b hb
      rw [hsz]
      simp at hb
      rcases hb with hb | hb
      · rw [hb]; exact ⟨F1.new (Nat.le_refl _), Nat.lt_succ_self _⟩
      · rw [hb]; exact ⟨hna, Nat.lt_succ_of_lt hlt⟩
    · intro h i v d r hv hd
      obtain ⟨v', e, q⟩ := r.get hd
      rw [← Array.getElem?_toList, e] at hv
      cases hv
      exact q
    · rintro i h ⟨⟨o, h1, h2, _⟩, _⟩
      exact ⟨o, _, h1, h2, by decide⟩
    · refine hr.mono (fun a o _ e => X2.keep a o e) fun a ha => ?_
      rcases ha with ha | ha | ha
      · exact .inl ha
      · simp at ha; rw [ha]; exact .inr (get_none (Nat.le_refl _))
      · rw [hsz] at ha; exact .inr (get_none (Nat.le_of_succ_le ha))
    · intro b hb
      simp at hb
      rw [hb]
      exact ⟨X.size, by show _ < (s₁.heap.push _).objs.size; rw [hsz]; exact Nat.lt_succ_self _⟩
  · cases h
theorem si_tup {J : Jd} {tgt e : PySem.Expr} {f : Rho → Option D} (he : SE J e f) (hs : notSetE e = true := by rfl) : SI J tgt e (itE asTup f) := fun A env P O vm s ρ ds hA F h => by
  unfold itE at h
  rw [Option.bind_eq_some_iff] at h
  obtain ⟨d, hd, h⟩ := h
  unfold asTup at h
  split at h
  · rename_i ds'
    cases h
    refine W.mono (he A env P O vm s ρ _ hA F hd) fun x s₁ ⟨X, r⟩ => ⟨folded_ok hs env x, ?_⟩
    rw [Rd] at r
    obtain ⟨l, vs, n, rfl, ho, hna, hz, hr⟩ := r
    refine W.of_any (wpAny_pyIter_tuple ⟨_, ho, rfl, n, rfl⟩ ?_)
    have hll := hr.length
    rw [Array.length_toList] at hll
    have hlt := Heap.lt_size ho
    have F1 := F.ext X
    have hsz : (s₁.heap.push { cls := .type "tuple_iterator", data := .fields #[.ref l, .int 0 0] }).objs.size = s₁.heap.objs.size + 1 := Heap.size_push ..
    have X2 : Ext s₁ { s₁ with heap := s₁.heap.push { cls := .type "tuple_iterator", data := .fields #[.ref l, .int 0 0] } } := Ext.push _ _
    refine ⟨X.trans X2, by rw [← hll]; exact hz, s₁.heap.objs.size, [s₁.heap.objs.size], _, rfl, Wk.of (Walks.tuple hA.1 s₁.heap.objs.size l (Nat.ne_of_lt hlt) vs) hll.symm ?_
      (fun h => RdAll J.cx h (Vinf (Av env P O) [s₁.heap.objs.size] (s₁.heap.push { cls := .type "tuple_iterator", data := .fields #[.ref l, .int 0 0] }).objs.size) ds vs.toList) (fun h h' r hk => r.mono hk fun _ x => .inl x) ?_ ?_, ⟨⟨⟨_, Heap.get?_push_size _ rfl, rfl, rfl⟩, ⟨_, Heap.get?_push_of_some _ ho, rfl, n, rfl⟩⟩, ?_⟩, ?_⟩
    · intro b hb
      rw [hsz]
      simp at hb
      rcases hb with hb | hb
      · rw [hb]; exact ⟨F1.new (Nat.le_refl _), Nat.lt_succ_self _⟩
      · rw [hb]; exact ⟨hna, Nat.lt_succ_of_lt hlt⟩
    · intro h i v d r hv hd
      obtain ⟨v', e, q⟩ := r.get hd
      rw [← Array.getElem?_toList, e] at hv
      cases hv
      exact q
    · rintro i h ⟨⟨o, h1, h2, _⟩, _⟩
      exact ⟨o, _, h1, h2, by decide⟩
    · refine hr.mono (fun a o _ e => X2.keep a o e) fun a ha => ?_
      rcases ha with ha | ha | ha
      · exact .inl ha
      · simp at ha; rw [ha]; exact .inr (get_none (Nat.le_refl _))
      · rw [hsz] at ha; exact .inr (get_none (Nat.le_of_succ_le ha))
    · intro b hb
      simp at hb
      rw [hb]
      exact ⟨X.size, by show _ < (s₁.heap.push _).objs.size; rw [hsz]; exact Nat.lt_succ_self _⟩
  · cases h

end Mine

end
section
open PySem PySem.W PySem.Calls PyProof.Rows
set_option Elab.async false
set_option maxRecDepth 100000
namespace Mine

noncomputable def theCode : Array Nat := #[14, 4, 0, 1, 4294967295, 7, 14, 17, 0, 24, 6, 1, 4294967295, 20, 91, 1, 17, 1, 15, 37, 17, 17, 2, 16, 91, 26, 5, 0, 4294967295, 2, 1, 16, 93, 17, 3, 15, 20, 18, 17, 4, 16, 91, 24, 6, 0, 4294967295, 20, 93, 1, 6, 5, 17, 5, 15, 2, 0, 1]

structure Cfg where
  T : Array Nat
  n : Nat
  start : Nat
  outer : Bool
  marks : Array (Option Nat)
  lm : Int
  li : Int
  frames : List Sre.Frame
  w : Nat
  pc : Nat
  pos : Nat
  handed : Nat
  ans : Option Bool

noncomputable def mkc (c : Cfg) (seen : Sre.Seen) : Sre.M :=
  { code := theCode, text := c.T, lim := c.n, start := c.start, lastStart := c.n, pc := c.pc, pos := c.pos, handed := c.handed, outermost := c.outer, marks := c.marks, lastmark := c.lm, lastindex := c.li, frames := c.frames, weight := c.w, answer := c.ans, seen := seen }

noncomputable def iter : Nat → Sre.M → Sre.M
  | 0, m => m
  | k + 1, m => iter k m.step
theorem iter_add (a b : Nat) (m : Sre.M) : iter (a + b) m = iter b (iter a m) := by
  induction a generalizing m with
  | zero => rw [Nat.zero_add]; rfl
  | succ a ih => rw [Nat.succ_add]; exact ih m.step

noncomputable def Go (k : Nat) (c c' : Cfg) : Prop := ∀ seen, ∃ seen', iter k (mkc c seen) = mkc c' seen'
theorem Go.trans {a b : Nat} {c c' c'' : Cfg} (x : Go a c c') (y : Go b c' c'') : Go (a + b) c c'' := fun seen => by
  obtain ⟨s1, e1⟩ := x seen
  obtain ⟨s2, e2⟩ := y s1
  exact ⟨s2, by rw [iter_add, e1, e2]⟩
theorem Go.refl (c : Cfg) : Go 0 c c := fun seen => ⟨seen, rfl⟩

noncomputable def kept0 (lm li : Int) : Sre.Kept := { lastmark := lm, lastindex := li, whole := false, marks := #[] }


theorem step_exec (c : Cfg) (seen : Sre.Seen) (h : c.ans = none) (hpc : c.pc < 57) : (mkc c seen).step = (mkc c seen).exec := by
  unfold Sre.M.step
  have h1 : (mkc c seen).outcome.isSome = false := rfl
  have h2 : (mkc c seen).answer = none := h
  have h3 : (mkc c seen).pc < (mkc c seen).code.size := hpc
  rw [if_neg (by rw [h1]; decide), h2]
  simp only
  rw [if_pos h3]
theorem exec_mark (m : Sre.M) (h : Sre.ops[m.word 0]? = some .MARK) : m.exec = ({ m with seen := m.seen.add (m.word 0) } : Sre.M).mark (m.word 1) := by
  unfold Sre.M.exec; rw [h]; rfl
theorem mark4_eq (m : Sre.M) (h : m.lastmark = -1) : m.mark 4 = { m with marks := ((((m.marks.setIfInBounds 0 none).setIfInBounds 1 none).setIfInBounds 2 none).setIfInBounds 3 none).setIfInBounds 4 (some m.pos), lastmark := 4, pc := m.pc + 2 } := by
  unfold Sre.M.mark
  rw [h]
  simp [List.range_succ]
  decide
theorem exec_jump (m : Sre.M) (h : Sre.ops[m.word 0]? = some .JUMP) : m.exec = { m with seen := m.seen.add (m.word 0), pc := m.pc + 1 + m.word 1 } := by
  unfold Sre.M.exec; rw [h]; rfl
theorem exec_succ (m : Sre.M) (h : Sre.ops[m.word 0]? = some .SUCCESS) (hw : m.wholeText = false) (hm : m.mustAdvance = false) : m.exec = { m with seen := m.seen.add (m.word 0), handed := m.pos, answer := some true } := by
  unfold Sre.M.exec; rw [h]; simp [hw, hm]; rfl
theorem exec_lit (m : Sre.M) (h : Sre.ops[m.word 0]? = some .LITERAL) : m.exec = if m.pos ≥ m.lim then { m with seen := m.seen.add (m.word 0), answer := some false } else
    if m.text.getD m.pos 0 == m.word 1 then { m with seen := m.seen.add (m.word 0), pc := m.pc + 2, pos := m.pos + 1 } else { m with seen := m.seen.add (m.word 0), answer := some false } := by
  have ha : ∀ c seen, Sre.accepts m.code m.pc c seen = .ok (c == m.word 1, seen) := fun c seen => by
    unfold Sre.accepts
    have : Sre.ops[m.code.getD m.pc 0]? = some .LITERAL := h
    rw [this]; rfl
  have hi : Sre.itemWidth m.code m.pc = 2 := by
    unfold Sre.itemWidth
    have : Sre.ops[m.code.getD m.pc 0]? = some .LITERAL := h
    rw [this]
  unfold Sre.M.exec; rw [h]; simp only [ha, hi]
  split
  · rfl
  · cases m.text.getD m.pos 0 == m.word 1 <;> rfl
theorem exec_at (m : Sre.M) (h : Sre.ops[m.word 0]? = some .AT) (h1 : m.word 1 = 5) : m.exec = if m.pos == m.lim || (m.pos + 1 == m.lim && m.text.getD m.pos 0 == 10) then { m with seen := (m.seen.add (m.word 0)).add 48, pc := m.pc + 2 } else { m with seen := (m.seen.add (m.word 0)).add 48, answer := some false } := by
  have ha : ∀ s, ({ m with seen := s } : Sre.M).isAt 5 = .ok (m.pos == m.lim || (m.pos + 1 == m.lim && m.text.getD m.pos 0 == 10)) := fun s => rfl
  have hw : ∀ s, ({ m with seen := s } : Sre.M).word 1 = 5 := fun s => h1
  unfold Sre.M.exec; rw [h]; simp only [hw, ha]
  split <;> rfl
section
variable (T : Array Nat) (n st : Nat) (o : Bool) (mk : Array (Option Nat)) (lm li : Int) (fs : List Sre.Frame) (w pos hd : Nat)

theorem go_branch (hw : w + 1 ≤ 1000) : Go 1 ⟨T, n, st, o, mk, lm, li, fs, w, 5, pos, hd, none⟩ ⟨T, n, st, o, mk, lm, li, { wait := .nextBranch, pc := 6, pos := pos, outermost := o, kept := kept0 lm li } :: fs, w + 1, 7, pos, pos, none⟩ := fun seen => ⟨_, by
  show Sre.M.attempt _ _ _ _ _ = _
  unfold Sre.M.attempt
  rw [if_neg (by show ¬ (w + 1 + 0 > 16777216); omega)]
  rfl⟩

theorem go_alt {f : Sre.Frame} (alt : Nat) (tgt : Nat) (hn : alt + theCode.getD alt 0 = tgt) (hz : (theCode.getD tgt 0 == 0) = false) (hw : w + 1 ≤ 1000) (hf : f = { wait := .nextBranch, pc := alt, pos := pos, outermost := o, kept := kept0 (-1) (-1) }) {pc pos' : Nat} {o' : Bool} :
    Go 1 ⟨T, n, st, o', mk, lm, li, f :: fs, w + 1, pc, pos', hd, some false⟩ ⟨T, n, st, o, mk, -1, -1, { wait := .nextBranch, pc := tgt, pos := pos, outermost := o, kept := kept0 (-1) (-1) } :: fs, w + 1, tgt + 1, pos, pos, none⟩ := fun seen => ⟨seen, by
  subst hf
  subst hn
  show Sre.M.alternative _ _ _ = _
  unfold Sre.M.alternative
  rw [if_neg (by show ¬ ((theCode.getD (alt + theCode.getD alt 0) 0 == 0) = true); rw [hz]; decide)]
  unfold Sre.M.attempt
  rw [if_neg (by show ¬ (w + 1 - (1 + 0) + 1 + 0 > 16777216); omega)]
  rfl⟩

theorem go_altEnd {f : Sre.Frame} (hf : f = { wait := .nextBranch, pc := 37, pos := pos, outermost := o, kept := kept0 (-1) (-1) }) {pc pos' : Nat} {o' : Bool} :
    Go 1 ⟨T, n, st, o', mk, lm, li, f :: fs, w + 1, pc, pos', hd, some false⟩ ⟨T, n, st, o, mk, -1, -1, fs, w, 37, pos, hd, some false⟩ := fun seen => ⟨seen, by
  subst hf
  rfl⟩
theorem go_jump18 : Go 1 ⟨T, n, st, o, mk, lm, li, fs, w, 18, pos, hd, none⟩ ⟨T, n, st, o, mk, lm, li, fs, w, 56, pos, hd, none⟩ := fun seen => ⟨seen.add 15, by
  show (mkc ⟨T, n, st, o, mk, lm, li, fs, w, 18, pos, hd, none⟩ seen).step = _
  rw [step_exec _ _ rfl (by show (18 : Nat) < 57; decide), exec_jump _ (by rfl)]
  rfl⟩
theorem go_jump35 : Go 1 ⟨T, n, st, o, mk, lm, li, fs, w, 35, pos, hd, none⟩ ⟨T, n, st, o, mk, lm, li, fs, w, 56, pos, hd, none⟩ := fun seen => ⟨seen.add 15, by
  show (mkc ⟨T, n, st, o, mk, lm, li, fs, w, 35, pos, hd, none⟩ seen).step = _
  rw [step_exec _ _ rfl (by show (35 : Nat) < 57; decide), exec_jump _ (by rfl)]
  rfl⟩
theorem go_jump53 : Go 1 ⟨T, n, st, o, mk, lm, li, fs, w, 53, pos, hd, none⟩ ⟨T, n, st, o, mk, lm, li, fs, w, 56, pos, hd, none⟩ := fun seen => ⟨seen.add 15, by
  show (mkc ⟨T, n, st, o, mk, lm, li, fs, w, 53, pos, hd, none⟩ seen).step = _
  rw [step_exec _ _ rfl (by show (53 : Nat) < 57; decide), exec_jump _ (by rfl)]
  rfl⟩
theorem go_succ : Go 1 ⟨T, n, st, o, mk, lm, li, fs, w, 56, pos, hd, none⟩ ⟨T, n, st, o, mk, lm, li, fs, w, 56, pos, pos, some true⟩ := fun seen => ⟨seen.add 1, by
  show (mkc ⟨T, n, st, o, mk, lm, li, fs, w, 56, pos, hd, none⟩ seen).step = _
  rw [step_exec _ _ rfl (by show (56 : Nat) < 57; decide), exec_succ _ (by rfl) rfl rfl]
  rfl⟩
theorem go_at (hp : pos = n) : Go 1 ⟨T, n, st, o, mk, lm, li, fs, w, 49, pos, hd, none⟩ ⟨T, n, st, o, mk, lm, li, fs, w, 51, pos, hd, none⟩ := fun seen => ⟨(seen.add 6).add 48, by
  show (mkc ⟨T, n, st, o, mk, lm, li, fs, w, 49, pos, hd, none⟩ seen).step = _
  rw [step_exec _ _ rfl (by show (49 : Nat) < 57; decide), exec_at _ (by rfl) (by rfl)]
  rw [if_pos (by show (pos == n || (pos + 1 == n && T.getD pos 0 == 10)) = true; rw [hp]; simp)]
  rfl⟩
theorem go_atNo (hp : pos ≠ n) (hc : ¬ (pos + 1 = n ∧ T.getD pos 0 = 10)) : Go 1 ⟨T, n, st, o, mk, lm, li, fs, w, 49, pos, hd, none⟩ ⟨T, n, st, o, mk, lm, li, fs, w, 49, pos, hd, some false⟩ := fun seen => ⟨(seen.add 6).add 48, by
  show (mkc ⟨T, n, st, o, mk, lm, li, fs, w, 49, pos, hd, none⟩ seen).step = _
  rw [step_exec _ _ rfl (by show (49 : Nat) < 57; decide), exec_at _ (by rfl) (by rfl)]
  rw [if_neg (by show ¬ ((pos == n || (pos + 1 == n && T.getD pos 0 == 10)) = true); rw [beq_false_of_ne hp, Bool.false_or, Bool.and_eq_true, beq_iff_eq, beq_iff_eq]; exact hc)]
  rfl⟩
theorem go_mark0 : Go 1 ⟨T, n, st, o, mk, -1, li, fs, w, 7, pos, hd, none⟩ ⟨T, n, st, o, mk.setIfInBounds 0 (some pos), 0, li, fs, w, 9, pos, hd, none⟩ := fun seen => ⟨seen.add 17, by
  show (mkc ⟨T, n, st, o, mk, -1, li, fs, w, 7, pos, hd, none⟩ seen).step = _
  rw [step_exec _ _ rfl (by show (7 : Nat) < 57; decide), exec_mark _ (by rfl)]
  show Sre.M.mark { mkc ⟨T, n, st, o, mk, -1, li, fs, w, 7, pos, hd, none⟩ seen with seen := seen.add 17 } 0 = _
  unfold Sre.M.mark
  rfl⟩
theorem go_mark1 : Go 1 ⟨T, n, st, o, mk, 0, li, fs, w, 16, pos, hd, none⟩ ⟨T, n, st, o, mk.setIfInBounds 1 (some pos), 1, 1, fs, w, 18, pos, hd, none⟩ := fun seen => ⟨seen.add 17, by
  show (mkc ⟨T, n, st, o, mk, 0, li, fs, w, 16, pos, hd, none⟩ seen).step = _
  rw [step_exec _ _ rfl (by show (16 : Nat) < 57; decide), exec_mark _ (by rfl)]
  show Sre.M.mark { mkc ⟨T, n, st, o, mk, 0, li, fs, w, 16, pos, hd, none⟩ seen with seen := seen.add 17 } 1 = _
  unfold Sre.M.mark
  rfl⟩
theorem go_mark2 : Go 1 ⟨T, n, st, o, mk, -1, li, fs, w, 21, pos, hd, none⟩ ⟨T, n, st, o, ((mk.setIfInBounds 0 none).setIfInBounds 1 none).setIfInBounds 2 (some pos), 2, li, fs, w, 23, pos, hd, none⟩ := fun seen => ⟨seen.add 17, by
  show (mkc ⟨T, n, st, o, mk, -1, li, fs, w, 21, pos, hd, none⟩ seen).step = _
  rw [step_exec _ _ rfl (by show (21 : Nat) < 57; decide), exec_mark _ (by rfl)]
  show Sre.M.mark { mkc ⟨T, n, st, o, mk, -1, li, fs, w, 21, pos, hd, none⟩ seen with seen := seen.add 17 } 2 = _
  unfold Sre.M.mark
  rfl⟩
theorem go_mark3 : Go 1 ⟨T, n, st, o, mk, 2, li, fs, w, 33, pos, hd, none⟩ ⟨T, n, st, o, mk.setIfInBounds 3 (some pos), 3, 2, fs, w, 35, pos, hd, none⟩ := fun seen => ⟨seen.add 17, by
  show (mkc ⟨T, n, st, o, mk, 2, li, fs, w, 33, pos, hd, none⟩ seen).step = _
  rw [step_exec _ _ rfl (by show (33 : Nat) < 57; decide), exec_mark _ (by rfl)]
  show Sre.M.mark { mkc ⟨T, n, st, o, mk, 2, li, fs, w, 33, pos, hd, none⟩ seen with seen := seen.add 17 } 3 = _
  unfold Sre.M.mark
  rfl⟩
theorem go_mark4 : Go 1 ⟨T, n, st, o, mk, -1, li, fs, w, 38, pos, hd, none⟩ ⟨T, n, st, o, ((((mk.setIfInBounds 0 none).setIfInBounds 1 none).setIfInBounds 2 none).setIfInBounds 3 none).setIfInBounds 4 (some pos), 4, li, fs, w, 40, pos, hd, none⟩ := fun seen => ⟨seen.add 17, by
  show (mkc ⟨T, n, st, o, mk, -1, li, fs, w, 38, pos, hd, none⟩ seen).step = _
  rw [step_exec _ _ rfl (by show (38 : Nat) < 57; decide), exec_mark _ (by rfl)]
  rw [show (mkc ⟨T, n, st, o, mk, -1, li, fs, w, 38, pos, hd, none⟩ seen).word 1 = 4 from rfl, mark4_eq _ rfl]
  rfl⟩
theorem go_mark5 : Go 1 ⟨T, n, st, o, mk, 4, li, fs, w, 51, pos, hd, none⟩ ⟨T, n, st, o, mk.setIfInBounds 5 (some pos), 5, 3, fs, w, 53, pos, hd, none⟩ := fun seen => ⟨seen.add 17, by
  show (mkc ⟨T, n, st, o, mk, 4, li, fs, w, 51, pos, hd, none⟩ seen).step = _
  rw [step_exec _ _ rfl (by show (51 : Nat) < 57; decide), exec_mark _ (by rfl)]
  show Sre.M.mark { mkc ⟨T, n, st, o, mk, 4, li, fs, w, 51, pos, hd, none⟩ seen with seen := seen.add 17 } 5 = _
  unfold Sre.M.mark
  rfl⟩
theorem go_lit23 (hp : pos < n) (hc : T.getD pos 0 = 91) : Go 1 ⟨T, n, st, o, mk, lm, li, fs, w, 23, pos, hd, none⟩ ⟨T, n, st, o, mk, lm, li, fs, w, 25, pos + 1, hd, none⟩ := fun seen => ⟨seen.add 16, by
  show (mkc ⟨T, n, st, o, mk, lm, li, fs, w, 23, pos, hd, none⟩ seen).step = _
  rw [step_exec _ _ rfl (by show (23 : Nat) < 57; decide), exec_lit _ (by rfl)]
  rw [if_neg (by show ¬ (pos ≥ n); omega), if_pos (by show (T.getD pos 0 == 91) = true; rw [hc]; rfl)]
  rfl⟩
theorem go_litNo23 (hp : ¬ (pos < n ∧ T.getD pos 0 = 91)) : Go 1 ⟨T, n, st, o, mk, lm, li, fs, w, 23, pos, hd, none⟩ ⟨T, n, st, o, mk, lm, li, fs, w, 23, pos, hd, some false⟩ := fun seen => ⟨seen.add 16, by
  show (mkc ⟨T, n, st, o, mk, lm, li, fs, w, 23, pos, hd, none⟩ seen).step = _
  rw [step_exec _ _ rfl (by show (23 : Nat) < 57; decide), exec_lit _ (by rfl)]
  by_cases hlt : pos < n
  · have hc : T.getD pos 0 ≠ 91 := fun e => hp ⟨hlt, e⟩
    rw [if_neg (by show ¬ (pos ≥ n); omega), if_neg (by show ¬ ((T.getD pos 0 == 91) = true); rw [beq_false_of_ne hc]; decide)]
    rfl
  · rw [if_pos (by show pos ≥ n; omega)]
    rfl⟩
theorem go_lit31 (hp : pos < n) (hc : T.getD pos 0 = 93) : Go 1 ⟨T, n, st, o, mk, lm, li, fs, w, 31, pos, hd, none⟩ ⟨T, n, st, o, mk, lm, li, fs, w, 33, pos + 1, hd, none⟩ := fun seen => ⟨seen.add 16, by
  show (mkc ⟨T, n, st, o, mk, lm, li, fs, w, 31, pos, hd, none⟩ seen).step = _
  rw [step_exec _ _ rfl (by show (31 : Nat) < 57; decide), exec_lit _ (by rfl)]
  rw [if_neg (by show ¬ (pos ≥ n); omega), if_pos (by show (T.getD pos 0 == 93) = true; rw [hc]; rfl)]
  rfl⟩
theorem go_litNo31 (hp : ¬ (pos < n ∧ T.getD pos 0 = 93)) : Go 1 ⟨T, n, st, o, mk, lm, li, fs, w, 31, pos, hd, none⟩ ⟨T, n, st, o, mk, lm, li, fs, w, 31, pos, hd, some false⟩ := fun seen => ⟨seen.add 16, by
  show (mkc ⟨T, n, st, o, mk, lm, li, fs, w, 31, pos, hd, none⟩ seen).step = _
  rw [step_exec _ _ rfl (by show (31 : Nat) < 57; decide), exec_lit _ (by rfl)]
  by_cases hlt : pos < n
  · have hc : T.getD pos 0 ≠ 93 := fun e => hp ⟨hlt, e⟩
    rw [if_neg (by show ¬ (pos ≥ n); omega), if_neg (by show ¬ ((T.getD pos 0 == 93) = true); rw [beq_false_of_ne hc]; decide)]
    rfl
  · rw [if_pos (by show pos ≥ n; omega)]
    rfl⟩
theorem go_lit40 (hp : pos < n) (hc : T.getD pos 0 = 91) : Go 1 ⟨T, n, st, o, mk, lm, li, fs, w, 40, pos, hd, none⟩ ⟨T, n, st, o, mk, lm, li, fs, w, 42, pos + 1, hd, none⟩ := fun seen => ⟨seen.add 16, by
  show (mkc ⟨T, n, st, o, mk, lm, li, fs, w, 40, pos, hd, none⟩ seen).step = _
  rw [step_exec _ _ rfl (by show (40 : Nat) < 57; decide), exec_lit _ (by rfl)]
  rw [if_neg (by show ¬ (pos ≥ n); omega), if_pos (by show (T.getD pos 0 == 91) = true; rw [hc]; rfl)]
  rfl⟩
theorem go_litNo40 (hp : ¬ (pos < n ∧ T.getD pos 0 = 91)) : Go 1 ⟨T, n, st, o, mk, lm, li, fs, w, 40, pos, hd, none⟩ ⟨T, n, st, o, mk, lm, li, fs, w, 40, pos, hd, some false⟩ := fun seen => ⟨seen.add 16, by
  show (mkc ⟨T, n, st, o, mk, lm, li, fs, w, 40, pos, hd, none⟩ seen).step = _
  rw [step_exec _ _ rfl (by show (40 : Nat) < 57; decide), exec_lit _ (by rfl)]
  by_cases hlt : pos < n
  · have hc : T.getD pos 0 ≠ 91 := fun e => hp ⟨hlt, e⟩
    rw [if_neg (by show ¬ (pos ≥ n); omega), if_neg (by show ¬ ((T.getD pos 0 == 91) = true); rw [beq_false_of_ne hc]; decide)]
    rfl
  · rw [if_pos (by show pos ≥ n; omega)]
    rfl⟩
end
end Mine

end
section
open PySem PySem.W PySem.Calls PyProof.Rows
set_option Elab.async false
set_option maxRecDepth 100000
namespace Mine

theorem iter1 (m : Sre.M) : iter 1 m = m.step := rfl
noncomputable def runLen (c : Nat) (T : Array Nat) : Nat → Nat → Nat
  | 0, _ => 0
  | k + 1, p => if T.getD p 0 ≠ c then runLen c T k (p + 1) + 1 else 0

theorem run_eq {code T : Array Nat} {i c : Nat} (h : ∀ x seen, Sre.accepts code i x seen = .ok (x != c, seen)) : ∀ (n p found : Nat) (seen : Sre.Seen), Sre.run code T i n p found seen = .ok (found + runLen c T n p, seen)
  | 0, _, _, _ => rfl
  | n + 1, p, found, seen => by
    rw [Sre.run, h]
    show (if (T.getD p 0 != c) = true then Sre.run code T i n (p + 1) (found + 1) seen else pure (found, seen)) = _
    rw [runLen]
    by_cases hc : T.getD p 0 = c
    · rw [if_neg (by simp only [bne_iff_ne, ne_eq, hc, not_true, not_false_eq_true]), if_neg (by simp only [ne_eq, hc, not_true, not_false_eq_true])]; rfl
    · rw [if_pos (by simp only [bne_iff_ne, ne_eq, hc, not_false_eq_true]), if_pos hc, run_eq h]
      congr 2
      omega

theorem runLen_le (c : Nat) (T : Array Nat) : ∀ n p, runLen c T n p ≤ n
  | 0, _ => Nat.le_refl _
  | n + 1, p => by
    rw [runLen]
    split
    · have := runLen_le c T n (p + 1); omega
    · omega

theorem exec_rep (m : Sre.M) (h : Sre.ops[m.word 0]? = some .REPEAT_ONE) (c : Nat) (ha : ∀ x seen, Sre.accepts m.code (m.pc + 4) x seen = .ok (x != c, seen)) (hi : m.inner = none) (hr : m.pos ≤ m.lim) (hmost : m.lim ≤ m.word 3) :
    m.exec = if m.word 2 > m.lim - m.pos then { m with seen := m.seen.add (m.word 0), answer := some false } else
      if runLen c m.text (m.lim - m.pos) m.pos < m.word 2 then { m with seen := (m.seen.add (m.word 0)).add (m.word 4), answer := some false }
      else ({ m with seen := (m.seen.add (m.word 0)).add (m.word 4), pos := m.pos + runLen c m.text (m.lim - m.pos) m.pos } : Sre.M).afterRun .giveBack (runLen c m.text (m.lim - m.pos) m.pos : Nat) (kept0 m.lastmark m.lastindex) := by
  have hroom : ((m.lim : Int) - m.pos).toNat = m.lim - m.pos := by omega
  have hmin : min (m.word 3) (m.lim - m.pos) = m.lim - m.pos := by omega
  unfold Sre.M.exec
  rw [h]
  have hw : ∀ k, ({ m with seen := m.seen.add (m.word 0) } : Sre.M).word k = m.word k := fun _ => rfl
  simp only [hw, hroom, Bool.false_eq_true, if_false, hmin, run_eq ha, Nat.zero_add]
  by_cases h2 : m.word 2 > m.lim - m.pos
  · rw [if_pos h2, if_pos (by omega)]; rfl
  · rw [if_neg h2, if_neg (by omega)]
    by_cases h3 : runLen c m.text (m.lim - m.pos) m.pos < m.word 2
    · rw [if_pos h3, if_pos h3]; rfl
    · rw [if_neg h3, if_neg h3, hi]; rfl

theorem exec_min (m : Sre.M) (h : Sre.ops[m.word 0]? = some .MIN_REPEAT_ONE) (hi : m.inner = none) (hr : m.pos ≤ m.lim) (h2 : m.word 2 = 0) :
    m.exec = ({ m with seen := (m.seen.add (m.word 0)).add (m.word 4) } : Sre.M).afterRun .takeMore 0 (kept0 m.lastmark m.lastindex) := by
  unfold Sre.M.exec
  rw [h]
  have hw : ∀ k, ({ m with seen := m.seen.add (m.word 0) } : Sre.M).word k = m.word k := fun _ => rfl
  simp only [hw, h2, if_true, Nat.zero_min]
  rw [if_neg (by omega)]
  simp only [Sre.run, Nat.lt_irrefl, if_false, Nat.add_zero, hi]
  rfl

theorem acc_not (i c : Nat) (h : Sre.ops[theCode.getD i 0]? = some .NOT_LITERAL) (hc : theCode.getD (i + 1) 0 = c) : ∀ x seen, Sre.accepts theCode i x seen = .ok (x != c, seen) := fun x seen => by
  unfold Sre.accepts
  rw [h]
  simp only [hc]
theorem acc_any (i : Nat) (h : Sre.ops[theCode.getD i 0]? = some .ANY) : ∀ x seen, Sre.accepts theCode i x seen = .ok (x != 10, seen) := fun x seen => by
  unfold Sre.accepts
  rw [h]

theorem afterRun_eq (m : Sre.M) (wait : Sre.Wait) (count : Int) (lm li : Int) (h : m.weight + 1 ≤ 1000) : m.afterRun wait count (kept0 lm li) = { m with frames := { wait := wait, pc := m.pc, pos := m.pos, outermost := m.outermost, count := count, kept := kept0 lm li } :: m.frames, weight := m.weight + 1, pc := m.pc + 1 + m.word 1, handed := m.pos } := by
  unfold Sre.M.afterRun Sre.M.attempt
  rw [if_neg (by show ¬ (m.weight + 1 + 0 > 16777216); omega)]
  rfl

section
variable (T : Array Nat) (n st : Nat) (o : Bool) (mk : Array (Option Nat)) (lm li : Int) (fs : List Sre.Frame) (w pos hd : Nat)

noncomputable abbrev fGive (pc pos : Nat) (o : Bool) (k : Int) (lm li : Int) : Sre.Frame := { wait := .giveBack, pc := pc, pos := pos, outermost := o, count := k, kept := kept0 lm li }
noncomputable abbrev fTake (pos : Nat) (o : Bool) (k : Int) (lm li : Int) : Sre.Frame := { wait := .takeMore, pc := 25, pos := pos, outermost := o, count := k, kept := kept0 lm li }
noncomputable abbrev fAlt (pc pos : Nat) (o : Bool) : Sre.Frame := { wait := .nextBranch, pc := pc, pos := pos, outermost := o, kept := kept0 (-1) (-1) }
noncomputable abbrev fStart (pos : Nat) (o : Bool) : Sre.Frame := { wait := .nextStart, pc := 5, pos := pos, outermost := o }

theorem go_rep9 (hn : n ≤ 16777216) (hp : pos < n) (hk : 0 < runLen 91 T (n - pos) pos) (hw : w + 1 ≤ 1000) :
    Go 1 ⟨T, n, st, o, mk, lm, li, fs, w, 9, pos, hd, none⟩ ⟨T, n, st, o, mk, lm, li, fGive 9 (pos + runLen 91 T (n - pos) pos) o (runLen 91 T (n - pos) pos : Nat) lm li :: fs, w + 1, 16, pos + runLen 91 T (n - pos) pos, pos + runLen 91 T (n - pos) pos, none⟩ := fun seen => ⟨(seen.add 24).add 20, by
  rw [iter1]
  rw [step_exec _ _ rfl (by show (9 : Nat) < 57; decide), exec_rep _ (by rfl) 91 (acc_not 13 91 (by rfl) (by rfl)) rfl (by show pos ≤ n; omega) (by show n ≤ 4294967295; omega)]
  rw [if_neg (by show ¬ (1 > n - pos); omega), if_neg (by show ¬ (runLen 91 T (n - pos) pos < 1); omega), afterRun_eq _ _ _ _ _ hw]
  rfl⟩
theorem go_rep9No (hn : n ≤ 16777216) (hp : pos ≤ n) (hk : runLen 91 T (n - pos) pos = 0) : ∃ k : Unit, Go 1 ⟨T, n, st, o, mk, lm, li, fs, w, 9, pos, hd, none⟩ ⟨T, n, st, o, mk, lm, li, fs, w, 9, pos, hd, some false⟩ := ⟨(), fun seen => by
  by_cases h1 : 1 > n - pos
  · refine ⟨seen.add 24, ?_⟩
    rw [iter1]
    rw [step_exec _ _ rfl (by show (9 : Nat) < 57; decide), exec_rep _ (by rfl) 91 (acc_not 13 91 (by rfl) (by rfl)) rfl (by show pos ≤ n; omega) (by show n ≤ 4294967295; omega)]
    rw [if_pos (by show 1 > n - pos; omega)]
    rfl
  · refine ⟨(seen.add 24).add 20, ?_⟩
    rw [iter1]
    rw [step_exec _ _ rfl (by show (9 : Nat) < 57; decide), exec_rep _ (by rfl) 91 (acc_not 13 91 (by rfl) (by rfl)) rfl (by show pos ≤ n; omega) (by show n ≤ 4294967295; omega)]
    rw [if_neg (by show ¬ (1 > n - pos); omega), if_pos (by show runLen 91 T (n - pos) pos < 1; omega)]
    rfl⟩
theorem go_rep42 (hn : n ≤ 16777216) (hp : pos ≤ n) (hw : w + 1 ≤ 1000) :
    Go 1 ⟨T, n, st, o, mk, lm, li, fs, w, 42, pos, hd, none⟩ ⟨T, n, st, o, mk, lm, li, fGive 42 (pos + runLen 93 T (n - pos) pos) o (runLen 93 T (n - pos) pos : Nat) lm li :: fs, w + 1, 49, pos + runLen 93 T (n - pos) pos, pos + runLen 93 T (n - pos) pos, none⟩ := fun seen => ⟨(seen.add 24).add 20, by
  rw [iter1]
  rw [step_exec _ _ rfl (by show (42 : Nat) < 57; decide), exec_rep _ (by rfl) 93 (acc_not 46 93 (by rfl) (by rfl)) rfl (by show pos ≤ n; omega) (by show n ≤ 4294967295; omega)]
  rw [if_neg (by show ¬ (0 > n - pos); omega), if_neg (by show ¬ (runLen 93 T (n - pos) pos < 0); omega), afterRun_eq _ _ _ _ _ hw]
  rfl⟩
theorem go_min25 (hp : pos ≤ n) (hw : w + 1 ≤ 1000) :
    Go 1 ⟨T, n, st, o, mk, lm, li, fs, w, 25, pos, hd, none⟩ ⟨T, n, st, o, mk, lm, li, fTake pos o 0 lm li :: fs, w + 1, 31, pos, pos, none⟩ := fun seen => ⟨(seen.add 26).add 2, by
  rw [iter1]
  rw [step_exec _ _ rfl (by show (25 : Nat) < 57; decide), exec_min _ (by rfl) rfl (by show pos ≤ n; omega) (by rfl), afterRun_eq _ _ _ _ _ hw]
  rfl⟩
/-- an answer goes through a frame -/
theorem go_yes {f : Sre.Frame} (hf : f.wait = .nextBranch ∨ f.wait = .giveBack ∨ f.wait = .takeMore ∨ f.wait = .nextStart) (hz : f.kept.marks.size = 0) {pc pos' : Nat} {o' : Bool} :
    Go 1 ⟨T, n, st, o', mk, lm, li, f :: fs, w + 1, pc, pos', hd, some true⟩ ⟨T, n, st, f.outermost, mk, lm, li, fs, w, f.pc, f.pos, hd, some true⟩ := fun seen => ⟨seen, by
  show Sre.M.resume _ f true = _
  unfold Sre.M.resume
  rcases hf with h | h | h | h <;> rw [h] <;> simp only [if_true, hz] <;> rfl⟩
theorem go_giveNo {k : Int} {fpc fpos : Nat} (h : fpc = 42) (hk : ¬ (k - 1 < 0)) (hw : w + 1 ≤ 1000) {pc pos' : Nat} {o' : Bool} {lm' li' : Int} :
    Go 1 ⟨T, n, st, o', mk, lm', li', fGive fpc fpos o k lm li :: fs, w + 1, pc, pos', hd, some false⟩ ⟨T, n, st, o, mk, lm, li, fGive fpc (fpos - 1) o (k - 1) lm li :: fs, w + 1, 49, fpos - 1, fpos - 1, none⟩ := fun seen => ⟨seen, by
  subst h
  show Sre.M.resume _ (fGive 42 fpos o k lm li) false = _
  unfold Sre.M.resume
  simp only [Bool.false_eq_true, if_false]
  rw [if_neg (by exact hk), afterRun_eq _ _ _ _ _ (by show w + 1 - (1 + 0) + 1 ≤ 1000; omega)]
  rfl⟩
theorem go_giveEnd {k : Int} {fpc fpos : Nat} (h : fpc = 42) (hk : k - 1 < 0) {pc pos' : Nat} {o' : Bool} {lm' li' : Int} :
    Go 1 ⟨T, n, st, o', mk, lm', li', fGive fpc fpos o k lm li :: fs, w + 1, pc, pos', hd, some false⟩ ⟨T, n, st, o, mk, lm, li, fs, w, 42, fpos, hd, some false⟩ := fun seen => ⟨seen, by
  subst h
  show Sre.M.resume _ (fGive 42 fpos o k lm li) false = _
  unfold Sre.M.resume
  simp only [Bool.false_eq_true, if_false]
  rw [if_pos (by exact hk)]
  rfl⟩
theorem go_takeMore {k : Int} {fpos : Nat} (hp : fpos < n) (hc : T.getD fpos 0 ≠ 10) (hw : w + 1 ≤ 1000) {pc pos' : Nat} {o' : Bool} {lm' li' : Int} :
    Go 1 ⟨T, n, st, o', mk, lm', li', fTake fpos o k lm li :: fs, w + 1, pc, pos', hd, some false⟩ ⟨T, n, st, o, mk, lm, li, fTake (fpos + 1) o (k + 1) lm li :: fs, w + 1, 31, fpos + 1, fpos + 1, none⟩ := fun seen => ⟨seen, by
  show Sre.M.resume _ (fTake fpos o k lm li) false = _
  unfold Sre.M.resume
  simp only [Bool.false_eq_true, if_false]
  rw [if_neg (by show ¬ ((decide (k + 1 > ((4294967295 : Nat) : Int)) && ((4294967295 : Nat) != Sre.maxRepeat)) = true); rw [show ((4294967295 : Nat) != Sre.maxRepeat) = false from rfl, Bool.and_false]; decide), if_neg (by show ¬ (fpos ≥ n); omega)]
  have ha := acc_any 29 (by rfl) (T.getD fpos 0) seen
  rw [show (T.getD fpos 0 != 10) = true from by simp only [bne_iff_ne, ne_eq]; exact hc] at ha
  have ha' : Sre.accepts theCode (25 + 4) (T.getD fpos 0) seen = .ok (true, seen) := ha
  show (match Sre.accepts theCode (25 + 4) (T.getD fpos 0) seen with | .error why => _ | .ok (false, seen) => _ | .ok (true, seen) => _) = _
  rw [ha']
  simp only
  rw [afterRun_eq _ _ _ _ _ (by show w + 1 - (1 + 0) + 1 ≤ 1000; omega)]
  rfl⟩
theorem go_takeEnd {k : Int} {fpos : Nat} (hp : fpos ≥ n ∨ T.getD fpos 0 = 10) {pc pos' : Nat} {o' : Bool} {lm' li' : Int} :
    Go 1 ⟨T, n, st, o', mk, lm', li', fTake fpos o k lm li :: fs, w + 1, pc, pos', hd, some false⟩ ⟨T, n, st, o, mk, lm, li, fs, w, 25, fpos, hd, some false⟩ := fun seen => ⟨seen, by
  show Sre.M.resume _ (fTake fpos o k lm li) false = _
  unfold Sre.M.resume
  simp only [Bool.false_eq_true, if_false]
  rw [if_neg (by show ¬ ((decide (k + 1 > ((4294967295 : Nat) : Int)) && ((4294967295 : Nat) != Sre.maxRepeat)) = true); rw [show ((4294967295 : Nat) != Sre.maxRepeat) = false from rfl, Bool.and_false]; decide)]
  by_cases h1 : fpos ≥ n
  · rw [if_pos (by exact h1)]; rfl
  · rw [if_neg (by exact h1)]
    have hc : T.getD fpos 0 = 10 := hp.resolve_left h1
    have ha := acc_any 29 (by rfl) (T.getD fpos 0) seen
    rw [show (T.getD fpos 0 != 10) = false from by rw [hc]; rfl] at ha
    have ha' : Sre.accepts theCode (25 + 4) (T.getD fpos 0) seen = .ok (false, seen) := ha
    show (match Sre.accepts theCode (25 + 4) (T.getD fpos 0) seen with | .error why => _ | .ok (false, seen) => _ | .ok (true, seen) => _) = _
    rw [ha']
    rfl⟩
theorem go_nextStart {fpos : Nat} (hp : fpos < n) {pc pos' : Nat} {o' oo : Bool} :
    Go 1 ⟨T, n, st, o', mk, lm, li, [fStart fpos oo], 1, pc, pos', hd, some false⟩ ⟨T, n, fpos + 1, false, mk, -1, -1, [fStart (fpos + 1) false], 1, 5, fpos + 1, fpos + 1, none⟩ := fun seen => ⟨seen, by
  show Sre.M.resume _ (fStart fpos oo) false = _
  unfold Sre.M.resume
  simp only [Bool.false_eq_true, if_false]
  rw [if_pos (by exact hp)]
  rfl⟩
theorem go_lastStart {fpos : Nat} (hp : ¬ fpos < n) {pc pos' : Nat} {o' oo : Bool} :
    Go 1 ⟨T, n, st, o', mk, lm, li, [fStart fpos oo], 1, pc, pos', hd, some false⟩ ⟨T, n, st, oo, mk, lm, li, [], 0, 5, fpos, hd, some false⟩ := fun seen => ⟨seen, by
  show Sre.M.resume _ (fStart fpos oo) false = _
  unfold Sre.M.resume
  simp only [Bool.false_eq_true, if_false]
  rw [if_neg (by exact hp)]
  rfl⟩
end
end Mine

end
section
open PySem PySem.W PySem.Calls PyProof.Rows
set_option Elab.async false
set_option maxRecDepth 100000
namespace Mine

/-! what the one pattern finds -/
noncomputable def closeAt : List Nat → Option Nat
  | [] => none
  | c :: r => if c = 93 then some 0 else if c = 10 then none else (closeAt r).map (· + 1)
noncomputable def findM : Nat → List Nat → Option (Nat × Nat × Nat)
  | _, [] => none
  | s, c :: r => if c ≠ 91 then some (s, s + 1 + (r.takeWhile (· != 91)).length, 1)
    else match closeAt r with
      | some k => some (s, s + k + 2, 2)
      | none => if 93 ∈ r then findM (s + 1) r else some (s, s + 1 + r.length, 3)

section
variable {l : List Nat}
theorem drop_cons {q c : Nat} {r : List Nat} (h : l.drop q = c :: r) : q < l.length ∧ l.toArray.getD q 0 = c ∧ l.drop (q + 1) = r := by
  have hq : q < l.length := by
    rcases Nat.lt_or_ge q l.length with hh | hh
    · exact hh
    · rw [List.drop_eq_nil_of_le hh] at h; cases h
  rw [List.drop_eq_getElem_cons hq] at h
  cases h
  refine ⟨hq, ?_, rfl⟩
  simp [Array.getD, hq]
theorem drop_nil {q : Nat} (h : l.drop q = []) : l.length ≤ q := by simpa using h

theorem runLen_drop (c : Nat) : ∀ (r : List Nat) (q : Nat), l.drop q = r → runLen c l.toArray (l.length - q) q = (r.takeWhile (· != c)).length
  | [], q, h => by
    have := drop_nil h
    rw [show l.length - q = 0 by omega]; rfl
  | x :: r, q, h => by
    obtain ⟨h1, h2, h3⟩ := drop_cons h
    rw [show l.length - q = (l.length - (q + 1)) + 1 by omega, runLen, h2, runLen_drop c r (q + 1) h3]
    by_cases hx : x = c
    · rw [if_neg (by simpa using hx), List.takeWhile_cons_of_neg (by simpa using hx)]; rfl
    · rw [if_pos hx, List.takeWhile_cons_of_pos (by simpa using hx)]; rfl

/-- the machine comes from c to a like of c' -/
noncomputable def Rch (b : Nat) (c : Cfg) (Q : Cfg → Prop) : Prop := ∃ k c', k ≤ b ∧ Go k c c' ∧ Q c'
theorem Rch.step {a b : Nat} {c c1 : Cfg} {Q : Cfg → Prop} (h : Go a c c1) (r : Rch b c1 Q) : Rch (a + b) c Q := let ⟨k, c', h1, h2, h3⟩ := r; ⟨a + k, c', by omega, h.trans h2, h3⟩
theorem Rch.mono {a b : Nat} {c : Cfg} {Q Q' : Cfg → Prop} (r : Rch a c Q) (h : a ≤ b) (hq : ∀ c, Q c → Q' c) : Rch b c Q' := let ⟨k, c', h1, h2, h3⟩ := r; ⟨k, c', by omega, h2, hq _ h3⟩
theorem Rch.bind {a b : Nat} {c : Cfg} {Q Q' : Cfg → Prop} (r : Rch a c Q) (h : ∀ c', Q c' → Rch b c' Q') : Rch (a + b) c Q' := by
  obtain ⟨k, c', h1, h2, h3⟩ := r
  obtain ⟨k', c'', g1, g2, g3⟩ := h c' h3
  exact ⟨k + k', c'', by omega, h2.trans g2, g3⟩
theorem Rch.done {c : Cfg} {Q : Cfg → Prop} (h : Q c) : Rch 0 c Q := ⟨0, c, Nat.le_refl _, Go.refl c, h⟩

variable (st : Nat) (o : Bool) (li : Int) (fs : List Sre.Frame) (w : Nat)

/-- the lazy run up to the closing bracket -/
theorem take_yes (hw : w + 1 ≤ 1000) : ∀ (r : List Nat) (q j : Nat) (k : Int) (mk : Array (Option Nat)), l.drop q = r → closeAt r = some j →
    Rch (2 * r.length + 4) ⟨l.toArray, l.length, st, o, mk, 2, li, fTake q o k 2 li :: fs, w + 1, 31, q, q, none⟩ (fun c => ∃ k' q', c = ⟨l.toArray, l.length, st, o, mk.setIfInBounds 3 (some (q + j + 1)), 3, 2, fTake q' o k' 2 li :: fs, w + 1, 56, q + j + 1, q + j + 1, some true⟩)
  | [], q, j, k, mk, h, hc => by simp [closeAt] at hc
  | x :: r, q, j, k, mk, h, hc => by
    obtain ⟨h1, h2, h3⟩ := drop_cons h
    rw [closeAt] at hc
    split at hc
    · rename_i hx
      cases hc
      subst hx
      refine Rch.mono (Rch.step (go_lit31 _ _ _ _ _ _ _ _ _ _ _ h1 h2) (Rch.step (go_mark3 _ _ _ _ _ _ _ _ _ _) (Rch.step (go_jump35 _ _ _ _ _ _ _ _ _ _ _) (Rch.step (go_succ _ _ _ _ _ _ _ _ _ _ _) (Rch.done (Q := fun c => ∃ k' q', c = ⟨l.toArray, l.length, st, o, mk.setIfInBounds 3 (some (q + 0 + 1)), 3, 2, fTake q' o k' 2 li :: fs, w + 1, 56, q + 0 + 1, q + 0 + 1, some true⟩) ⟨k, q, rfl⟩))))) (by simp only [List.length_cons]; omega) fun _ h => h
    · rename_i hx
      split at hc
      · cases hc
      · rename_i hx2
        rw [Option.map_eq_some_iff] at hc
        obtain ⟨j', hj, hc⟩ := hc
        subst hc
        have ih := take_yes hw r (q + 1) j' (k + 1) mk h3 hj
        refine Rch.mono (Rch.step (go_litNo31 _ _ _ _ _ _ _ _ _ _ _ (fun e => hx (h2 ▸ e.2))) (Rch.step (go_takeMore _ _ _ _ _ _ _ _ _ _ h1 (by rw [h2]; exact hx2) hw) ih)) (by simp only [List.length_cons]; omega) fun c h => ?_
        obtain ⟨k', q', h⟩ := h
        exact ⟨k', q', by rw [h]; congr 1 <;> first | omega | (congr 2; omega)⟩

theorem take_no (hw : w + 1 ≤ 1000) : ∀ (r : List Nat) (q : Nat) (k : Int) (mk : Array (Option Nat)), l.drop q = r → closeAt r = none →
    Rch (2 * r.length + 2) ⟨l.toArray, l.length, st, o, mk, 2, li, fTake q o k 2 li :: fs, w + 1, 31, q, q, none⟩ (fun c => ∃ p hd, c = ⟨l.toArray, l.length, st, o, mk, 2, li, fs, w, 25, p, hd, some false⟩)
  | [], q, k, mk, h, hc => by
    have hq := drop_nil h
    exact Rch.mono (Rch.step (go_litNo31 _ _ _ _ _ _ _ _ _ _ _ (fun e => by have := e.1; omega)) (Rch.step (go_takeEnd _ _ _ _ _ _ _ _ _ _ (.inl hq)) (Rch.done (Q := fun c => ∃ p hd, c = ⟨l.toArray, l.length, st, o, mk, 2, li, fs, w, 25, p, hd, some false⟩) ⟨_, _, rfl⟩))) (by simp) fun _ h => h
  | x :: r, q, k, mk, h, hc => by
    obtain ⟨h1, h2, h3⟩ := drop_cons h
    rw [closeAt] at hc
    split at hc
    · cases hc
    · rename_i hx
      split at hc
      · rename_i hx2
        exact Rch.mono (Rch.step (go_litNo31 _ _ _ _ _ _ _ _ _ _ _ (fun e => hx (h2 ▸ e.2))) (Rch.step (go_takeEnd _ _ _ _ _ _ _ _ _ _ (.inr (h2.trans hx2))) (Rch.done (Q := fun c => ∃ p hd, c = ⟨l.toArray, l.length, st, o, mk, 2, li, fs, w, 25, p, hd, some false⟩) ⟨_, _, rfl⟩))) (by simp) fun _ h => h
      · rename_i hx2
        have hj : closeAt r = none := by simpa using hc
        have ih := take_no hw r (q + 1) (k + 1) mk h3 hj
        exact Rch.mono (Rch.step (go_litNo31 _ _ _ _ _ _ _ _ _ _ _ (fun e => hx (h2 ▸ e.2))) (Rch.step (go_takeMore _ _ _ _ _ _ _ _ _ _ h1 (by rw [h2]; exact hx2) hw) ih)) (by simp only [List.length_cons]; omega) fun c h => h

/-- the greedy run gives all back -/
theorem give_no (hw : w + 1 ≤ 1000) : ∀ (k p : Nat) (mk : Array (Option Nat)), k ≤ p → p < l.length → (p + 1 = l.length → l.toArray.getD p 0 ≠ 10) →
    Rch (2 * k + 2) ⟨l.toArray, l.length, st, o, mk, 4, li, fGive 42 p o (k : Nat) 4 li :: fs, w + 1, 49, p, p, none⟩ (fun c => ∃ p hd, c = ⟨l.toArray, l.length, st, o, mk, 4, li, fs, w, 42, p, hd, some false⟩)
  | 0, p, mk, hk, hp, hc => Rch.mono (Rch.step (go_atNo _ _ _ _ _ _ _ _ _ _ _ (by omega) (fun e => hc e.1 e.2)) (Rch.step (go_giveEnd _ _ _ _ _ _ _ _ _ _ rfl (by decide)) (Rch.done (Q := fun c => ∃ p hd, c = ⟨l.toArray, l.length, st, o, mk, 4, li, fs, w, 42, p, hd, some false⟩) ⟨_, _, rfl⟩))) (by simp) fun _ h => h
  | k + 1, p, mk, hk, hp, hc => by
    have ih := give_no hw k (p - 1) mk (by omega) (by omega) (fun e => by omega)
    refine Rch.mono (a := 1 + (1 + (2 * k + 2))) (Rch.step (go_atNo _ _ _ _ _ _ _ _ _ _ _ (by omega) (fun e => hc e.1 e.2)) (Rch.step (go_giveNo _ _ _ _ _ _ _ _ _ _ rfl (by omega) hw) ?_)) (by omega) fun _ h => h
    rw [show (((k + 1 : Nat) : Int) - 1) = ((k : Nat) : Int) by omega]
    exact ih
end

theorem getD_set {α : Type} (a : Array (Option α)) (i j : Nat) (v : Option α) : (a.setIfInBounds i v).getD j none = if i = j ∧ j < a.size then v else a.getD j none := by
  simp only [Array.getD_eq_getD_getElem?, Array.getElem?_setIfInBounds]
  by_cases h : i = j
  · subst h
    by_cases h2 : i < a.size
    · simp [h2]
    · simp [h2]
  · simp [h]

noncomputable def MarksOk (mk : Array (Option Nat)) (lm : Int) (b e g : Nat) : Prop :=
  (g = 1 ∧ lm = 1 ∧ mk.getD 0 none = some b ∧ mk.getD 1 none = some e) ∨
  (g = 2 ∧ lm = 3 ∧ mk.getD 0 none = none ∧ mk.getD 1 none = none ∧ mk.getD 2 none = some b ∧ mk.getD 3 none = some e) ∨
  (g = 3 ∧ lm = 5 ∧ mk.getD 0 none = none ∧ mk.getD 1 none = none ∧ mk.getD 2 none = none ∧ mk.getD 3 none = none ∧ mk.getD 4 none = some b ∧ mk.getD 5 none = some e)
noncomputable def Ends (l : List Nat) (x : Option (Nat × Nat × Nat)) (c : Cfg) : Prop := match x with
  | some (b, e, g) => ∃ o mk lm pc pos, c = ⟨l.toArray, l.length, b, o, mk, lm, (g : Int), [], 0, pc, pos, e, some true⟩ ∧ MarksOk mk lm b e g
  | none => ∃ st o mk lm li pc pos hd, c = ⟨l.toArray, l.length, st, o, mk, lm, li, [], 0, pc, pos, hd, some false⟩

section
variable {l : List Nat}
theorem takeWhile_all {c : Nat} : ∀ {r : List Nat}, c ∉ r → (r.takeWhile (· != c)).length = r.length
  | [], _ => rfl
  | x :: r, h => by
    rw [List.mem_cons, not_or] at h
    rw [List.takeWhile_cons_of_pos (by simpa using fun e => h.1 e.symm), List.length_cons, takeWhile_all h.2, List.length_cons]
theorem takeWhile_lt {c : Nat} : ∀ {r : List Nat}, c ∈ r → ∃ y, r.drop (r.takeWhile (· != c)).length = c :: y
  | [], h => nomatch h
  | x :: r, h => by
    by_cases hx : x = c
    · subst hx; exact ⟨r, by simp⟩
    · rcases List.mem_cons.mp h with e | h
      · exact absurd e.symm hx
      · rw [List.takeWhile_cons_of_pos (by simpa using hx), List.length_cons, List.drop_succ_cons]
        exact takeWhile_lt h

theorem search_ok (hn : l.length ≤ 16777216) : ∀ (r : List Nat) (s : Nat) (o : Bool) (mk : Array (Option Nat)), mk.size = 6 → l.drop s = r → s ≤ l.length →
    Rch ((r.length + 1) * (4 * l.length + 60)) ⟨l.toArray, l.length, s, o, mk, -1, -1, [fStart s o], 1, 5, s, s, none⟩ (Ends l (findM s r))
  | [], s, o, mk, hm, h, hs => by
    have hq : s = l.length := by have := drop_nil h; omega
    have hk : runLen 91 l.toArray (l.length - s) s = 0 := by rw [hq, Nat.sub_self]; rfl
    obtain ⟨_, h9⟩ := go_rep9No l.toArray l.length s o (mk.setIfInBounds 0 (some s)) 0 (-1) [fAlt 6 s o, fStart s o] 2 s s hn hs hk
    refine Rch.mono (Rch.step (go_branch _ _ _ _ _ _ _ _ _ _ _ (by decide)) (Rch.step (go_mark0 _ _ _ _ _ _ _ _ _ _) (Rch.step h9 (Rch.step (go_alt _ _ _ _ _ _ _ [fStart s o] 1 s _ 6 20 (by rfl) (by rfl) (by decide) rfl)
      (Rch.step (go_mark2 _ _ _ _ _ _ _ _ _ _) (Rch.step (go_litNo23 _ _ _ _ _ _ _ _ _ _ _ (fun e => by have := e.1; omega)) (Rch.step (go_alt _ _ _ _ _ _ _ [fStart s o] 1 s _ 20 37 (by rfl) (by rfl) (by decide) rfl)
      (Rch.step (go_mark4 _ _ _ _ _ _ _ _ _ _) (Rch.step (go_litNo40 _ _ _ _ _ _ _ _ _ _ _ (fun e => by have := e.1; omega)) (Rch.step (go_altEnd _ _ _ _ _ _ _ [fStart s o] 1 s _ rfl) (Rch.step (go_lastStart _ _ _ _ _ _ _ (by omega)) (Rch.done (Q := Ends l none) ⟨_, _, _, _, _, _, _, _, rfl⟩)))))))))))) (by simp only [List.length_nil]; omega) fun c h => h
  | x :: r, s, o, mk, hm, h, hs => by
    obtain ⟨h1, h2, h3⟩ := drop_cons h
    have hrl : r.length + s + 1 = l.length := by
      have := congrArg List.length h
      simp at this
      omega
    by_cases hx : x = 91
    · subst hx
      have hk : runLen 91 l.toArray (l.length - s) s = 0 := by rw [runLen_drop 91 _ s h]; simp
      obtain ⟨_, h9⟩ := go_rep9No l.toArray l.length s o (mk.setIfInBounds 0 (some s)) 0 (-1) [fAlt 6 s o, fStart s o] 2 s s hn hs hk
      have pre : ∀ {b : Nat} {Q : Cfg → Prop}, (∀ mk' : Array (Option Nat), mk'.size = 6 → mk'.getD 0 none = none → mk'.getD 1 none = none → mk'.getD 2 none = some s → Rch b ⟨l.toArray, l.length, s, o, mk', 2, -1, fTake (s + 1) o 0 2 (-1) :: [fAlt 20 s o, fStart s o], 3, 31, s + 1, s + 1, none⟩ Q) → Rch (8 + b) ⟨l.toArray, l.length, s, o, mk, -1, -1, [fStart s o], 1, 5, s, s, none⟩ Q := fun hb =>
        Rch.mono (Rch.step (go_branch _ _ _ _ _ _ _ _ _ _ _ (by decide)) (Rch.step (go_mark0 _ _ _ _ _ _ _ _ _ _) (Rch.step h9 (Rch.step (go_alt _ _ _ _ _ _ _ [fStart s o] 1 s _ 6 20 (by rfl) (by rfl) (by decide) rfl)
          (Rch.step (go_mark2 _ _ _ _ _ _ _ _ _ _) (Rch.step (go_lit23 _ _ _ _ _ _ _ _ _ _ _ h1 h2) (Rch.step (go_min25 _ _ _ _ _ _ _ _ _ _ _ (by omega) (by decide)) (hb _ (by simp [hm]) (by simp [getD_set, hm]) (by simp [getD_set, hm]) (by simp [getD_set, hm])))))))))
          (by omega) fun _ h => h
      rw [findM, if_neg (by simp)]
      cases hc : closeAt r with
      | some j =>
        simp only
        refine Rch.mono (pre fun mk' hm' e0 e1 e2 => Rch.bind (take_yes s o (-1) [fAlt 20 s o, fStart s o] 2 (by decide) r (s + 1) j 0 mk' h3 hc) fun c' hc' => (?_ : Rch 3 c' (Ends l (some (s, s + j + 2, 2))))) ?_ fun _ h => h
        · obtain ⟨k', q', rfl⟩ := hc'
          refine Rch.mono (Rch.step (go_yes _ _ _ _ _ _ _ _ _ (.inr (.inr (.inl rfl))) rfl) (Rch.step (go_yes _ _ _ _ _ _ _ _ _ (.inl rfl) rfl) (Rch.step (go_yes _ _ _ _ _ _ _ _ _ (.inr (.inr (.inr rfl))) rfl) (Rch.done (Q := Ends l (some (s, s + 1 + j + 1, 2))) ⟨_, _, _, _, _, rfl, .inr (.inl ⟨rfl, rfl, ?_, ?_, ?_, ?_⟩)⟩)))) (Nat.le_refl _) fun _ h => by rw [show s + j + 2 = s + 1 + j + 1 by omega]; exact h
          · rw [getD_set, if_neg (by omega)]; exact e0
          · rw [getD_set, if_neg (by omega)]; exact e1
          · rw [getD_set, if_neg (by omega)]; exact e2
          · rw [getD_set, if_pos (by omega)]
        · simp only [List.length_cons]
          have : (r.length + 1 + 1) * (4 * l.length + 60) ≥ 1 * (4 * l.length + 60) := Nat.mul_le_mul_right _ (by omega)
          omega
      | none =>
        simp only
        have rest : ∀ {b : Nat} {Q : Cfg → Prop}, (∀ mk' : Array (Option Nat), mk'.size = 6 → mk'.getD 0 none = none → mk'.getD 1 none = none → mk'.getD 2 none = none → mk'.getD 3 none = none → mk'.getD 4 none = some s →
            Rch b ⟨l.toArray, l.length, s, o, mk', 4, -1, fGive 42 (s + 1 + runLen 93 l.toArray (l.length - (s + 1)) (s + 1)) o (runLen 93 l.toArray (l.length - (s + 1)) (s + 1) : Nat) 4 (-1) :: [fAlt 37 s o, fStart s o], 3, 49, s + 1 + runLen 93 l.toArray (l.length - (s + 1)) (s + 1), s + 1 + runLen 93 l.toArray (l.length - (s + 1)) (s + 1), none⟩ Q) →
            Rch (8 + (2 * r.length + 2 + (4 + b))) ⟨l.toArray, l.length, s, o, mk, -1, -1, [fStart s o], 1, 5, s, s, none⟩ Q := fun hb => by
          refine pre fun mk' hm' e0 e1 e2 => Rch.bind (take_no s o (-1) [fAlt 20 s o, fStart s o] 2 (by decide) r (s + 1) 0 mk' h3 hc) fun c' hc' => ?_
          obtain ⟨p, hd, rfl⟩ := hc'
          exact Rch.mono (Rch.step (go_alt _ _ _ _ _ _ _ [fStart s o] 1 s _ 20 37 (by rfl) (by rfl) (by decide) rfl)
            (Rch.step (go_mark4 _ _ _ _ _ _ _ _ _ _) (Rch.step (go_lit40 _ _ _ _ _ _ _ _ _ _ _ h1 h2) (Rch.step (go_rep42 _ _ _ _ _ _ _ _ _ _ _ hn (by omega) (by decide)) (hb _ (by simp [hm']) (by simp [getD_set, hm']) (by simp [getD_set, hm']) (by simp [getD_set, hm']) (by simp [getD_set, hm']) (by simp [getD_set, hm']))))))
            (by omega) fun _ h => h
        have hrun := runLen_drop 93 r (s + 1) h3
        rw [hrun] at rest
        by_cases h93 : 93 ∈ r
        · rw [if_pos h93]
          obtain ⟨y, hy⟩ := takeWhile_lt h93
          rw [← h3, List.drop_drop, h3] at hy
          obtain ⟨g1, g2, g3⟩ := drop_cons hy
          have ih := search_ok hn r (s + 1) false
          refine Rch.mono (rest fun mk' hm' e0 e1 e2 e3 e4 => Rch.bind (give_no s o (-1) [fAlt 37 s o, fStart s o] 2 (by decide) (r.takeWhile (· != 93)).length (s + 1 + (r.takeWhile (· != 93)).length) mk' (by omega) g1 (fun _ e => by rw [g2] at e; cases e)) fun c' hc' => (?_ : Rch (1 + (1 + ((r.length + 1) * (4 * l.length + 60)))) c' (Ends l (findM (s + 1) r)))) ?_ fun _ h => h
          · obtain ⟨p, hd, rfl⟩ := hc'
            exact Rch.step (go_altEnd _ _ _ _ _ _ _ [fStart s o] 1 s _ rfl) (Rch.step (go_nextStart _ _ _ _ _ _ _ h1) (ih mk' hm' h3 (by omega)))
          · have hl2 : (r.takeWhile (· != 93)).length ≤ r.length := by have := runLen_le 93 l.toArray (l.length - (s + 1)) (s + 1); omega
            simp only [List.length_cons]
            have : (r.length + 1 + 1) * (4 * l.length + 60) = (r.length + 1) * (4 * l.length + 60) + (4 * l.length + 60) := Nat.succ_mul _ _
            omega
        · rw [if_neg h93]
          have hlen := takeWhile_all h93
          rw [hlen] at rest
          refine Rch.mono (rest fun mk' hm' e0 e1 e2 e3 e4 => Rch.step (go_at _ _ _ _ _ _ _ _ _ _ _ (by omega)) (Rch.step (go_mark5 _ _ _ _ _ _ _ _ _ _) (Rch.step (go_jump53 _ _ _ _ _ _ _ _ _ _ _) (Rch.step (go_succ _ _ _ _ _ _ _ _ _ _ _)
            (Rch.step (go_yes _ _ _ _ _ _ _ _ _ (.inr (.inl rfl)) rfl) (Rch.step (go_yes _ _ _ _ _ _ _ _ _ (.inl rfl) rfl) (Rch.step (go_yes _ _ _ _ _ _ _ _ _ (.inr (.inr (.inr rfl))) rfl)
            (Rch.done (Q := Ends l (some (s, s + 1 + r.length, 3))) ⟨_, _, _, _, _, rfl, .inr (.inr ⟨rfl, rfl, ?_, ?_, ?_, ?_, ?_, ?_⟩)⟩)))))))) ?_ fun _ h => h
          · rw [getD_set, if_neg (by omega)]; exact e0
          · rw [getD_set, if_neg (by omega)]; exact e1
          · rw [getD_set, if_neg (by omega)]; exact e2
          · rw [getD_set, if_neg (by omega)]; exact e3
          · rw [getD_set, if_neg (by omega)]; exact e4
          · rw [getD_set, if_pos (by omega)]
          · simp only [List.length_cons]
            have : (r.length + 1 + 1) * (4 * l.length + 60) ≥ 1 * (4 * l.length + 60) := Nat.mul_le_mul_right _ (by omega)
            omega
    · rw [findM, if_pos hx]
      have hrun := runLen_drop 91 _ s h
      rw [List.takeWhile_cons_of_pos (by simpa using hx), List.length_cons] at hrun
      have h9 := go_rep9 l.toArray l.length s o (mk.setIfInBounds 0 (some s)) 0 (-1) [fAlt 6 s o, fStart s o] 2 s s hn h1 (by rw [hrun]; omega) (by decide)
      rw [hrun] at h9
      refine Rch.mono (Rch.step (go_branch _ _ _ _ _ _ _ _ _ _ _ (by decide)) (Rch.step (go_mark0 _ _ _ _ _ _ _ _ _ _) (Rch.step h9 (Rch.step (go_mark1 _ _ _ _ _ _ _ _ _ _) (Rch.step (go_jump18 _ _ _ _ _ _ _ _ _ _ _) (Rch.step (go_succ _ _ _ _ _ _ _ _ _ _ _)
        (Rch.step (go_yes _ _ _ _ _ _ _ _ _ (.inr (.inl rfl)) rfl) (Rch.step (go_yes _ _ _ _ _ _ _ _ _ (.inl rfl) rfl) (Rch.step (go_yes _ _ _ _ _ _ _ _ _ (.inr (.inr (.inr rfl))) rfl)
        (Rch.done (Q := Ends l (some (s, s + ((r.takeWhile (· != 91)).length + 1), 1))) ⟨_, _, _, _, _, rfl, .inl ⟨rfl, rfl, ?_, ?_⟩⟩)))))))))) ?_ fun _ h => by rw [show s + 1 + (r.takeWhile (· != 91)).length = s + ((r.takeWhile (· != 91)).length + 1) by omega]; exact h
      · rw [getD_set, if_neg (by omega), getD_set, if_pos (by omega)]
      · rw [getD_set, if_pos (by simp [hm])]
      · simp only [List.length_cons]
        have : (r.length + 1 + 1) * (4 * l.length + 60) ≥ 1 * (4 * l.length + 60) := Nat.mul_le_mul_right _ (by omega)
        omega
end
end Mine

end
section
open PySem PySem.W PySem.Calls PyProof.Rows
set_option Elab.async false
set_option maxRecDepth 100000
namespace Mine
open PySem.Builtin.Re

theorem step_stop {m : Sre.M} (h : m.outcome.isSome = true) : m.step = m := by unfold Sre.M.step; rw [if_pos h]
theorem iter_stop {m : Sre.M} (h : m.outcome.isSome = true) : ∀ k, iter k m = m
  | 0 => rfl
  | k + 1 => by rw [iter, step_stop h]; exact iter_stop h k
theorem runFor_eq : ∀ (k : Nat) (m : Sre.M), m.runFor k = iter k m
  | 0, _ => rfl
  | k + 1, m => by
    rw [Sre.M.runFor]
    split
    · rename_i h; rw [iter_stop h]
    · exact runFor_eq k m.step

theorem drive_ok {M : Model} {A : Around} {E : Value → Shared → Prop} {s : Shared} {Q : Sre.M → Shared → Prop} : ∀ (N k : Nat) (m m' : Sre.M), 1 ≤ N → k ≤ 4 * N → iter k m = m' → m'.outcome.isSome = true → Q m' s → wpAny M A (reDrive N m) Q E s
  | 0, _, _, _, h, _, _, _, _ => absurd h (by decide)
  | N + 1, k, m, m', _, hk, he, ho, hQ => by
    rw [reDrive]
    show wpAny _ _ (if (m.runFor 4).outcome.isSome = true then pure (m.runFor 4) else do rule "sre.turn"; reDrive N (m.runFor 4)) _ _ _
    rw [runFor_eq]
    split
    · rename_i h4
      have : iter 4 m = m' := by
        rcases Nat.le_total k 4 with h | h
        · obtain ⟨j, e4⟩ := Nat.exists_eq_add_of_le h
          rw [e4, iter_add, he, iter_stop ho]
        · obtain ⟨j, rfl⟩ := Nat.exists_eq_add_of_le h
          rw [iter_add, iter_stop h4] at he
          exact he
      rw [this]
      exact wpAny_pure hQ
    · rename_i h4
      have hk4 : 4 < k := by
        rcases Nat.lt_or_ge 4 k with h | h
        · exact h
        · obtain ⟨j, e⟩ := Nat.exists_eq_add_of_le h
          exfalso
          apply h4
          rw [e, iter_add, he, iter_stop ho]
          exact ho
      obtain ⟨j, rfl⟩ := Nat.exists_eq_add_of_le (Nat.le_of_lt hk4)
      rw [iter_add] at he
      exact wpAny_bind (wpAny_rule (drive_ok N j _ m' (by omega) (by omega) he ho hQ))

theorem rules_ok {M : Model} {A : Around} {E : Value → Shared → Prop} {s : Shared} {α : Type} (p : α → Bool) (f : α → String) : ∀ (l : List α) {Q : PUnit → Shared → Prop}, Q ⟨⟩ s → wpAny M A (forIn l PUnit.unit fun i r => (if p i = true then do rule (f i); pure (ForInStep.yield PUnit.unit) else pure (ForInStep.yield PUnit.unit)) : Sem PUnit) Q E s
  | [], Q, h => wpAny_pure h
  | x :: l, Q, h => by
    rw [List.forIn_cons]
    refine wpAny_bind ?_
    split
    · exact wpAny_bind (wpAny_rule (wpAny_pure (rules_ok p f l h)))
    · exact wpAny_pure (rules_ok p f l h)

theorem runToEnd_ok {M : Model} {A : Around} {E : Value → Shared → Prop} {s : Shared} {Q : Option Sre.M → Shared → Prop} {m m' : Sre.M} {k : Nat} (hk : k ≤ 4 * 2 ^ 64) (he : iter k m = m')
    (h : (m'.outcome = some .matched ∧ Q (some m') s) ∨ (m'.outcome = some .failed ∧ Q none s)) : wpAny M A (reRunToEnd m) Q E s := by
  unfold reRunToEnd
  have ho : m'.outcome.isSome = true := by rcases h with h | h <;> rw [h.1] <;> rfl
  refine wpAny_bind (drive_ok _ k m m' (by decide) hk he ho (wpAny_bind ?_))
  refine rules_ok (fun i => m'.seen.has i) (fun i => Sre.names.getD i "") _ ?_
  rcases h with ⟨h1, h2⟩ | ⟨h1, h2⟩ <;> rw [h1] <;> exact wpAny_pure h2

noncomputable def FoundOk (l : List Nat) (x : Option (Nat × Nat × Nat)) (y : Option Sre.M) : Prop := match x with
  | some (b, e, g) => ∃ m, y = some m ∧ m.start = b ∧ m.handed = e ∧ m.lastindex = (g : Int) ∧ MarksOk m.marks m.lastmark b e g
  | none => y = none

theorem search_run {M : Model} {A : Around} {E : Value → Shared → Prop} {s : Shared} {l : List Nat} {st : Nat} (hn : l.length ≤ 16777216) (hs : st ≤ l.length) :
    wpAny M A (reRunToEnd (Sre.forSearch theCode l.toArray 3 st l.length false)) (fun x s' => s' = s ∧ FoundOk l (findM st (l.drop st)) x) E s := by
  rcases Nat.lt_or_ge st l.length with hlt | hge
  · have e : Sre.forSearch theCode l.toArray 3 st l.length false = mkc ⟨l.toArray, l.length, st, true, Array.replicate 6 none, -1, -1, [fStart st true], 1, 5, st, st, none⟩ (({} : Sre.Seen).add 14) := by
      unfold Sre.forSearch
      have h1 : ¬ ((decide (st > l.length) || decide (l.length - st < (Sre.header theCode).1)) = true) := by
        rw [show (Sre.header theCode).1 = 1 from rfl]
        simp only [Bool.or_eq_true, decide_eq_true_eq]
        omega
      simp only
      rw [if_neg h1]
      rfl
    obtain ⟨k, c', hk, hg, hc⟩ := search_ok hn (l.drop st) st true (Array.replicate 6 none) (by simp) rfl hs
    obtain ⟨seen', he⟩ := hg (({} : Sre.Seen).add 14)
    rw [e]
    have hlen : (l.drop st).length + 1 ≤ 16777217 := by simp; omega
    have hk2 : ((l.drop st).length + 1) * (4 * l.length + 60) ≤ 16777217 * (4 * 16777216 + 60) := Nat.mul_le_mul hlen (by omega)
    generalize mkc ⟨l.toArray, l.length, st, true, Array.replicate 6 none, -1, -1, [fStart st true], 1, 5, st, st, none⟩ (({} : Sre.Seen).add 14) = m0 at he
    have hb : k + 1 ≤ 4 * 2 ^ 64 := by omega
    have hit : iter (k + 1) m0 = (mkc c' seen').step := by rw [iter_add, he]; rfl
    generalize hff : findM st (l.drop st) = ff at hc
    cases ff with
    | some x =>
      obtain ⟨b, e, g⟩ := x
      obtain ⟨o, mk, lm, pc, pos, hcc, hm⟩ := hc
      refine runToEnd_ok hb hit (.inl ⟨?_, rfl, _, rfl, ?_, ?_, ?_, ?_⟩)
      · rw [hcc]; rfl
      · rw [hcc]; rfl
      · rw [hcc]; rfl
      · rw [hcc]; rfl
      · rw [hcc]; exact hm
    | none =>
      obtain ⟨st, o, mk, lm, li, pc, pos, hd, hcc⟩ := hc
      refine runToEnd_ok hb hit (.inr ⟨?_, rfl, rfl⟩)
      rw [hcc]; rfl
  · have hst : st = l.length := by omega
    subst hst
    rw [List.drop_length]
    refine runToEnd_ok (k := 1) (m' := (Sre.forSearch theCode l.toArray 3 l.length l.length false).step) (by decide) rfl (.inr ⟨?_, rfl, rfl⟩)
    unfold Sre.forSearch
    have h1 : ((decide (l.length > l.length) || decide (l.length - l.length < (Sre.header theCode).1)) = true) := by
      rw [show (Sre.header theCode).1 = 1 from rfl]
      simp
    simp only
    rw [if_pos h1]
    rfl
end Mine

end
section
open PySem PySem.W PySem.Calls PyProof.Rows
set_option Elab.async false
set_option maxRecDepth 100000
namespace Mine
open Sem (wp)

theorem slot_scan_ga : PySem.Slot "_sre.SRE_Scanner" "__getattribute__" "object.__getattribute__" :=
  .of (owner := "object") (n := "__getattribute__") (by rw [typeLookup_type, builtinLookup_eq_fast]; kernel_rfl) (by decide +kernel) (by decide +kernel) (by decide +kernel)
    (by first | exact .inl (by decide +kernel) | exact .inr (by decide +kernel)) (by rw [isSubtype_type]; kernel_rfl)
theorem entry_ga : entryFor table "object.__getattribute__" = some Builtin.«object.__getattribute__» := entryFor_of_tree (by kernel_rfl)
theorem args_ga (a b : Value) : argsOk "object.__getattribute__" ⟨[a, b], []⟩ := by unfold argsOk; kernel_rfl
theorem slot_scan_search : PySem.Slot "_sre.SRE_Scanner" "search" "_sre.SRE_Scanner.search" :=
  .of (owner := "_sre.SRE_Scanner") (n := "search") (by rw [typeLookup_type, builtinLookup_eq_fast]; kernel_rfl) (by decide +kernel) (by decide +kernel) (by decide +kernel)
    (by first | exact .inl (by decide +kernel) | exact .inr (by decide +kernel)) (by rw [isSubtype_type]; kernel_rfl)
theorem type_scan_search : typeOf (.builtin "_sre.SRE_Scanner.search") = pure (.type "method_descriptor") := by show builtinType _ = _; rw [builtinType_eq_fast]; kernel_rfl
theorem entry_scan_search : entryFor table "_sre.SRE_Scanner.search" = some Builtin.«_sre.SRE_Scanner.search» := entryFor_of_tree (by kernel_rfl)
theorem lk_md_get : typeLookup (.type "method_descriptor") "__get__" = pure (some (.builtin "method_descriptor.__get__")) := by rw [typeLookup_type, builtinLookup_eq_fast]; kernel_rfl
theorem lk_md_set : typeLookup (.type "method_descriptor") "__set__" = pure none := by rw [typeLookup_type, builtinLookup_eq_fast]; kernel_rfl
theorem lk_md_del : typeLookup (.type "method_descriptor") "__delete__" = pure none := by rw [typeLookup_type, builtinLookup_eq_fast]; kernel_rfl
theorem slot_md_get : PySem.Slot "method_descriptor" "__get__" "method_descriptor.__get__" :=
  .of (owner := "method_descriptor") (n := "__get__") (by rw [typeLookup_type, builtinLookup_eq_fast]; kernel_rfl) (by decide +kernel) (by decide +kernel) (by decide +kernel)
    (by first | exact .inl (by decide +kernel) | exact .inr (by decide +kernel)) (by rw [isSubtype_type]; kernel_rfl)
theorem entry_md_get : entryFor table "method_descriptor.__get__" = some Builtin.«method_descriptor.__get__» := entryFor_of_tree (by kernel_rfl)
theorem args_md_get (a b c : Value) : argsOk "method_descriptor.__get__" ⟨[a, b, c], []⟩ := by unfold argsOk; kernel_rfl
theorem sub_scan : isSubtype (.type "_sre.SRE_Scanner") (.type "_sre.SRE_Scanner") = pure true := by rw [isSubtype_type]; kernel_rfl
theorem cut_search : "_sre.SRE_Scanner.search".cutAt '.' = ["_sre", "SRE_Scanner", "search"] := by first | rfl | decide +kernel
theorem owner_search : (".".intercalate ("_sre.SRE_Scanner.search".cutAt '.').dropLast) = "_sre.SRE_Scanner" := by rw [cut_search]; decide +kernel

theorem sub_scan_owner : isSubtype (.type "_sre.SRE_Scanner") (.type (".".intercalate ("_sre.SRE_Scanner.search".cutAt '.').dropLast)) = pure true := by rw [owner_search]; exact sub_scan
theorem isType_scan : isType (.type "_sre.SRE_Scanner") = pure true := by kernel_rfl
section
variable {prog : Program} {w : World} {A : Around} {E : Value → Shared → Prop} {h : Heap} {g : Array GenState} {d : Drawn} {t : Nat} {os : OsState} {a : Addr} {o : Obj}
theorem search_get {R : Result → Shared → Prop} (hx : h.get? a = some o) (hc : o.cls = .type "_sre.SRE_Scanner")
    (hq : R (.ok (.ret (.ref h.objs.size))) ⟨h.push { cls := .type "builtin_function_or_method", data := .fields #[.builtin "_sre.SRE_Scanner.search", .ref a] }, g, d, t, os⟩) :
    codeAny (model prog w) A (.call (.builtin "method_descriptor.__get__") ⟨[.builtin "_sre.SRE_Scanner.search", .ref a, .type "_sre.SRE_Scanner"], []⟩) R ⟨h, g, d, t, os⟩ := by
  have hT : (⟨h, g, d, t, os⟩ : Shared).TypeIs (.ref a) "_sre.SRE_Scanner" := ⟨_, hx, hc⟩
  have hT5 : (⟨h, g, d, t, os⟩ : Shared).TypeIs (.builtin "_sre.SRE_Scanner.search") "method_descriptor" := type_scan_search
  have f8 := sub_scan_owner
  have f9 := isType_scan
  refine codeAny_call_builtin slot_md_get.plain entry_md_get (slot_md_get.check _ _ _ _ _ _ _ _ hT5 (args_md_get _ _ _) ?_)
  unfold Builtin.«method_descriptor.__get__»
  repeat (any_goals (first | assumption | wp_step))

theorem search_entry {vs : Array Value} {tk : Tok} {Q : Fin → Shared → Prop} (hx : h.get? a = some { cls := .type "_sre.SRE_Scanner", data := .fields vs })
    (hq : Q (.done (.ret (.ref h.objs.size))) ⟨h.push { cls := .type "builtin_function_or_method", data := .fields #[.builtin "_sre.SRE_Scanner.search", .ref a] }, g, d, t, os⟩) :
    wpAny (model prog w) A (Builtin.«object.__getattribute__» ⟨[.ref a, .str "search" tk], []⟩) Q E ⟨h, g, d, t, os⟩ := by
  have hT : (⟨h, g, d, t, os⟩ : Shared).TypeIs (.ref a) "_sre.SRE_Scanner" := ⟨_, hx, rfl⟩
  have hT5 : (⟨h, g, d, t, os⟩ : Shared).TypeIs (.builtin "_sre.SRE_Scanner.search") "method_descriptor" := type_scan_search
  have f4 := slot_scan_search.lookup
  have f5 := type_scan_search
  have f6 := lk_md_get
  have f7 := lk_md_set
  have f8 := lk_md_del
  repeat (any_goals (first | assumption | wp_step))
  exact search_get hx rfl (wpAny_pure hq)

theorem search_attr {vs : Array Value} {Q : Value → Shared → Prop} (hx : h.get? a = some { cls := .type "_sre.SRE_Scanner", data := .fields vs })
    (hq : Q (.ref h.objs.size) ⟨h.push { cls := .type "builtin_function_or_method", data := .fields #[.builtin "_sre.SRE_Scanner.search", .ref a] }, g, d, t + 1, os⟩) :
    wpAny (model prog w) A (getAttr (.ref a) "search") Q E ⟨h, g, d, t, os⟩ := by
  have hT : (⟨h, g, d, t, os⟩ : Shared).TypeIs (.ref a) "_sre.SRE_Scanner" := ⟨_, hx, rfl⟩
  have hT' : (⟨h, g, d, t + 1, os⟩ : Shared).TypeIs (.ref a) "_sre.SRE_Scanner" := ⟨_, hx, rfl⟩
  have f2 := slot_scan_ga.lookup
  have f3 := slot_scan_ga.bind (.ref a)
  unfold getAttr getAttrBy
  repeat (any_goals (first | assumption | wp_step))
  refine codeAny_call_builtin slot_scan_ga.plain entry_ga (slot_scan_ga.check _ _ _ _ _ _ _ _ hT' (args_ga _ _) (search_entry hx ?_))
  exact wpAny_pure hq
end
end Mine

end
section
open PySem PySem.W PySem.Calls PyProof.Rows
set_option Elab.async false
set_option maxRecDepth 100000
namespace Mine
open PySem.Builtin.Re
open Sem (wp)

section
variable {prog : Program} {w : World} {A : Around} {E : Value → Shared → Prop} {s : Shared}
theorem noColl {stop : String} {Q : Unit → Shared → Prop} (h : Q () s) : wpAny (Mg prog w) A (noCollectionInside stop) Q E s := by
  unfold noCollectionInside
  refine wpAny_bind (wpAny_runValue (codeAny_of_tree ?_))
  show wpAny (Mg prog w) _ (denG (.builtin "gc.ask" ⟨[rawInt 13], []⟩)) _ _ s
  rw [show denG (.builtin "gc.ask" ⟨[rawInt 13], []⟩) = ret (.bool false) from rfl]
  exact wpAny_pure (wpAny_pure h)

theorem code_back : ((theCode.map fun w => (rawInt (w : Nat) : Value)).map reRawOf).map (·.toNat) = theCode := by decide +kernel

structure PatAt (h : Heap) (pat ct : Addr) : Prop where
  obj : ∃ p0 p1 p3 p4, h.get? pat = some { cls := .type "re.Pattern", data := .fields #[p0, p1, rawInt 3, p3, p4, .ref ct, rawInt 0] }
  code : ∃ n, h.get? ct = some { cls := .type "tuple", data := .seq (theCode.map fun w => (rawInt (w : Nat) : Value)) n }

theorem target_ok {pat ct : Addr} {l : List Nat} {tk : Tok} {Q : ReTarget → Shared → Prop} (hp : PatAt s.heap pat ct)
    (h : Q { pattern := .ref pat, string := .str ⟨l.toArray⟩ tk, code := theCode, text := l.toArray, kind := 0, groups := 3, pos := 0, lim := l.toArray.size } s) :
    wpAny (model prog w) A (reWholeTarget (.ref pat) (.str ⟨l.toArray⟩ tk)) Q E s := by
  obtain ⟨p0, p1, p3, p4, ho⟩ := hp.obj
  obtain ⟨n, hc⟩ := hp.code
  obtain ⟨h, g, d, t, os⟩ := s
  unfold reWholeTarget
  repeat (any_goals (first | assumption | wp_step))
  simp only [Option.getD_some, code_back]
  exact h

noncomputable abbrev scanObj (pat : Addr) (l : List Nat) (tk : Tok) (st : Int) : Obj := { cls := .type "_sre.SRE_Scanner", data := .fields #[.ref pat, .str ⟨l.toArray⟩ tk, rawInt st, rawInt 0, rawInt (l.length : Nat), .bool false] }

noncomputable def spansOf (m : Sre.M) : List Value := (List.range 3).flatMap (fun g =>
    match if ((2 * g + 1 : Nat) : Int) ≤ m.lastmark then (m.marks.getD (2 * g) none, m.marks.getD (2 * g + 1) none) else (none, none) with
    | (some b, some e) => [rawInt (b : Nat), rawInt (e : Nat)]
    | _ => [rawInt (-1), rawInt (-1)])
noncomputable def badAt (m : Sre.M) (g : Nat) : Bool := match m.marks.getD (2 * g) none, m.marks.getD (2 * g + 1) none with | some b, some e => ((2 * g + 1 : Nat) : Int) ≤ m.lastmark && e < b | _, _ => false
noncomputable def badSpan (m : Sre.M) : Bool := (List.range 3).any (badAt m)
theorem reNewMatch_eq (p st : Value) (pos lim : Nat) (m : Sre.M) : reNewMatch p st 3 pos lim m = (do
    if badSpan m then reWrongSpan
    newFields "re.Match" [st, p, rawInt pos, rawInt lim, rawInt m.lastindex, ← newTuple (rawInt m.start :: rawInt m.handed :: spansOf m)]) := rfl

theorem spans_ok {m : Sre.M} {b e g : Nat} (h : MarksOk m.marks m.lastmark b e g) : spansOf m = (List.range 3).flatMap fun k => if k + 1 = g then [rawInt (b : Nat), rawInt (e : Nat)] else [rawInt (-1), rawInt (-1)] := by
  unfold spansOf
  rcases h with ⟨rfl, hl, h0, h1⟩ | ⟨rfl, hl, h0, h1, h2, h3⟩ | ⟨rfl, hl, h0, h1, h2, h3, h4, h5⟩
  · simp only [Array.getD_eq_getD_getElem?] at h0 h1
    simp [List.range_succ, hl, h0, h1]
  · simp only [Array.getD_eq_getD_getElem?] at h0 h1 h2 h3
    simp [List.range_succ, hl, h0, h1, h2, h3]
  · simp only [Array.getD_eq_getD_getElem?] at h0 h1 h2 h3 h4 h5
    simp [List.range_succ, hl, h0, h1, h2, h3, h4, h5]
theorem spans_any {m : Sre.M} {b e g : Nat} (h : MarksOk m.marks m.lastmark b e g) (hbe : b ≤ e) : badSpan m = false := by
  have far : ∀ k, ¬ (((2 * k + 1 : Nat) : Int) ≤ m.lastmark) → badAt m k = false := fun k hk => by
    unfold badAt
    split
    · rw [decide_eq_false hk]; rfl
    · rfl
  have near : ∀ k, m.marks.getD (2 * k) none = none → badAt m k = false := fun k hk => by
    unfold badAt
    rw [hk]
  have here : ∀ k, m.marks.getD (2 * k) none = some b → m.marks.getD (2 * k + 1) none = some e → badAt m k = false := fun k h1 h2 => by
    unfold badAt
    rw [h1, h2]
    show (decide _ && decide (e < b)) = false
    rw [show decide (e < b) = false from decide_eq_false (by omega), Bool.and_false]
  show ([0, 1, 2] : List Nat).any (badAt m) = false
  simp only [List.any_cons, List.any_nil, Bool.or_false, Bool.or_eq_false_iff]
  rcases h with ⟨rfl, hl, h0, h1⟩ | ⟨rfl, hl, h0, h1, h2, h3⟩ | ⟨rfl, hl, h0, h1, h2, h3, h4, h5⟩
  · exact ⟨here 0 h0 h1, far 1 (by rw [hl]; decide), far 2 (by rw [hl]; decide)⟩
  · exact ⟨near 0 h0, here 1 h2 h3, far 2 (by rw [hl]; decide)⟩
  · exact ⟨near 0 h0, near 1 h2, here 2 h4 h5⟩

theorem newMatch_ok {M : Model} {pat : Addr} {l : List Nat} {tk : Tok} {m : Sre.M} {b e g : Nat} {Q : Value → Shared → Prop} (hs : m.start = b) (he : m.handed = e) (hi : m.lastindex = (g : Int)) (hm : MarksOk m.marks m.lastmark b e g) (hbe : b ≤ e)
    (h : Q (.ref (s.heap.objs.size + 1)) { s with heap := (s.heap.push { cls := .type "tuple", data := .seq (matSpans b e g).toArray }).push { cls := .type "re.Match", data := .fields #[.str ⟨l.toArray⟩ tk, .ref pat, rawInt 0, rawInt (l.length : Nat), rawInt g, .ref s.heap.objs.size] } }) :
    wpAny M A (reNewMatch (.ref pat) (.str ⟨l.toArray⟩ tk) 3 0 l.length m) Q E s := by
  rw [reNewMatch_eq, spans_ok hm, spans_any hm hbe, hs, he, hi]
  simp only [Bool.false_eq_true, if_false]
  have hsz := szl
  have hlen : (matSpans b e g).length ≤ sizeLine := by
    have : (matSpans b e g).length = 8 := by unfold matSpans; simp [List.range_succ]; split <;> split <;> split <;> rfl
    omega
  refine wpAny_bind (wpAny_newTuple (items := matSpans b e g) ?_ hlen)
  refine wpAny_newObj_type ?_ (by size_fits)
  rw [Heap.size_push]
  exact h

theorem findM_le : ∀ (r : List Nat) (s : Nat) {b e g : Nat}, findM s r = some (b, e, g) → s ≤ b ∧ b < e ∧ e ≤ s + r.length ∧ 1 ≤ g ∧ g ≤ 3
  | [], s, b, e, g, h => by simp [findM] at h
  | c :: r, s, b, e, g, h => by
    rw [findM] at h
    have hc : ∀ (r : List Nat) (k : Nat), closeAt r = some k → k < r.length := fun r => by
      induction r with
      | nil => intro k h; simp [closeAt] at h
      | cons x r ih =>
        intro k h
        rw [closeAt] at h
        split at h
        · cases h; simp
        · split at h
          · cases h
          · rw [Option.map_eq_some_iff] at h
            obtain ⟨k', h1, h2⟩ := h
            have := ih k' h1
            simp; omega
    split at h
    · cases h
      have := (List.takeWhile_sublist (l := r) (fun x => x != 91)).length_le
      simp; omega
    · split at h
      · rename_i k hk
        cases h
        have := hc r k hk
        simp; omega
      · split at h
        · have := findM_le r (s + 1) h
          simp; omega
        · cases h
          simp; omega

/-- a scanner's step -/
theorem scan_ok {pat ct sc : Addr} {l : List Nat} {tk : Tok} {st : Nat} {Q : Fin → Shared → Prop} (hp : PatAt s.heap pat ct) (ho : s.heap.get? sc = some (scanObj pat l tk (st : Nat))) (hst : st ≤ l.length) (hn : l.length ≤ 16777216)
    (hsome : ∀ b e g h', findM st (l.drop st) = some (b, e, g) → h'.get? sc = some (scanObj pat l tk (e : Nat)) → Heap.SameBut sc s.heap h' →
      Q (.done (.ret (.ref (h'.objs.size + 1)))) { s with heap := (h'.push { cls := .type "tuple", data := .seq (matSpans b e g).toArray }).push { cls := .type "re.Match", data := .fields #[.str ⟨l.toArray⟩ tk, .ref pat, rawInt 0, rawInt (l.length : Nat), rawInt g, .ref h'.objs.size] } })
    (hnone : ∀ h', findM st (l.drop st) = none → h'.get? sc = some (scanObj pat l tk (-1)) → Heap.SameBut sc s.heap h' → Q (.done (.ret .none)) { s with heap := h' }) :
    wpAny (Mg prog w) A (Builtin.«_sre.SRE_Scanner.search» ⟨[.ref sc], []⟩) Q E s := by
  unfold Builtin.«_sre.SRE_Scanner.search» reScan
  show wpAny _ _ (fieldsOf (.ref sc) >>= _) _ _ s
  refine wpAny_bind (wpAny_fieldsOf ho rfl ?_)
  show wpAny _ _ (if ((st : Nat) : Int) < 0 then _ else _) _ _ s
  rw [if_neg (by omega)]
  refine wpAny_bind (noColl (wpAny_bind (any_mono_model (target_ok hp ?_))))
  show wpAny _ _ (reRunToEnd (Sre.forSearch theCode l.toArray 3 st l.length false) >>= _) _ _ s
  refine wpAny_bind (wpAny_mono (search_run hn hst) (fun x s' ⟨es, hx⟩ => ?_) fun _ _ h => h)
  subst es
  generalize hf : findM st (l.drop st) = ff at hx
  cases ff with
  | none =>
    have hx' : x = none := hx
    subst hx'
    refine wpAny_bind (wpAny_setField ho rfl (by simp) (wpAny_pure (hnone _ hf ?_ (Heap.SameBut.update ..))))
    exact Heap.get?_update_self _ ho rfl
  | some y =>
    obtain ⟨b, e, g⟩ := y
    obtain ⟨m, rfl, hs, he, hi, hm⟩ := hx
    obtain ⟨hb1, hb2, hb3, hg1, hg2⟩ := findM_le _ _ hf
    simp only
    refine wpAny_bind (wpAny_setField ho rfl (by simp) ?_)
    rw [he]
    have ho1 : (s'.heap.update sc (Obj.mapFields (·.setIfInBounds 2 (rawInt (e : Nat))))).get? sc = some (scanObj pat l tk (e : Nat)) := Heap.get?_update_self _ ho rfl
    refine wpAny_bind (wpAny_setField ho1 rfl (by simp) ?_)
    rw [hs, show (e == b) = false from by rw [beq_eq_false_iff_ne]; omega]
    have ho2 : ((s'.heap.update sc (Obj.mapFields (·.setIfInBounds 2 (rawInt (e : Nat))))).update sc (Obj.mapFields (·.setIfInBounds 5 (.bool false)))).get? sc = some (scanObj pat l tk (e : Nat)) := Heap.get?_update_self _ ho1 rfl
    show wpAny _ _ (reNewMatch (.ref pat) (.str ⟨l.toArray⟩ tk) 3 0 l.length m >>= _) _ _ _
    refine wpAny_bind (newMatch_ok hs he hi hm (Nat.le_of_lt hb2) (wpAny_pure ?_))
    exact hsome b e g _ hf ho2 ((Heap.SameBut.update ..).trans (Heap.SameBut.update ..))
end
end Mine

end
section
open PySem PySem.W PySem.Calls PyProof.Rows
set_option Elab.async false
set_option maxRecDepth 100000
namespace Mine
open PySem.Builtin.Re
open Sem (wp)

theorem kind_search : builtinKind "_sre.SRE_Scanner.search" = some .method := by decide +kernel
theorem sub_scan_mod : isSubtype (.type "_sre.SRE_Scanner") (.type "module") = pure false := by rw [isSubtype_type]; kernel_rfl
theorem sig_search : Manifest.signature? "_sre.SRE_Scanner.search" = some ⟨.nothing, "SRE_Scanner.search", "search", .self, []⟩ := by kernel_rfl
theorem vararg_search : Manifest.varargsMethods.contains "_sre.SRE_Scanner.search" = false := by decide +kernel
section
variable {prog : Program} {w : World} {A : Around} {E : Value → Shared → Prop} {s : Shared}
theorem bound_check {M : Model} {sc : Addr} {vs : Array Value} {Q : Unit → Shared → Prop} (ho : s.heap.get? sc = some { cls := .type "_sre.SRE_Scanner", data := .fields vs }) (h : Q () s) :
    wpAny M A (checkBoundCall "_sre.SRE_Scanner.search" ⟨[.ref sc], []⟩) Q E s := by
  have hT : s.TypeIs (.ref sc) "_sre.SRE_Scanner" := ⟨_, ho, rfl⟩
  unfold checkBoundCall
  rw [sig_search, kind_search]
  show wpAny _ _ (isInstance (.ref sc) (.type "module") >>= _) _ _ _
  refine wpAny_bind (wpAny_isInstance hT sub_scan_mod ?_)
  rw [vararg_search]
  simp only [Bool.or_false, Bool.false_eq_true, if_false]
  show wpAny _ _ (isType (.ref sc) >>= _) _ _ _
  refine wpAny_bind ?_
  show wpAny _ _ (loadHead sc >>= _) _ _ _
  refine wpAny_bind (wpAny_loadPart ho ?_)
  refine wpAny_pure ?_
  simp only [Bool.false_eq_true, if_false]
  refine wpAny_bind (wpAny_typeOf hT ?_)
  exact wpAny_of_eq (a := ()) (by rfl) h

theorem bound_call {sc bm : Addr} {vs : Array Value} {R : Result → Shared → Prop} (hb : s.heap.get? bm = some { cls := .type "builtin_function_or_method", data := .fields #[.builtin "_sre.SRE_Scanner.search", .ref sc] })
    (ho : s.heap.get? sc = some { cls := .type "_sre.SRE_Scanner", data := .fields vs })
    (h : wpAny (Mg prog w) (A.under (.builtin "_sre.SRE_Scanner.search" ⟨[.ref sc], []⟩)) (Builtin.«_sre.SRE_Scanner.search» ⟨[.ref sc], []⟩) (fun fin s' => match fin with | .done f => R (.ok f) s' | .again c' => c'.quiet = true ∧ codeAny (Mg prog w) A c' R s') (fun e s' => R (.error e) s') s) :
    codeAny (Mg prog w) A (.call (.ref bm) ⟨[], []⟩) R s := by
  refine codeAny_of_tree ?_
  show wpAny _ _ (denG (.call (.ref bm) ⟨[], []⟩)) _ _ _
  rw [denG_of_not rfl]
  show wpAny _ _ (load bm >>= _) _ _ _
  refine wpAny_bind (wpAny_load hb ?_)
  show wpAny _ _ (checkBoundCall "_sre.SRE_Scanner.search" ⟨[.ref sc], []⟩ >>= _) _ _ _
  refine wpAny_bind (bound_check ho ?_)
  refine wpAny_bind (wpAny_pure (wpAny_pure ⟨plainId_quiet (by decide +kernel) _, codeAny_of_tree ?_⟩))
  show wpAny _ _ (denG (.builtin "_sre.SRE_Scanner.search" ⟨[.ref sc], []⟩)) _ _ _
  rw [denG_of_not rfl, den_builtin, entry_scan_search]
  exact h
end
end Mine

end
section
open PySem PySem.W PySem.Calls PyProof.Rows
set_option Elab.async false
set_option maxRecDepth 100000
namespace Mine
open PySem.Builtin.Re
open Sem (wp)

theorem sub_mat_none : isSubtype (.type "re.Match") (.type "NoneType") = pure false := by rw [isSubtype_type]; kernel_rfl
theorem slot_mat_eq : PySem.Slot "re.Match" (cmpInfo .Eq).2.2 "object.__eq__" :=
  .of (owner := "object") (n := "__eq__") (by rw [typeLookup_type, builtinLookup_eq_fast]; kernel_rfl) (by decide +kernel) (by decide +kernel) (by decide +kernel)
    (by first | exact .inl (by decide +kernel) | exact .inr (by decide +kernel)) (by rw [isSubtype_type]; kernel_rfl)
theorem entry_obj_eq : entryFor table "object.__eq__" = some Builtin.«object.__eq__» := entryFor_of_tree (by kernel_rfl)
theorem args_obj_eq (a b : Value) : argsOk "object.__eq__" ⟨[a, b], []⟩ := by unfold argsOk; kernel_rfl

section
variable {prog : Program} {w : World} {A : Around} {E : Value → Shared → Prop} {s : Shared}
theorem none_eq {m : Addr} {o : Obj} {Q : Bool → Shared → Prop} (hu : A.units < cLine) (ho : s.heap.get? m = some o) (hc : o.cls = .type "re.Match") (h : Q false s) : wpAny (model prog w) A (eqBool .none (.ref m)) Q E s := by
  have hT : s.TypeIs (.ref m) "re.Match" := ⟨o, ho, hc⟩
  have hN : s.TypeIs .none "NoneType" := rfl
  unfold eqBool
  refine wpAny_holding ?_
  show wpAny _ _ (if (Value.none == Value.ref m) = true then _ else _) _ _ _
  rw [if_neg (show ¬ ((Value.none == Value.ref m) = true) from Bool.false_ne_true)]
  show wpAny _ _ (richCompare .Eq .none (.ref m) >>= truthOfDropped) _ _ _
  refine wpAny_bind ?_
  unfold richCompare
  refine wpAny_holding (wpAny_bind (wpAny_cRoomFor hu ?_))
  show wpAny _ _ (typeOf .none >>= _) _ _ _
  refine wpAny_bind (wpAny_typeOf hN (wpAny_bind (wpAny_typeOf hT ?_)))
  show wpAny _ _ (isSubtype (.type "re.Match") (.type "NoneType") >>= _) _ _ _
  refine wpAny_bind (wpAny_of_eq sub_mat_none ?_)
  simp only [Bool.false_eq_true, if_false]
  show wpAny _ _ (tryCompare .none (cmpInfo .Eq).2.1 (.ref m) >>= _) _ _ _
  have t1 : ∀ {Q : Option Value → Shared → Prop}, Q none s → wpAny (model prog w) A (tryCompare .none (cmpInfo .Eq).2.1 (.ref m)) Q E s := fun hq => by
    unfold tryCompare
    refine wpAny_bind (wpAny_callSpecialIfBound?_slot hN F.slot_NoneType_eq (wpAny_call_entry F.slot_NoneType_eq hN F.entry_NoneType_eq ?_ (F.args_NoneType_eq_2 _ _)))
    exact wpAny_pure ⟨_, rfl, wpAny_pure hq⟩
  have t2 : ∀ {Q : Option Value → Shared → Prop}, Q none s → wpAny (model prog w) A (tryCompare (.ref m) (cmpInfo .Eq).2.2 .none) Q E s := fun hq => by
    unfold tryCompare
    refine wpAny_bind (wpAny_callSpecialIfBound?_slot hT slot_mat_eq (wpAny_call_entry slot_mat_eq hT entry_obj_eq ?_ (args_obj_eq _ _)))
    exact wpAny_pure ⟨_, rfl, wpAny_pure hq⟩
  refine wpAny_bind (t1 ?_)
  simp only [Bool.not_false, if_true]
  refine wpAny_bind (t2 ?_)
  exact wpAny_bind (wpAny_rule (wpAny_bind (wpAny_pure (wpAny_pure (wpAny_pure h)))))
end

/-! runs that may raise, in contexts whose callers run no callable iterator -/
noncomputable def W1 {α : Type} (prog : Program) (w : World) (A : Around) (t : Sem α) (Q : α → Shared → Prop) (E : Value → Shared → Prop) (s : Shared) : Prop :=
  ∀ Γ p, Γ.In A → CleanB Γ → Sem.wp (Mg prog w) Γ t (fun a _ s' => Q a s') (fun e _ s' => E e s') p s
noncomputable def C1 (prog : Program) (w : World) (A : Around) (c : Code) (R : Result → Shared → Prop) (s : Shared) : Prop :=
  ∀ Γ p, Γ.code = c → Γ.Below A → CleanB Γ → wpCode (Mg prog w) Γ R p s
section
variable {α β : Type} {prog : Program} {w : World} {A : Around} {E : Value → Shared → Prop} {s : Shared}
theorem W1.of_any {t : Sem α} {Q : α → Shared → Prop} (h : wpAny (Mg prog w) A t Q E s) : W1 prog w A t Q E s := fun Γ p hΓ _ => h Γ p hΓ
theorem W1.mono {t : Sem α} {Q Q' : α → Shared → Prop} {E' : Value → Shared → Prop} (h : W1 prog w A t Q E s) (hQ : ∀ a s', Q a s' → Q' a s') (hE : ∀ a s', E a s' → E' a s') : W1 prog w A t Q' E' s :=
  fun Γ p hΓ hc => Sem.wp_mono _ Γ t (fun a _ s => hQ a s) (fun e _ s => hE e s) p s (h Γ p hΓ hc)
theorem W1.bind {m : Sem α} {f : α → Sem β} {Q : β → Shared → Prop} (h : W1 prog w A m (fun a s' => W1 prog w A (f a) Q E s') E s) : W1 prog w A (m >>= f) Q E s := fun Γ p hΓ hc => by
  rw [Sem.wp_bind']
  exact Sem.wp_mono _ Γ m (fun a p' s' h' => h' Γ p' hΓ hc) (fun _ _ _ h' => h') p s (h Γ p hΓ hc)
theorem W1.attempt {m : Sem α} {Q : Except Value α → Shared → Prop} (h : W1 prog w A m (fun a => Q (.ok a)) (fun e => Q (.error e)) s) : W1 prog w A m.attempt Q E s := fun Γ p hΓ hc => by
  rw [Sem.wp_attempt]
  exact h Γ p hΓ hc
theorem W1.holding {vs : List Value} {m : Sem α} {Q : α → Shared → Prop} (h : W1 prog w A m Q E s) : W1 prog w A (PySem.holding vs m) Q E s :=
  fun Γ p hΓ hc => by rw [Sem.wp_holding]; exact h Γ p hΓ hc
theorem W1.pure {a : α} {Q : α → Shared → Prop} (h : Q a s) : W1 prog w A (Pure.pure a) Q E s := fun _ _ _ _ => h
theorem W1.stack {Q : List (Code × Pos) → Shared → Prop} (h : ∀ c p below, (∀ x ∈ below, notCI x.1 = true) → Q ((c, p) :: below) s) : W1 prog w A PySem.stack Q E s := fun Γ p _ hc => by
  show Q ((Γ.code, p) :: Γ.below) s
  exact h _ _ _ hc
theorem C1.of_tree {c : Code} {R : Result → Shared → Prop} (hask : isAsk c = false)
    (h : W1 prog w (A.under c) (denote table c) (fun fin s' => match fin with | .done f => R (.ok f) s' | .again c' => c'.quiet = true ∧ C1 prog w A c' R s') (fun e s' => R (.error e) s') s) : C1 prog w A c R s := fun Γ p hc hΓ hb => by
  rw [wpCode_iff_wp, hc]
  show Sem.wp (Mg prog w) Γ (denG c) _ _ p s
  rw [denG_of_not hask]
  refine Sem.wp_mono _ Γ _ (fun fin p' s' h' => ?_) (fun _ _ _ h' => h') p s (h Γ p (hc ▸ hΓ.in) hb)
  cases fin with
  | done f => exact h'
  | again c' => exact ⟨h'.1, h'.2 (Γ.goto c') p' rfl (hΓ.goto c') hb⟩

end
end Mine

end
section
open PySem PySem.W PySem.Calls PyProof.Rows
set_option Elab.async false
set_option maxRecDepth 100000
namespace Mine
open PySem.Builtin.Re
open Sem (wp)

noncomputable def WE {α : Type} (prog : Program) (w : World) (A : Around) (t : Sem α) (Q : α → Shared → Prop) (E : Value → Shared → Prop) (s : Shared) : Prop :=
  ∀ Γ p, Γ.In A → Clean Γ → Sem.wp (Mg prog w) Γ t (fun a _ s' => Q a s') (fun e _ s' => E e s') p s
section
variable {α β : Type} {prog : Program} {w : World} {A : Around} {E : Value → Shared → Prop} {s : Shared}
theorem WE.of_any {t : Sem α} {Q : α → Shared → Prop} (h : wpAny (Mg prog w) A t Q E s) : WE prog w A t Q E s := fun Γ p hΓ _ => h Γ p hΓ
theorem WE.bind {m : Sem α} {f : α → Sem β} {Q : β → Shared → Prop} (h : WE prog w A m (fun a s' => WE prog w A (f a) Q E s') E s) : WE prog w A (m >>= f) Q E s := fun Γ p hΓ hc => by
  rw [Sem.wp_bind']
  exact Sem.wp_mono _ Γ m (fun a p' s' h' => h' Γ p' hΓ hc) (fun _ _ _ h' => h') p s (h Γ p hΓ hc)
theorem WE.holding {vs : List Value} {m : Sem α} {Q : α → Shared → Prop} (h : WE prog w A m Q E s) : WE prog w A (PySem.holding vs m) Q E s :=
  fun Γ p hΓ hc => by rw [Sem.wp_holding]; exact h Γ p hΓ hc
theorem WE.pure {a : α} {Q : α → Shared → Prop} (h : Q a s) : WE prog w A (Pure.pure a) Q E s := fun _ _ _ _ => h
theorem WE.call {f : Value} {pos : List Value} {Q : Value → Shared → Prop} (hc : C1 prog w A (.call f ⟨pos, []⟩) (fun r s' => match r with | .ok (.ret v) => Q v s' | .ok _ => False | .error e => E e s') s) :
    WE prog w A (PySem.call f pos) Q E s := fun Γ p hΓ hcl => by
  unfold PySem.call
  rw [Sem.wp_runValue]
  exact hc _ p rfl (by have := hΓ.enter (.call f ⟨pos, []⟩) none p (by intro x; cases x); exact this) (clean_enter hcl _ none p)
theorem W.attemptE {m : Sem α} {Q : Except Value α → Shared → Prop} (h : WE prog w A m (fun a => Q (.ok a)) (fun e => Q (.error e)) s) : W prog w A m.attempt Q s := fun _ Γ p hΓ hcl => by
  rw [Sem.wp_attempt]; exact h Γ p hΓ hcl
theorem WE.mono {t : Sem α} {Q Q' : α → Shared → Prop} (h : WE prog w A t Q E s) (hQ : ∀ a s', Q a s' → Q' a s') : WE prog w A t Q' E s :=
  fun Γ p hΓ hc => Sem.wp_mono _ Γ t (fun a _ s => hQ a s) (fun _ _ _ h => h) p s (h Γ p hΓ hc)
end

theorem slot_ci_next : PySem.Slot "callable_iterator" "__next__" "callable_iterator.__next__" :=
  .of (owner := "callable_iterator") (n := "__next__") (by rw [typeLookup_type, builtinLookup_eq_fast]; kernel_rfl) (by decide +kernel) (by decide +kernel) (by decide +kernel)
    (by first | exact .inl (by decide +kernel) | exact .inr (by decide +kernel)) (by rw [isSubtype_type]; kernel_rfl)
theorem entry_ci_next : entryFor table "callable_iterator.__next__" = some Builtin.«callable_iterator.__next__» := entryFor_of_tree (by kernel_rfl)
theorem args_ci_next (a : Value) : argsOk "callable_iterator.__next__" ⟨[a], []⟩ := by unfold argsOk; kernel_rfl

structure CIAt (h : Heap) (ci bm sc pat ct : Addr) (l : List Nat) (tk : Tok) (st : Int) : Prop where
  oci : h.get? ci = some { cls := .type "callable_iterator", data := .fields #[.ref bm, .none, .bool false] }
  obm : h.get? bm = some { cls := .type "builtin_function_or_method", data := .fields #[.builtin "_sre.SRE_Scanner.search", .ref sc] }
  osc : h.get? sc = some (scanObj pat l tk st)
  opat : PatAt h pat ct
  ne : ci ≠ sc ∧ bm ≠ sc ∧ pat ≠ sc ∧ ct ≠ sc

theorem PatAt.at {h h' : Heap} {pat ct : Addr} (x : PatAt h pat ct) (h1 : ∀ o, h.get? pat = some o → h'.get? pat = some o) (h2 : ∀ o, h.get? ct = some o → h'.get? ct = some o) : PatAt h' pat ct :=
  let ⟨p0, p1, p3, p4, e⟩ := x.obj
  let ⟨n, e'⟩ := x.code
  ⟨⟨p0, p1, p3, p4, h1 _ e⟩, ⟨n, h2 _ e'⟩⟩
theorem CIAt.next {h h' : Heap} {ci bm sc pat ct : Addr} {l : List Nat} {tk : Tok} {st st' : Int} (x : CIAt h ci bm sc pat ct l tk st) (hs : Heap.SameBut sc h h') (ho : h'.get? sc = some (scanObj pat l tk st')) : CIAt h' ci bm sc pat ct l tk st' :=
  ⟨hs.extBut _ _ x.ne.1 x.oci, hs.extBut _ _ x.ne.2.1 x.obm, ho, x.opat.at (fun o e => hs.extBut _ _ x.ne.2.2.1 e) (fun o e => hs.extBut _ _ x.ne.2.2.2 e), x.ne⟩
section
variable {prog : Program} {w : World} {A : Around} {E : Value → Shared → Prop} {s : Shared}
theorem borrows_no {bm sc : Addr} {Q : Bool → Shared → Prop} {M : Model} (hb : s.heap.get? bm = some { cls := .type "builtin_function_or_method", data := .fields #[.builtin "_sre.SRE_Scanner.search", .ref sc] }) (h : Q false s) : wpAny M A (borrowsExactly (.ref bm)) Q E s := by
  unfold borrowsExactly
  show wpAny _ _ (load bm >>= _) _ _ _
  refine wpAny_bind (wpAny_load hb ?_)
  exact wpAny_pure h

/-- the iterator's call of its scanner -/
theorem slot_call {ci bm sc pat ct : Addr} {l : List Nat} {tk : Tok} {st : Nat} {Q : Value → Shared → Prop} (I : CIAt s.heap ci bm sc pat ct l tk (st : Nat)) (hst : st ≤ l.length) (hn : l.length ≤ 16777216)
    (hsome : ∀ b e g h', findM st (l.drop st) = some (b, e, g) → h'.get? sc = some (scanObj pat l tk (e : Nat)) → Heap.SameBut sc s.heap h' →
      Q (.ref (h'.objs.size + 1)) { s with heap := (h'.push { cls := .type "tuple", data := .seq (matSpans b e g).toArray }).push { cls := .type "re.Match", data := .fields #[.str ⟨l.toArray⟩ tk, .ref pat, rawInt 0, rawInt (l.length : Nat), rawInt g, .ref h'.objs.size] } })
    (hnone : ∀ h', findM st (l.drop st) = none → h'.get? sc = some (scanObj pat l tk (-1)) → Heap.SameBut sc s.heap h' → Q .none { s with heap := h' }) :
    wpAny (Mg prog w) A (callOutOfASlot (.ref bm)) Q E s := by
  unfold callOutOfASlot
  refine wpAny_bind (borrows_no I.obm ?_)
  simp only [Bool.false_eq_true, if_false]
  exact wpAny_call (bound_call I.obm I.osc (scan_ok I.opat I.osc hst hn (fun b e g h' h1 h2 h3 => hsome b e g h' h1 h2 h3) (fun h' h1 h2 h3 => hnone h' h1 h2 h3)))

theorem ci_item {ci bm sc pat ct : Addr} {l : List Nat} {tk : Tok} {st b e g : Nat} {Q : Option Value → Shared → Prop} (hu : A.units + 100 < cLine) (I : CIAt s.heap ci bm sc pat ct l tk (st : Nat)) (hst : st ≤ l.length) (hn : l.length ≤ 16777216) (hf : findM st (l.drop st) = some (b, e, g))
    (hQ : ∀ h', CIAt h' ci bm sc pat ct l tk (e : Nat) → Heap.SameBut sc s.heap h' → 
      Q (some (.ref (h'.objs.size + 1))) { s with heap := (h'.push { cls := .type "tuple", data := .seq (matSpans b e g).toArray }).push { cls := .type "re.Match", data := .fields #[.str ⟨l.toArray⟩ tk, .ref pat, rawInt 0, rawInt (l.length : Nat), rawInt g, .ref h'.objs.size] } }) :
    W prog w A (pyNext (.ref ci)) Q s := by
  have hT : s.TypeIs (.ref ci) "callable_iterator" := ⟨_, I.oci, rfl⟩
  unfold pyNext
  refine W.bind (W.attemptE ?_)
  simp only [callSpecial?]
  refine WE.bind (WE.of_any (wpAny_specialOf hT slot_ci_next.lookup ?_))
  simp only [slot_ci_next.bind]
  refine WE.holding (WE.bind (WE.pure (WE.bind (WE.call ?_))))
  refine C1.of_tree rfl (W1.bind (W1.of_any (slot_ci_next.check _ _ _ _ _ _ _ _ hT (args_ci_next _) ?_)))
  refine W1.pure ⟨plainId_quiet slot_ci_next.plain _, C1.of_tree rfl ?_⟩
  rw [den_builtin, entry_ci_next]
  show W1 _ _ _ (field (.ref ci) 2 >>= _) _ _ _
  refine W1.bind (W1.of_any (wpAny_field I.oci rfl (x := .bool false) rfl ?_))
  show W1 _ _ _ (if (Value.bool false == Value.bool true) = true then _ else _) _ _ _
  rw [if_neg (show ¬ ((Value.bool false == Value.bool true) = true) by decide)]
  show W1 _ _ _ (field (.ref ci) 0 >>= _) _ _ _
  refine W1.bind (W1.of_any (wpAny_field I.oci rfl (x := .ref bm) rfl ?_))
  refine W1.bind (W1.attempt (W1.of_any (slot_call I hst hn ?_ fun h' h1 => by rw [hf] at h1; cases h1)))
  intro b' e' g' h' h1 h2 h3
  rw [hf] at h1
  cases h1
  have I' := I.next h3 h2
  generalize hH : (h'.push { cls := .type "tuple", data := .seq (matSpans b e g).toArray }).push { cls := .type "re.Match", data := .fields #[.str ⟨l.toArray⟩ tk, .ref pat, rawInt 0, rawInt (l.length : Nat), rawInt g, .ref h'.objs.size] } = H
  have hci : ({ s with heap := H } : Shared).heap.get? ci = some { cls := .type "callable_iterator", data := .fields #[.ref bm, .none, .bool false] } := by
    show H.get? ci = _
    rw [← hH]
    exact Heap.get?_push_of_some _ (Heap.get?_push_of_some _ I'.oci)
  have hmt : ({ s with heap := H } : Shared).heap.get? (h'.objs.size + 1) = some { cls := .type "re.Match", data := .fields #[.str ⟨l.toArray⟩ tk, .ref pat, rawInt 0, rawInt (l.length : Nat), rawInt g, .ref h'.objs.size] } := by
    show H.get? _ = _
    rw [← hH, ← Heap.size_push (h := h') (o := { cls := .type "tuple", data := .seq (matSpans b e g).toArray })]
    exact Heap.get?_push_size _ rfl
  show W1 _ _ _ (field (.ref ci) 2 >>= _) _ _ _
  refine W1.bind (W1.of_any (wpAny_field hci rfl (x := .bool false) rfl ?_))
  show W1 _ _ _ (if (Value.bool false == Value.bool true) = true then _ else _) _ _ _
  rw [if_neg (show ¬ ((Value.bool false == Value.bool true) = true) by decide)]
  show W1 _ _ _ (field (.ref ci) 1 >>= _) _ _ _
  refine W1.bind (W1.of_any (wpAny_field hci rfl (x := .none) rfl ?_))
  refine W1.bind (W1.holding (W1.of_any (any_mono_model (none_eq ?_ hmt rfl ?_))))
  · rw [Around.under_plainId slot_ci_next.plain]; show A.units + 1 < cLine; omega
  simp only [Bool.not_false, if_true]
  refine W1.pure ?_
  show WE _ _ _ _ _ _ _
  refine WE.pure (W.pure ?_)
  have := hQ h' I' h3
  rw [hH] at this
  exact this
end
end Mine

end
section
open PySem PySem.W PySem.Calls PyProof.Rows
set_option Elab.async false
set_option maxRecDepth 100000
namespace Mine
open PySem.Builtin.Re
open Sem (wp)

section
variable {prog : Program} {w : World} {A : Around} {E : Value → Shared → Prop} {s : Shared}
theorem lets_go {bm sc : Addr} {who : String} {busy : Code → Bool} {Q : Unit → Shared → Prop} (hb : s.heap.get? bm = some { cls := .type "builtin_function_or_method", data := .fields #[.builtin "_sre.SRE_Scanner.search", .ref sc] }) (hbusy : ∀ c, notCI c = true → busy c = false) (h : Q () s) :
    W1 prog w A (slotLetsGo who (.ref bm) busy) Q E s := by
  unfold slotLetsGo
  refine W1.bind (W1.of_any (borrows_no hb ?_))
  simp only [Bool.false_eq_true, if_false]
  refine W1.bind (W1.stack fun c p below hbl => ?_)
  have : ((List.drop 1 ((c, p) :: below)).any fun x => match x with | (c, _) => busy c) = false := by
    rw [List.any_eq_false]
    intro x hx
    simp at hx
    have := hbusy x.1 (hbl x hx)
    simp [this]
  rw [if_neg (by intro hh; rw [this] at hh; cases hh)]
  exact W1.pure h

theorem busy_no (self : Value) : ∀ c, notCI c = true → (fun (c : Code) => match c with | .builtin "callable_iterator.__next__" x => x.pos.head? == some self | _ => false) c = false := fun c h => by
  simp only
  split
  · cases h
  · rfl

theorem ci_done {ci bm sc pat ct : Addr} {l : List Nat} {tk : Tok} {st : Nat} {Q : Option Value → Shared → Prop} (hh : A.handled = none) (I : CIAt s.heap ci bm sc pat ct l tk (st : Nat)) (hst : st ≤ l.length) (hn : l.length ≤ 16777216) (hf : findM st (l.drop st) = none)
    (hQ : ∀ h', (∀ a o, a ≠ sc → a ≠ ci → s.heap.get? a = some o → h'.get? a = some o) → Q none { s with heap := h' }) :
    W prog w A (pyNext (.ref ci)) Q s := by
  have hT : s.TypeIs (.ref ci) "callable_iterator" := ⟨_, I.oci, rfl⟩
  unfold pyNext
  refine W.bind (W.attemptE ?_)
  simp only [callSpecial?]
  refine WE.bind (WE.of_any (wpAny_specialOf hT slot_ci_next.lookup ?_))
  simp only [slot_ci_next.bind]
  refine WE.holding (WE.bind (WE.pure (WE.bind (WE.call ?_))))
  refine C1.of_tree rfl (W1.bind (W1.of_any (slot_ci_next.check _ _ _ _ _ _ _ _ hT (args_ci_next _) ?_)))
  refine W1.pure ⟨plainId_quiet slot_ci_next.plain _, C1.of_tree rfl ?_⟩
  rw [den_builtin, entry_ci_next]
  show W1 _ _ _ (field (.ref ci) 2 >>= _) _ _ _
  refine W1.bind (W1.of_any (wpAny_field I.oci rfl (x := .bool false) rfl ?_))
  show W1 _ _ _ (if (Value.bool false == Value.bool true) = true then _ else _) _ _ _
  rw [if_neg (show ¬ ((Value.bool false == Value.bool true) = true) by decide)]
  show W1 _ _ _ (field (.ref ci) 0 >>= _) _ _ _
  refine W1.bind (W1.of_any (wpAny_field I.oci rfl (x := .ref bm) rfl ?_))
  refine W1.bind (W1.attempt (W1.of_any (slot_call I hst hn (fun b' e' g' h' h1 => by rw [hf] at h1; cases h1) fun h' _ h2 h3 => ?_)))
  have I' := I.next h3 h2
  have hci : ({ s with heap := h' } : Shared).heap.get? ci = some { cls := .type "callable_iterator", data := .fields #[.ref bm, .none, .bool false] } := I'.oci
  show W1 _ _ _ (field (.ref ci) 2 >>= _) _ _ _
  refine W1.bind (W1.of_any (wpAny_field hci rfl (x := .bool false) rfl ?_))
  show W1 _ _ _ (if (Value.bool false == Value.bool true) = true then _ else _) _ _ _
  rw [if_neg (show ¬ ((Value.bool false == Value.bool true) = true) by decide)]
  show W1 _ _ _ (field (.ref ci) 1 >>= _) _ _ _
  refine W1.bind (W1.of_any (wpAny_field hci rfl (x := .none) rfl ?_))
  have heq : ∀ {Q : Bool → Shared → Prop} {s : Shared} {A : Around} {E : Value → Shared → Prop}, Q true s → wpAny (Mg prog w) A (eqBool .none .none) Q E s := fun hq => by
    unfold eqBool
    refine wpAny_holding ?_
    show wpAny _ _ (if (Value.none == Value.none) = true then _ else _) _ _ _
    rw [if_pos (by decide)]
    exact wpAny_bind (wpAny_rule (wpAny_pure hq))
  refine W1.bind (W1.holding (W1.of_any (heq ?_)))
  simp only [Bool.not_true, Bool.false_eq_true, if_false]
  show W1 _ _ _ (rule "callable_iterator.__next__.sentinel" >>= _) _ _ _
  refine W1.bind (W1.of_any (wpAny_rule ?_))
  show W1 _ _ _ ((field (.ref ci) 0 >>= fun old => slotLetsGo "callable_iterator.__next__" old (fun c => match c with | .builtin "callable_iterator.__next__" x => x.pos.head? == some (.ref ci) | _ => false) >>= fun _ => setField (.ref ci) 0 .none >>= fun _ => setField (.ref ci) 1 .none >>= fun _ => setField (.ref ci) 2 (.bool true)) >>= _) _ _ _
  refine W1.bind (W1.bind (W1.of_any (wpAny_field hci rfl (x := .ref bm) rfl ?_)))
  refine W1.bind (lets_go I'.obm (busy_no _) ?_)
  refine W1.bind (W1.of_any (wpAny_setField hci rfl (by simp) ?_))
  have hc1 : (h'.update ci (Obj.mapFields (·.setIfInBounds 0 .none))).get? ci = some { cls := .type "callable_iterator", data := .fields #[.none, .none, .bool false] } := Heap.get?_update_self _ hci rfl
  refine W1.bind (W1.of_any (wpAny_setField hc1 rfl (by simp) ?_))
  have hc2 : ((h'.update ci (Obj.mapFields (·.setIfInBounds 0 .none))).update ci (Obj.mapFields (·.setIfInBounds 1 .none))).get? ci = some { cls := .type "callable_iterator", data := .fields #[.none, .none, .bool false] } := Heap.get?_update_self _ hc1 rfl
  refine W1.of_any (wpAny_setField hc2 rfl (by simp) ?_)
  have hs3 : Heap.SameBut ci h' (((h'.update ci (Obj.mapFields (·.setIfInBounds 0 .none))).update ci (Obj.mapFields (·.setIfInBounds 1 .none))).update ci (Obj.mapFields (·.setIfInBounds 2 (.bool true)))) := ((Heap.SameBut.update ..).trans (Heap.SameBut.update ..)).trans (Heap.SameBut.update ..)
  generalize (((h'.update ci (Obj.mapFields (·.setIfInBounds 0 .none))).update ci (Obj.mapFields (·.setIfInBounds 1 .none))).update ci (Obj.mapFields (·.setIfInBounds 2 (.bool true)))) = H3 at hs3
  show W1 _ _ _ (newExc (.type "StopIteration") [] >>= _) _ _ _
  refine W1.of_any (wpAny_bind ?_)
  simp only [newExc, newTuple]
  refine wpAny_bind (wpAny_newObj_type ?_ (by size_fits))
  refine wpAny_bind (m := firstArgMember _ _) (wpAny_of_eq (a := Value.none) (by first | rfl | (simp only [firstArgMember]; rfl)) ?_)
  refine wpAny_newObj_type ?_ (by size_fits)
  simp only [raiseNew]
  refine wpAny_bind (wpAny_handled ?_)
  rw [show (A.under (Code.builtin "callable_iterator.__next__" ⟨[.ref ci] ++ [], []⟩)).handled = none from hh]
  refine wpAny_throw ?_
  refine W.bind (W.of_any (wpAny_isInstance (T := "StopIteration") (b := true) ⟨_, Heap.get?_push_size _ rfl, rfl⟩ isSubtype_stop ?_))
  refine W.pure (hQ _ fun a o h1 h2 e => ?_)
  exact Heap.get?_push_of_some _ (Heap.get?_push_of_some _ (hs3.extBut a o h2 (h3.extBut a o h1 e)))
end
end Mine

end
section
open PySem PySem.W PySem.Calls PyProof.Rows
set_option Elab.async false
set_option maxRecDepth 100000
namespace Mine
open PySem.Builtin.Re
open Sem (wp)

theorem canon_ga : (Manifest.canonical "object.__getattribute__" != "object.__getattribute__") = false := by decide +kernel
theorem get_ref {M : Model} {A : Around} {E : Value → Shared → Prop} {s : Shared} {T : String} {name : Str} {id : String} {l : Addr} {o : Obj} {pl : Sem Bool} {Q : Value × List Value → Shared → Prop}
    (hga : typeLookup (.type T) "__getattribute__" = pure (some (.builtin "object.__getattribute__"))) (hgn : typeLookup (.type T) "__getattr__" = pure none) (slot : PySem.Slot T name id) (ty : typeOf (.builtin id) = pure (.type "method_descriptor"))
    (ho : s.heap.get? l = some o) (hc : o.cls = .type T) (hd : o.dict = none) (h : Q (.builtin id, [.ref l]) s) : wpAny M A (getMethod (.ref l) name pl) Q E s := by
  have hT : s.TypeIs (.ref l) T := ⟨o, ho, hc⟩
  unfold getMethod
  refine wpAny_bind (wpAny_specialOf hT hga ?_)
  show wpAny M A (if (Manifest.canonical "object.__getattribute__" != "object.__getattribute__") = true then _ else _) Q E s
  rw [canon_ga, if_neg Bool.false_ne_true]
  refine wpAny_bind (wpAny_specialOf hT hgn ?_)
  refine wpAny_bind (wpAny_specialOf hT slot.lookup ?_)
  refine wpAny_bind (wpAny_of_eq ty ?_)
  refine wpAny_bind (wpAny_loadPart ho ?_)
  rw [hd]
  exact wpAny_bind (wpAny_rule (wpAny_pure h))

theorem lk_pat_ga : typeLookup (.type "re.Pattern") "__getattribute__" = pure (some (.builtin "object.__getattribute__")) := by rw [typeLookup_type, builtinLookup_eq_fast]; kernel_rfl
theorem lk_pat_gn : typeLookup (.type "re.Pattern") "__getattr__" = pure none := by rw [typeLookup_type, builtinLookup_eq_fast]; kernel_rfl
theorem lk_mat_ga : typeLookup (.type "re.Match") "__getattribute__" = pure (some (.builtin "object.__getattribute__")) := by rw [typeLookup_type, builtinLookup_eq_fast]; kernel_rfl
theorem lk_mat_gn : typeLookup (.type "re.Match") "__getattr__" = pure none := by rw [typeLookup_type, builtinLookup_eq_fast]; kernel_rfl
theorem slot_finditer : PySem.Slot "re.Pattern" "finditer" "re.Pattern.finditer" :=
  .of (owner := "re.Pattern") (n := "finditer") (by rw [typeLookup_type, builtinLookup_eq_fast]; kernel_rfl) (by decide +kernel) (by decide +kernel) (by decide +kernel)
    (by first | exact .inl (by decide +kernel) | exact .inr (by decide +kernel)) (by rw [isSubtype_type]; kernel_rfl)
theorem type_finditer : typeOf (.builtin "re.Pattern.finditer") = pure (.type "method_descriptor") := by show builtinType _ = _; rw [builtinType_eq_fast]; kernel_rfl
theorem entry_finditer : entryFor table "re.Pattern.finditer" = some Builtin.«re.Pattern.finditer» := entryFor_of_tree (by kernel_rfl)
theorem args_finditer (a b : Value) : argsOk "re.Pattern.finditer" ⟨[a, b], []⟩ := by unfold argsOk; kernel_rfl

theorem sub_str_ba : isSubtype (.type "str") (.type "bytearray") = pure false := by rw [isSubtype_type]; kernel_rfl
theorem named_one (id f : String) (v : Value) : reNamed id f ["string", "pos", "endpos"] 1 [v] [] = pure [some v, none, none] := by rfl

section
variable {prog : Program} {w : World} {A : Around} {E : Value → Shared → Prop} {s : Shared}
theorem target2_ok {pat ct : Addr} {l : List Nat} {tk : Tok} {id f : String} {Q : ReTarget → Shared → Prop} (hp : PatAt s.heap pat ct) (hn : l.length ≤ 16777216)
    (h : Q { pattern := .ref pat, string := .str ⟨l.toArray⟩ tk, code := theCode, text := l.toArray, kind := 0, groups := 3, pos := 0, lim := l.length } s) :
    wpAny (model prog w) A (reTarget id f ⟨[.ref pat, .str ⟨l.toArray⟩ tk], []⟩) Q E s := by
  obtain ⟨p0, p1, p3, p4, ho⟩ := hp.obj
  obtain ⟨n, hc⟩ := hp.code
  obtain ⟨hh, gs, d, t, os⟩ := s
  unfold reTarget
  simp only [named_one]
  repeat (any_goals (first | assumption | wp_step))
  simp only [Option.getD_some, code_back]
  have e1 : min ((2 ^ 63 - 1 : Int)).toNat l.toArray.size = l.length := by simp; omega
  have e2 : min (0 : Int).toNat l.toArray.size = 0 := by simp
  simp only [e1, e2]
  exact h

theorem notHeld_ok {M : Model} {id : String} {x : Str} {tk : Tok} {Q : Unit → Shared → Prop} (h : Q () s) : wpAny M A (reNotHeld id (.str x tk)) Q E s := by
  unfold reNotHeld
  refine wpAny_bind (wpAny_isInstance (typeIs_str _ _ _) sub_str_ba ?_)
  simp only [Bool.false_eq_true, if_false]
  exact wpAny_pure h

theorem finditer_ok {pat ct : Addr} {l : List Nat} {tk : Tok} {Q : Value → Shared → Prop} (hp : PatAt s.heap pat ct) (hn : l.length ≤ 16777216)
    (hlow : pat < s.heap.objs.size ∧ ct < s.heap.objs.size)
    (hQ : ∀ s', Ext s s' → CIAt s'.heap (s.heap.objs.size + 2) (s.heap.objs.size + 1) s.heap.objs.size pat ct l tk ((0 : Nat) : Int) → s'.heap.objs.size = s.heap.objs.size + 3 → Q (.ref (s.heap.objs.size + 2)) s') :
    wpAny (model prog w) A (PySem.call (.builtin "re.Pattern.finditer") [.ref pat, .str ⟨l.toArray⟩ tk]) Q E s := by
  obtain ⟨p0, p1, p3, p4, ho⟩ := hp.obj
  have hT : s.TypeIs (.ref pat) "re.Pattern" := ⟨_, ho, rfl⟩
  refine wpAny_call_entry slot_finditer hT entry_finditer ?_ (args_finditer _ _)
  unfold Builtin.«re.Pattern.finditer»
  refine wpAny_bind (target2_ok hp hn (wpAny_bind (notHeld_ok (wpAny_bind (wpAny_newObj_type ?_ (by size_fits))))))
  have hsc : (s.heap.push { cls := .type "_sre.SRE_Scanner", data := .fields #[.ref pat, .str ⟨l.toArray⟩ tk, rawInt ((0 : Nat) : Int), rawInt ((0 : Nat) : Int), rawInt (l.length : Nat), .bool false] }).get? s.heap.objs.size = some (scanObj pat l tk ((0 : Nat) : Int)) := Heap.get?_push_size _ rfl
  obtain ⟨hh, gs, d, t, os⟩ := s
  refine wpAny_bind (wpAny_holding (search_attr hsc (wpAny_bind (wpAny_newObj_type (wpAny_pure ⟨_, rfl, ?_⟩) (by size_fits)))))
  have h1 : (hh.push (scanObj pat l tk ((0 : Nat) : Int))).objs.size = hh.objs.size + 1 := Heap.size_push ..
  have h2 : ((hh.push (scanObj pat l tk ((0 : Nat) : Int))).push { cls := .type "builtin_function_or_method", data := .fields #[.builtin "_sre.SRE_Scanner.search", .ref hh.objs.size] }).objs.size = hh.objs.size + 2 := by rw [Heap.size_push, h1]
  have h3 : (((hh.push (scanObj pat l tk ((0 : Nat) : Int))).push { cls := .type "builtin_function_or_method", data := .fields #[.builtin "_sre.SRE_Scanner.search", .ref hh.objs.size] }).push { cls := .type "callable_iterator", data := .fields #[.ref (hh.objs.size + 1), .none, .bool false] }).objs.size = hh.objs.size + 3 := by rw [Heap.size_push, h2]
  have keep : ∀ a o, hh.get? a = some o → (((hh.push (scanObj pat l tk ((0 : Nat) : Int))).push { cls := .type "builtin_function_or_method", data := .fields #[.builtin "_sre.SRE_Scanner.search", .ref hh.objs.size] }).push { cls := .type "callable_iterator", data := .fields #[.ref (hh.objs.size + 1), .none, .bool false] }).get? a = some o := fun a o e => Heap.get?_push_of_some _ (Heap.get?_push_of_some _ (Heap.get?_push_of_some _ e))
  have hq := hQ ⟨((hh.push (scanObj pat l tk ((0 : Nat) : Int))).push { cls := .type "builtin_function_or_method", data := .fields #[.builtin "_sre.SRE_Scanner.search", .ref hh.objs.size] }).push { cls := .type "callable_iterator", data := .fields #[.ref (hh.objs.size + 1), .none, .bool false] }, gs, d, t + 1, os⟩
    ⟨rfl, rfl, by show hh.objs.size ≤ Array.size _; rw [h3]; exact Nat.le_add_right _ _, keep⟩
    ⟨by rw [← h2]; exact Heap.get?_push_size _ rfl, by rw [← h1]; exact Heap.get?_push_of_some _ (Heap.get?_push_size _ rfl), Heap.get?_push_of_some _ (Heap.get?_push_of_some _ hsc), hp.at (fun o e => keep _ o e) (fun o e => keep _ o e),
      Nat.ne_of_gt (Nat.lt_add_of_pos_right (by decide)), Nat.ne_of_gt (Nat.lt_add_of_pos_right (by decide)), Nat.ne_of_lt hlow.1, Nat.ne_of_lt hlow.2⟩ h3
  rw [← h2, ← h1] at hq
  exact hq
end
end Mine

end
section
open PySem PySem.W PySem.Calls PyProof.Rows
set_option Elab.async false
set_option maxRecDepth 100000
namespace Mine
open PySem.Builtin.Re
open Sem (wp)

theorem fn_call {cx : Cx} {k : Nat} {a : Addr} {o : Obj} {name : Str} {params : Arguments} {body : List Stmt} {scope : Scope} {pm cd doc : Value} {xs rest : List Str}
    (ho : cx.h₁.get? a = some o) (hd : o.data = .func (docDef name params body scope pm cd doc)) (hcd : cx.h₁.CodeRec cd name)
    (hbind : ∀ vs : List Value, vs.length = xs.length → bindArgs (docDef name params body scope pm cd doc) ⟨vs, []⟩ = pure (xs.zip vs))
    {A : Around} {V : Avd} {s : Shared} {ds : List D} {vs : List Value} {Q : Value → Shared → Prop} (hA : Room A (k + 1)) (hV : ∀ p, V p → p < s.heap.objs.size) (hbase' : Base cx s.heap) (ra : RdAll cx s.heap V ds vs) (hlen : ds.length = xs.length)
    (hQ : ∀ (env : Env) (vm : Str → Option Value) (s' : Shared), FrV cx scope ((xs ++ rest).map some) env V (fun _ => none) vm s' (ds.map .val ++ List.replicate rest.length .unb) → Ext s s' → Room (A.deeper env) k →
      W cx.prog cx.w (A.deeper env) (execs body env) (fun f s₂ => Q (match f with | .ret v => v | _ => .none) s₂) s')
    (hnd : decide (xs ++ rest).Nodup = true := by decide) (hnames : decide (scope.names.map (·.1)).Nodup = true := by decide)
    (hknown : ((xs ++ rest).all fun x => scope.names.lookup x == some .local || scope.names.lookup x == some .cell) = true := by decide)
    (hco : scope.isCoroutine = false := by rfl) (hgen : scope.isGenerator = false := by rfl) (hk : scope.kind = .function := by rfl) : W cx.prog cx.w A (PySem.call (.ref a) vs) Q s := by
  have hbase := hbase'.2
  have hnd := of_decide_eq_true hnd
  have hnames := of_decide_eq_true hnames
  have hkn : ∀ x ∈ xs ++ rest, scope.names.lookup x = some .local ∨ scope.names.lookup x = some .cell := fun x hx => by
    have := List.all_eq_true.mp hknown x hx
    simpa using this
  have hlv : vs.length = xs.length := by rw [ra.length, hlen]
  refine W.call (C.call_function (by have := hA.2.1; omega) (hbase a o ho) hd hco hgen rfl (hcd.keeps hbase) ?_)
  rw [hbind vs hlv]
  have hmem : ∀ x, scope.names.lookup x = some .cell → (x, NameKind.cell) ∈ scope.names := fun x hx => mem_of_lookup hx
  refine wpAny_pure (wpAny_newFunctionEnv_cells hk (fun x hx => ?_) fun env he s' x => ?_)
  · have hx' : x.1 ∈ xs := (List.of_mem_zip hx).1
    rcases hkn x.1 (List.mem_append_left _ hx') with h1 | h1
    · exact .inl h1
    · exact .inr ⟨h1, cellsFrom_has _ _ _ _ (hmem _ h1)⟩
  refine ⟨(cx.lim.keeps hbase).keeps x.toInCall.keep, C.func ?_⟩
  obtain ⟨hh, tk, hs'⟩ := x.toInCall.same
  have hkeep := x.toInCall.keep
  have hEs : env.scope = scope := by rw [he]; rfl
  have hEl : env.locals = s.heap.objs.size := by rw [he]; rfl
  have hEc : env.cells = cellsFrom (s.heap.objs.size + 1) scope.names [] := by rw [he]; rfl
  have hEg : env.globals = mainGlobals := by rw [he]; rfl
  have hEb : env.builtins = builtinsNs := by rw [he]; rfl
  have hsz : s.heap.objs.size ≤ s'.heap.objs.size := by
    have h0 := x.toInCall.ns.lt
    rw [hEl] at h0; exact Nat.le_of_lt h0
  have X : Ext s s' := ⟨by rw [hs'], by rw [hs'], hsz, hkeep⟩
  have hkind : ∀ y, env.kindOf y = scope.names.lookup y := fun y => by show env.scope.names.lookup y = _; rw [hEs]
  have hge1 : cx.h₁.objs.size ≤ s.heap.objs.size := hbase'.1
  let vm : Str → Option Value := fun y => if scope.names.lookup y = some .local then bindL env.kindOf (xs.zip vs) (fun _ => none) y else bindC env.kindOf (xs.zip vs) (fun _ => none) y
  have hvm : ∀ y, vm y = (xs.zip vs).reverse.lookup y := fun y => by
    show (if scope.names.lookup y = some .local then _ else _) = _
    split
    · rename_i hy; rw [bindL_get _ _ _ _ (by rw [hkind]; exact hy)]; simp
    · rename_i hy; rw [bindC_get _ _ _ _ (by rw [hkind]; exact hy)]; simp
  have F : FrV cx scope ((xs ++ rest).map some) env V (fun _ => none) vm s' (ds.map .val ++ List.replicate rest.length .unb) := {
    scope := hEs, kind := hk, glob := hEg, blt := hEb
    base := fun b o' e => hkeep b o' (hbase b o' e)
    ns := ⟨_, x.toInCall.ns, fun y hy => by show _ = (if scope.names.lookup y = some .local then _ else _); rw [if_pos hy]⟩
    cell := fun y c hc => by
      have := x.cell y c hc
      have hy : scope.names.lookup y ≠ some .local := by
        have hm := mem_of_lookup hc
        rw [hEc] at hm
        rcases cellsFrom_mem _ _ _ _ _ hm with h' | h'
        · cases h'
        · rw [lookup_of_mem hnames h']; intro e; cases e
      show s'.heap.IsCell c (if scope.names.lookup y = some .local then _ else _)
      rw [if_neg hy]; exact this
    apart := x.apart
    fresh := fun b hb => by
      rcases hb with ⟨j, hj⟩ | hb | ⟨y, hy⟩
      · cases hj
      · subst hb; exact ⟨by rw [hEl]; exact hge1, x.toInCall.ns.lt⟩
      · have h0 := x.above y b (mem_of_lookup hy)
        exact ⟨by rw [hEl] at h0; exact Nat.le_trans hge1 (Nat.le_of_lt h0), (x.cell y b hy).lt⟩
    nsCell := fun y hy => Nat.lt_irrefl _ (x.above y _ (mem_of_lookup hy))
    av := fun b hb => Nat.lt_of_lt_of_le (hV b hb) hsz
    len := by simp [hlen]
    tabInj := fun i j y h1 h2 => by
      rw [List.getElem?_map, Option.map_eq_some_iff] at h1 h2
      obtain ⟨y1, h1, e1⟩ := h1
      obtain ⟨y2, h2, e2⟩ := h2
      cases e1; cases e2
      have hi : i < (xs ++ rest).length := by
        rcases Nat.lt_or_ge i (xs ++ rest).length with h' | h'
        · exact h'
        · rw [List.getElem?_eq_none h'] at h1; cases h1
      exact (List.getElem?_inj hi hnd).mp (h1.trans h2.symm)
    cellNL := fun y c hc => by
      have hm := mem_of_lookup hc
      rw [hEc] at hm
      rcases cellsFrom_mem _ _ _ _ _ hm with h' | h'
      · cases h'
      · rw [lookup_of_mem hnames h']; intro e; cases e
    known := fun i y h1 => by
      rw [List.getElem?_map, Option.map_eq_some_iff] at h1
      obtain ⟨y1, h1, e1⟩ := h1
      cases e1
      rcases hkn y (List.mem_of_getElem? h1) with h' | h'
      · exact .inl h'
      · exact .inr ⟨.inl h', by rw [hEc]; exact cellsFrom_has _ _ _ _ (hmem _ h')⟩
    slots := fun i y sl h1 h2 => by
      rw [List.getElem?_map, Option.map_eq_some_iff] at h1
      obtain ⟨y1, h1, e1⟩ := h1
      cases e1
      rcases Nat.lt_or_ge i xs.length with hi | hi
      · rw [List.getElem?_append_left hi] at h1
        rw [List.getElem?_append_left (by simpa [hlen] using hi), List.getElem?_map, Option.map_eq_some_iff] at h2
        obtain ⟨d', h2, e2⟩ := h2
        subst e2
        obtain ⟨v', hv', q⟩ := ra.get h2
        refine ⟨v', by rw [hvm]; exact lookup_zip_rev (List.nodup_append.mp hnd).1 hlv h1 hv', ?_⟩
        refine q.mono (fun b o' _ e => hkeep b o' e) fun b hb => ?_
        rcases hb with hb | ⟨j, hj⟩ | hb | ⟨z, hz⟩
        · exact .inl hb
        · cases hj
        · exact .inr (get_none (by rw [hb, hEl]; exact Nat.le_refl _))
        · exact .inr (get_none (by have h0 := x.above z b (mem_of_lookup hz); rw [hEl] at h0; exact Nat.le_of_lt h0))
      · rw [List.getElem?_append_right (by simpa [hlen] using hi)] at h2
        have := List.mem_of_getElem? h2
        rw [List.mem_replicate] at this
        rw [this.2]; trivial
    ownInj := fun i j b h1 _ => by cases h1
    ownSlot := fun i b h1 => by cases h1
    ownApart := fun i b h1 => by cases h1
    ownNP := fun i b h1 => by cases h1 }
  have hA' : Room (A.deeper env) k := ⟨hA.1, by show A.depth + 1 + k < _; have := hA.2.1; omega, by show A.units + 3 + 8 * k + 200 < _; have := hA.2.2; omega⟩
  exact W.mono (hQ env vm s' F X hA') fun f s₂ h₂ => ⟨_, rfl, h₂⟩

end Mine

end
section
open PySem PySem.W PySem.Calls PyProof.Rows
set_option Elab.async false
set_option maxRecDepth 100000
namespace Mine
open PySem.Builtin.Re
open Sem (wp)

/-- what a call of separate gives -/
noncomputable def ConI (cx : Cx) (ct : Addr) (k : Nat) (fv : Value) : Prop :=
  ∀ (A : Around) (V : Avd) (s : Shared) (l : List Nat) (tk : Tok), Room A k → (∀ p, V p → p < s.heap.objs.size) → Base cx s.heap → (∀ c ∈ l, c < 0x110000) → l.length ≤ sizeLine →
    W cx.prog cx.w A (PySem.call fv [.str ⟨l.toArray⟩ tk]) (fun r s' => Ext s s' ∧ ∃ ci bm sc tk', r = .ref ci ∧ CIAt s'.heap ci bm sc cx.pat ct l tk' ((0 : Nat) : Int) ∧ ∀ b ∈ [ci, bm, sc], s.heap.objs.size ≤ b ∧ b < s'.heap.objs.size) s

theorem sep_con {cx : Cx} {ct : Addr} {k : Nat} {a : Addr} {o : Obj} {name px gx : Str} {params : Arguments} {scope : Scope} {pm cd doc : Value} {p1 p2 ap pos rpos : Pos}
    (ho : cx.h₁.get? a = some o) (hd : o.data = .func (docDef name params [.Return (some (.Call (.Attribute (.Name gx p1) "finditer" ap) [.Name px p2] [] pos)) rpos] scope pm cd doc)) (hcd : cx.h₁.CodeRec cd name)
    (hbind : ∀ vs : List Value, vs.length = [px].length → bindArgs (docDef name params [.Return (some (.Call (.Attribute (.Name gx p1) "finditer" ap) [.Name px p2] [] pos)) rpos] scope pm cd doc) ⟨vs, []⟩ = pure ([px].zip vs))
    (hp : PatAt cx.h₁ cx.pat ct) (hg : (cx.mg gx).or (cx.mb gx) = some (.ref cx.pat))
    (hgl : scope.names.lookup gx = some .globalImplicit) (hpx : scope.names.lookup px = some .local) (hgx : (gx == ("__debug__" : Str)) = false) (hpd : (px == ("__debug__" : Str) || px == ("__classdict__" : Str)) = false) (hline : ap.endLine = pos.line)
    (hnames : decide (scope.names.map (·.1)).Nodup = true) (hco : scope.isCoroutine = false) (hgen : scope.isGenerator = false) (hk : scope.kind = .function) : ConI cx ct (k + 1) (.ref a) := fun A V s l tk hA hV hb hl hz => by
  have hsz := szl
  have hr : RdAll cx s.heap V [.str l] [.str ⟨l.toArray⟩ tk] := RdAll.cons (rd_str hl hz) RdAll.nil
  refine fn_call (rest := []) ho hd hcd hbind hA hV hb hr rfl ?_ (by rw [List.append_nil]; simp) hnames (by simp [hpx]) hco hgen hk
  intro env vm s' F X hA'
  rw [execs_cons]
  refine W.bind ?_
  rw [exec_Return_some]
  refine W.bind (W.standAt (W.bind ?_))
  rw [method_split rfl rfl (by show 1 < 29; decide) hline]
  rw [eval_Name env gx p1 hgx]
  refine W.bind (W.bind (W.standAt (F.glob_ hgl hg ?_)))
  have hp' : PatAt s'.heap cx.pat ct := hp.at (fun o e => F.base _ o e) (fun o e => F.base _ o e)
  obtain ⟨q0, q1, q3, q4, hpo⟩ := hp'.obj
  refine W.bind (W.standAt (W.bind (W.holding (W.of_any (get_ref lk_pat_ga lk_pat_gn slot_finditer type_finditer hpo rfl rfl ?_)))))
  have hbk := backTo_plain pos env (es := [.Name px p2]) rfl
  have hes : SEs ⟨cx, scope, ([px] ++ []).map some, k⟩ [.Name px p2] (consF (vE 0) nilF) := ses_cons (se_var (J := ⟨cx, scope, ([px] ++ []).map some, k⟩) (i := 0) rfl hpd) ses_nil
  refine callWith_ok hbk.1 (by rw [hbk.2]; show 1 ≤ 30; decide) (W.mono (hes (A.deeper env) env V (fun _ => none) vm s' _ [.str l] pos hA' F rfl) fun vs s₁ ⟨X1, r1⟩ => ⟨.inr (by intro a e; cases e), ?_⟩)
  rw [RdAll] at r1
  obtain ⟨v, l', rfl, r1, r2⟩ := r1
  rw [RdAll] at r2
  subst r2
  rw [Rd] at r1
  obtain ⟨tk', rfl, _, _⟩ := r1
  have hp1 : PatAt s₁.heap cx.pat ct := hp'.at (fun o e => X1.keep _ o e) (fun o e => X1.keep _ o e)
  obtain ⟨n, hpc⟩ := hp1.code
  refine W.of_any (finditer_ok hp1 (by omega) ⟨Heap.lt_size (X1.keep _ _ hpo), Heap.lt_size hpc⟩ fun s₂ X2 I hs2 => ?_)
  have X02 : Ext s s₂ := (X.trans X1).trans X2
  have hle : s.heap.objs.size ≤ s₁.heap.objs.size := (X.trans X1).size
  refine W.pure (W.pure ⟨X02, _, _, _, _, rfl, I, fun b hb => ?_⟩)
  simp at hb
  rw [hs2]
  rcases hb with rfl | rfl | rfl
  · exact ⟨Nat.le_trans hle (Nat.le_add_right _ _), Nat.lt_succ_self _⟩
  · exact ⟨Nat.le_trans hle (Nat.le_add_right _ _), Nat.lt_succ_of_lt (Nat.lt_succ_self _)⟩
  · exact ⟨hle, Nat.lt_add_of_pos_right (by decide)⟩

/-! the pieces of a text -/
noncomputable def allFrom : Nat → List Nat → Nat → List (Nat × Nat × Nat)
  | 0, _, _ => []
  | f + 1, l, s => match findM s (l.drop s) with
    | none => []
    | some x => x :: allFrom f l x.2.1
noncomputable def allM (l : List Nat) : List (Nat × Nat × Nat) := allFrom (l.length + 1) l 0
noncomputable def matsOf (l : List Nat) : List D := (allM l).map fun x => .mat l x.1 x.2.1 x.2.2
noncomputable def asPieces : D → Option (List D)
  | .str l => some (matsOf l)
  | _ => none

theorem slot_ci_iter : PySem.Slot "callable_iterator" "__iter__" "callable_iterator.__iter__" :=
  .of (owner := "callable_iterator") (n := "__iter__") (by rw [typeLookup_type, builtinLookup_eq_fast]; kernel_rfl) (by decide +kernel) (by decide +kernel) (by decide +kernel)
    (by first | exact .inl (by decide +kernel) | exact .inr (by decide +kernel)) (by rw [isSubtype_type]; kernel_rfl)
theorem args_ci_iter (a : Value) : argsOk "callable_iterator.__iter__" ⟨[a], []⟩ := by unfold argsOk; kernel_rfl
theorem entry_ci_iter : entryFor table "callable_iterator.__iter__" = some Builtin.«dict_keyiterator.__iter__» :=
  entryFor_alias (id' := "dict_keyiterator.__iter__") (by kernel_rfl) (by first | rfl | decide +kernel) (by decide +kernel) (by kernel_rfl)
theorem iter_ci {prog : Program} {w : World} {A : Around} {E : Value → Shared → Prop} {s : Shared} {ci : Addr} {o : Obj} {Q : Value → Shared → Prop} (ho : s.heap.get? ci = some o) (hc : o.cls = .type "callable_iterator") (h : Q (.ref ci) s) : wpAny (model prog w) A (pyIter (.ref ci)) Q E s := by
  have hT : s.TypeIs (.ref ci) "callable_iterator" := ⟨o, ho, hc⟩
  refine wpAny_pyIter_slot hT slot_ci_iter (wpAny_call_entry slot_ci_iter hT entry_ci_iter ?_ (args_ci_iter _))
  show wpAny _ _ (ret (.ref ci)) _ _ s
  exact wpAny_pure ⟨_, rfl, "callable_iterator", _, hT, slot_ci_next.lookup, h⟩
end Mine

end
section
open PySem PySem.W PySem.Calls PyProof.Rows
set_option Elab.async false
set_option maxRecDepth 100000
namespace Mine
open PySem.Builtin.Re
open Sem (wp)

noncomputable def CISt (l : List Nat) (ci bm sc pat : Addr) (tk : Tok) (i : Nat) (h : Heap) : Prop :=
  h.get? ci = some { cls := .type "callable_iterator", data := .fields #[.ref bm, .none, .bool false] } ∧
  h.get? bm = some { cls := .type "builtin_function_or_method", data := .fields #[.builtin "_sre.SRE_Scanner.search", .ref sc] } ∧
  ∃ st f : Nat, h.get? sc = some (scanObj pat l tk (st : Nat)) ∧ st ≤ l.length ∧ l.length - st < f ∧ allFrom f l st = (allM l).drop i

theorem allFrom_len : ∀ (f : Nat) (l : List Nat) (s : Nat), s ≤ l.length → (allFrom f l s).length ≤ l.length - s
  | 0, _, _, _ => Nat.zero_le _
  | f + 1, l, s, h => by
    rw [allFrom]
    split
    · exact Nat.zero_le _
    · rename_i x hx
      obtain ⟨b, e, g⟩ := x
      obtain ⟨k1, k2, k3, _, _⟩ := findM_le _ _ hx
      simp only [List.length_drop] at k3
      have := allFrom_len f l e (by omega)
      simp only [List.length_cons]
      omega

theorem wk_sep {cx : Cx} {A : Around} {tgt : PySem.Expr} {ct ci bm sc : Addr} {l : List Nat} {tk : Tok} {N : Nat} {U : Avd} (hh : A.handled = none) (hu : A.units + 100 < cLine) (hl : ∀ c ∈ l, c < 0x110000) (hz : l.length ≤ sizeLine)
    (hp : PatAt cx.h₁ cx.pat ct) (hne : ci ≠ sc ∧ bm ≠ sc ∧ bm ≠ ci) (hnew : ∀ b ∈ [ci, bm, sc], ¬ U b ∧ b < N ∧ cx.h₁.objs.size ≤ b) :
    Wk cx A tgt (ci) [ci, sc] N (matsOf l) U (CISt l ci bm sc cx.pat tk) := by
  have hsz := szl
  obtain ⟨q0, q1, q3, q4, hpo⟩ := id hp.obj
  obtain ⟨nn, hpc⟩ := id hp.code
  have hps : cx.pat ≠ sc := fun e => Nat.lt_irrefl _ (Nat.lt_of_lt_of_le (Heap.lt_size hpo) (e ▸ (hnew sc (by simp)).2.2))
  have hcs : ct ≠ sc := fun e => Nat.lt_irrefl _ (Nat.lt_of_lt_of_le (Heap.lt_size hpc) (e ▸ (hnew sc (by simp)).2.2))
  have mk : ∀ {s : Shared} {st : Nat}, Base cx s.heap → s.heap.get? ci = some { cls := .type "callable_iterator", data := .fields #[.ref bm, .none, .bool false] } → s.heap.get? bm = some { cls := .type "builtin_function_or_method", data := .fields #[.builtin "_sre.SRE_Scanner.search", .ref sc] } →
      s.heap.get? sc = some (scanObj cx.pat l tk (st : Nat)) → CIAt s.heap ci bm sc cx.pat ct l tk (st : Nat) := fun hb h1 h2 h3 => ⟨h1, h2, h3, hp.at (fun o e => hb.2 _ o e) (fun o e => hb.2 _ o e), hne.1, hne.2.1, hps, hcs⟩
  exact {
    frame := fun i h h' ⟨h1, h2, st, f, h3, h4, h5, h6⟩ hk => ⟨hk _ _ (hnew ci (by simp)).1 (hnew ci (by simp)).2.1 h1, hk _ _ (hnew bm (by simp)).1 (hnew bm (by simp)).2.1 h2, st, f, hk _ _ (hnew sc (by simp)).1 (hnew sc (by simp)).2.1 h3, h4, h5, h6⟩
    item := fun i d s V Q hd ⟨h1, h2, st, f, h3, h4, h5, h6⟩ hb hV hQ => by
      unfold matsOf at hd
      rw [List.getElem?_map, Option.map_eq_some_iff] at hd
      obtain ⟨⟨b, e, g⟩, hm, rfl⟩ := hd
      have hi : i < (allM l).length := by
        rcases Nat.lt_or_ge i (allM l).length with h | h
        · exact h
        · rw [List.getElem?_eq_none h] at hm; cases hm
      have hdr : (allM l).drop i = (b, e, g) :: (allM l).drop (i + 1) := by
        rw [List.drop_eq_getElem_cons hi]
        rw [List.getElem?_eq_getElem hi] at hm
        rw [Option.some.inj hm]
      cases f with
      | zero => omega
      | succ f =>
        rw [hdr, allFrom] at h6
        split at h6
        · cases h6
        · rename_i x hx
          have e1 : x = (b, e, g) := (List.cons.inj h6).1
          subst e1
          have e2 := (List.cons.inj h6).2
          obtain ⟨k1, k2, k3, k4, k5⟩ := findM_le _ _ hx
          simp only [List.length_drop] at k3
          refine W.mono (ci_item (b := b) (e := e) (g := g) hu (mk hb h1 h2 h3) h4 (by omega) hx (Q := fun r s₁ => ∃ v, r = some v ∧ W cx.prog cx.w A (letOwnedTupleGo tgt (.ref ci) v) (fun _ s₂ => Q v s₂) s₁) fun h' I' hs' => ?_) fun r s₁ h => h
          have hci : ((h'.push { cls := .type "tuple", data := .seq (matSpans b e g).toArray }).push { cls := .type "re.Match", data := .fields #[.str ⟨l.toArray⟩ tk, .ref cx.pat, rawInt 0, rawInt (l.length : Nat), rawInt g, .ref h'.objs.size] }).get? ci = some { cls := .type "callable_iterator", data := .fields #[.ref bm, .none, .bool false] } := Heap.get?_push_of_some _ (Heap.get?_push_of_some _ I'.oci)
          refine ⟨_, rfl, go_skip hci rfl (by decide) (hQ _ _ ⟨rfl, rfl, ?_, ?_⟩ ?_ ⟨hci, Heap.get?_push_of_some _ (Heap.get?_push_of_some _ I'.obm), e, f, Heap.get?_push_of_some _ (Heap.get?_push_of_some _ I'.osc), (by show e ≤ l.length; omega), (by show l.length - e < f; omega), e2⟩)⟩
          · show s.heap.objs.size ≤ Array.size _
            rw [Heap.size_push, Heap.size_push, hs'.1]; exact Nat.le_add_right _ 2
          · intro a o ha ea
            exact Heap.get?_push_of_some _ (Heap.get?_push_of_some _ (hs'.extBut a o (fun e' => ha (by rw [e']; simp)) ea))
          · rw [Rd]
            refine ⟨_, h'.objs.size, rfl, ⟨tk, ?_⟩, ⟨0, Heap.get?_push_of_some _ (Heap.get?_push_size _ rfl)⟩, ⟨hl, hz, (by show b ≤ e; omega), (by show e ≤ l.length; omega), k4, k5⟩, ?_, ?_⟩
            · rw [← Heap.size_push (h := h') (o := { cls := .type "tuple", data := .seq (matSpans b e g).toArray })]
              exact Heap.get?_push_size _ rfl
            · intro hv
              have := (hV _ hv).2
              rw [← hs'.1] at this
              exact Nat.lt_irrefl _ (Nat.lt_of_succ_lt this)
            · intro hv
              have := (hV _ hv).2
              rw [← hs'.1] at this
              exact Nat.lt_irrefl _ this
    done := fun s Q ⟨h1, h2, st, f, h3, h4, h5, h6⟩ hb hQ => by
      unfold matsOf at h6
      rw [List.length_map, List.drop_length] at h6
      cases f with
      | zero => omega
      | succ f =>
        rw [allFrom] at h6
        split at h6
        · rename_i hx
          exact W.mono (W.size (ci_done hh (mk hb h1 h2 h3) h4 (by omega) hx (Q := fun r s' => s.heap.objs.size ≤ s'.heap.objs.size → r = none ∧ Q s') fun h' hk hsz' => ⟨rfl, hQ _ ⟨rfl, rfl, hsz', fun a o ha e => hk a o (fun e' => ha (by rw [e']; simp)) (fun e' => ha (by rw [e']; simp)) e⟩⟩)) fun r s' ⟨g1, g2⟩ => g2 g1
        · cases h6
    self := fun i s ⟨h1, _⟩ => W.of_any (iter_ci h1 rfl ⟨rfl, rfl⟩) }

theorem si_sep {J : Jd} {tgt e : PySem.Expr} {fn : Str} {fv : Value} {p pos : Pos} {ct : Addr} {k : Nat} {f : Rho → Option D} (hc : ConI J.cx ct k fv) (hp : PatAt J.cx.h₁ J.cx.pat ct) (he : SE J e f)
    (hv : (J.cx.mg fn).or (J.cx.mb fn) = some fv) (hkeep : KeepOk fv J.cx.h₁) (hk : k ≤ J.k := by decide)
    (hl : J.sc.names.lookup fn = some .globalImplicit := by rfl) (hst : isStarred e = false := by rfl) (hdb : (fn == ("__debug__" : Str)) = false := by decide) :
    SI J tgt (.Call (.Name fn p) [e] [] pos) (itE asPieces f) := fun A env P O vm s ρ ds hA F h => by
  unfold itE at h
  rw [Option.bind_eq_some_iff] at h
  obtain ⟨d, hd, h⟩ := h
  unfold asPieces at h
  split at h
  · rename_i l
    cases h
    show W _ _ A (do callWith pos (← eval (.Name fn p) env) [] (backTo pos (starEach [e] env)) []) _ s
    rw [eval_Name env fn p hdb]
    refine W.bind (W.bind (W.standAt (F.glob_ hl hv ?_)))
    have hb := backTo_plain pos env (es := [e]) (by simp [hst])
    have hes : SEs J [e] (consF f nilF) := ses_cons he ses_nil hst
    refine callWith_ok hb.1 (by rw [hb.2]; show 1 ≤ 30; decide) (W.mono (hes A env P O vm s ρ [.str l] pos hA F (by simp [consF, nilF, hd])) fun vs s₁ ⟨X1, r1⟩ => ⟨?_, ?_⟩)
    · rcases hkeep with ⟨a, o, fd, e, ho, hd⟩ | hk
      · exact .inl ⟨a, o, fd, e, (F.ext X1).base a o ho, hd⟩
      · exact .inr hk
    rw [RdAll] at r1
    obtain ⟨v, l', rfl, r1, r2⟩ := r1
    rw [RdAll] at r2
    subst r2
    rw [Rd] at r1
    obtain ⟨tk, rfl, hcp, hz⟩ := r1
    have F1 := F.ext X1
    refine W.mono (hc A (Av env P O) s₁ l tk (hA.le hk) (fun q hq => F1.avLt hq) F1.baseOf hcp hz) fun r s₂ ⟨X2, ci, bm, sc, tk', e1, I, hnew⟩ => ?_
    subst e1
    refine ⟨rfl, W.of_any (iter_ci I.oci rfl ?_)⟩
    have hne : bm ≠ ci := fun e => by
      have h1 := I.oci
      have h2 := I.obm
      rw [e, h1] at h2
      have h3 := congrArg (fun o : Option Obj => o.map (·.cls)) h2
      simp at h3
    refine ⟨X1.trans X2, ?_, ci, [ci, sc], _, rfl, wk_sep hA.1 hA.units hcp hz hp ⟨I.ne.1, I.ne.2.1, hne⟩ (fun b hb => ⟨F1.new (hnew b hb).1, (hnew b hb).2, Nat.le_trans F1.baseOf.1 (hnew b hb).1⟩), ⟨I.oci, I.obm, 0, l.length + 1, I.osc, Nat.zero_le _, by omega, rfl⟩, fun b hb => ?_⟩
    · unfold matsOf allM
      rw [List.length_map]
      exact Nat.le_trans (allFrom_len _ _ 0 (Nat.zero_le _)) hz
    · have hb' : b ∈ [ci, bm, sc] := by simp at hb ⊢; rcases hb with h | h <;> simp [h]
      exact ⟨Nat.le_trans X1.size (hnew b hb').1, (hnew b hb').2⟩
  · cases h
end Mine

end
section
open PySem PySem.W PySem.Calls PyProof.Rows
set_option Elab.async false
set_option maxRecDepth 100000
namespace Mine
open PySem.Builtin.Re
open Sem (wp)

theorem slot_group : PySem.Slot "re.Match" "group" "re.Match.group" :=
  .of (owner := "re.Match") (n := "group") (by rw [typeLookup_type, builtinLookup_eq_fast]; kernel_rfl) (by decide +kernel) (by decide +kernel) (by decide +kernel)
    (by first | exact .inl (by decide +kernel) | exact .inr (by decide +kernel)) (by rw [isSubtype_type]; kernel_rfl)
theorem type_group : typeOf (.builtin "re.Match.group") = pure (.type "method_descriptor") := by show builtinType _ = _; rw [builtinType_eq_fast]; kernel_rfl
theorem entry_group : entryFor table "re.Match.group" = some Builtin.«re.Match.group» := entryFor_of_tree (by kernel_rfl)
theorem args_group (a b : Value) : argsOk "re.Match.group" ⟨[a, b], []⟩ := by unfold argsOk; kernel_rfl
theorem get_mat {name : Str} {id : String} (slot : PySem.Slot "re.Match" name id) (ty : typeOf (.builtin id) = pure (.type "method_descriptor")) : GetOk name id isMatD := fun cx A V s d v pl Q hp r h => by
  unfold isMatD at hp
  split at hp
  · rw [Rd] at r
    obtain ⟨a, sp, M⟩ := r
    obtain ⟨tk, ho⟩ := M.obj
    rw [M.val] at h ⊢
    exact get_ref lk_mat_ga lk_mat_gn slot ty ho rfl rfl h
  · cases hp

/-- a group's text -/
noncomputable def groupD (t : List Nat) (b e g i : Nat) : D := if i = 0 ∨ i = g then .str ((t.drop b).take (e - b)) else .none

noncomputable abbrev spanA (b e g : Nat) : Array Int := (matSpans b e g).toArray.map reRawOf
theorem span_size (b e g : Nat) : (spanA b e g).size = 8 := by
  unfold spanA matSpans
  simp [List.range_succ]
  split <;> split <;> split <;> rfl
theorem span_get {b e g i : Nat} (hi : i ≤ 3) (hg1 : 1 ≤ g) (hg3 : g ≤ 3) : (spanA b e g).getD (2 * i) (-1) = (if i = 0 ∨ i = g then (b : Int) else -1) ∧ (spanA b e g).getD (2 * i + 1) (-1) = (if i = 0 ∨ i = g then (e : Int) else -1) := by
  have hi' : i = 0 ∨ i = 1 ∨ i = 2 ∨ i = 3 := by omega
  have hg' : g = 1 ∨ g = 2 ∨ g = 3 := by omega
  have e1 : spanA b e 1 = #[(b : Int), e, b, e, -1, -1, -1, -1] := by simp [spanA, matSpans, List.range_succ, reRawOf, rawInt]
  have e2 : spanA b e 2 = #[(b : Int), e, -1, -1, b, e, -1, -1] := by simp [spanA, matSpans, List.range_succ, reRawOf, rawInt]
  have e3 : spanA b e 3 = #[(b : Int), e, -1, -1, -1, -1, b, e] := by simp [spanA, matSpans, List.range_succ, reRawOf, rawInt]
  rcases hi' with rfl | rfl | rfl | rfl <;> rcases hg' with rfl | rfl | rfl <;> simp [e1, e2, e3]

theorem lk_str_index : typeLookup (.type "str") "__index__" = pure none := by rw [typeLookup_type, builtinLookup_eq_fast]; kernel_rfl

structure PatG (cx : Cx) : Prop where
  pat : ∃ (p0 p1 p4 : Value) (ct gd : Addr) (t1 t2 : Tok), cx.h₁.get? cx.pat = some { cls := .type "re.Pattern", data := .fields #[p0, p1, rawInt 3, .ref gd, p4, .ref ct, rawInt 0] } ∧
    cx.h₁.get? gd = some { cls := .type "dict", data := .dict #[⟨PyData.keyHash cx.w.params "set", .str "set" t1, .int 2 t2⟩] 1 }

section
variable {prog : Program} {w : World} {A : Around} {E : Value → Shared → Prop} {s : Shared}
theorem group_text {fs : Array Value} {t : List Nat} {tk : Tok} {b e g i : Nat} {Q : Value → Shared → Prop} {M : Model} (h0 : fs.getD 0 .none = .str ⟨t.toArray⟩ tk) (hz : t.length ≤ sizeLine) (hi : i ≤ 3) (hg1 : 1 ≤ g) (hg3 : g ≤ 3)
    (hs : (i = 0 ∨ i = g) → Q (.str ⟨t.toArray.extract b e⟩ s.toks) { s with toks := s.toks + 1 }) (hn : ¬ (i = 0 ∨ i = g) → Q .none s) : wpAny M A (reGroupText ⟨fs, spanA b e g⟩ i .none) Q E s := by
  unfold reGroupText
  obtain ⟨e1, e2⟩ := span_get (b := b) (e := e) hi hg1 hg3
  simp only [e1, e2, h0]
  by_cases h : i = 0 ∨ i = g
  · simp only [h, if_true]
    rw [if_neg (by simp)]
    show wpAny _ _ (mkStr ⟨t.toArray.extract b e⟩) _ _ _
    exact wpAny_mkStr (hs h) (by show (t.toArray.extract b e).size ≤ sizeLine; rw [Array.size_extract]; simp; omega)
  · simp only [h, if_false]
    rw [if_pos (by decide)]
    exact wpAny_pure (hn h)

theorem found_ok {M : Model} {m sp pat : Addr} {t : List Nat} {tk : Tok} {b e g n : Nat} {Q : ReFound → Shared → Prop} (ho : s.heap.get? m = some { cls := .type "re.Match", data := .fields #[.str ⟨t.toArray⟩ tk, .ref pat, rawInt 0, rawInt (t.length : Nat), rawInt g, .ref sp] })
    (hs : s.heap.get? sp = some { cls := .type "tuple", data := .seq (matSpans b e g).toArray n }) (h : Q ⟨#[.str ⟨t.toArray⟩ tk, .ref pat, rawInt 0, rawInt (t.length : Nat), rawInt g, .ref sp], spanA b e g⟩ s) : wpAny M A (reFound (.ref m)) Q E s := by
  unfold reFound
  refine wpAny_bind (wpAny_fieldsOf ho rfl ?_)
  refine wpAny_bind ?_
  unfold reRawItems
  refine wpAny_bind (wpAny_seqItems hs rfl ?_)
  exact wpAny_pure (wpAny_pure h)

theorem num_int {fs : Array Value} {b e g : Nat} {i : Nat} {tk : Tok} {Q : Nat → Shared → Prop} (hi : i ≤ 3) (h : Q i s) : wpAny (model prog w) A (reGroupNumber ⟨fs, spanA b e g⟩ (.int (i : Nat) tk)) Q E s := by
  have hsz := span_size b e g
  unfold reGroupNumber
  obtain ⟨hp, gs, d, t, os⟩ := s
  simp only [hsz]
  repeat (any_goals (first | assumption | wp_step))
  rw [if_neg (by simp only [Bool.or_eq_true, decide_eq_true_eq, not_or]; omega)]
  rw [Int.toNat_natCast]
  exact wpAny_pure h

theorem num_set {fs : Array Value} {b e g : Nat} {pat gd : Addr} {tk t1 t2 : Tok} {vs : Array Value} {Q : Nat → Shared → Prop} (h1 : fs.getD 1 .none = .ref pat) (hp : s.heap.get? pat = some { cls := .type "re.Pattern", data := .fields vs }) (h3 : vs.getD 3 .none = .ref gd)
    (hd : s.heap.get? gd = some { cls := .type "dict", data := .dict #[⟨PyData.keyHash w.params "set", .str "set" t1, .int 2 t2⟩] 1 }) (h : Q 2 { s with toks := s.toks + 1 }) : wpAny (model prog w) A (reGroupNumber ⟨fs, spanA b e g⟩ (.str "set" tk)) Q E s := by
  have hsz := span_size b e g
  unfold reGroupNumber
  simp only [hsz, h1]
  refine wpAny_bind (m := asInt? (.str "set" tk)) (wpAny_of_eq (a := none) rfl ?_)
  simp only [Option.isSome_none, Bool.false_eq_true, if_false]
  refine wpAny_bind (wpAny_specialOf (typeIs_str _ _ _) lk_str_index ?_)
  simp only [Option.isSome_none, Bool.false_eq_true, if_false]
  refine wpAny_bind (wpAny_fieldsOf hp rfl ?_)
  simp only [h3]
  have hm : s.heap.MapOf (strKind prog w) gd fun x => if x = "set" then some (.int 2 t2) else none := by
    refine ⟨_, _, _, hd, ⟨rfl, rfl, rfl⟩, rfl, ?_, fun k => ?_⟩
    · intro e' he
      simp at he
      subst he
      exact ⟨"set", by rfl, by rfl⟩
    · have hb : (strKind prog w).is k (.str "set" t1) = decide (k = "set") := by
        show (("set" : Str) == k) = decide (k = "set")
        by_cases hk : k = "set"
        · subst hk; simp
        · rw [decide_eq_false hk, beq_false_of_ne (Ne.symm hk)]
      by_cases hk : k = "set"
      · subst hk
        simp only [decide_true] at hb
        simp [findBy, hb]
      · simp [findBy, hb, hk]
  refine wpAny_bind (wpAny_dictGet_of (knd := strKind prog w) (k := "set") (by rfl) hm ?_)
  simp only [if_true]
  refine wpAny_bind (m := asInt? (.int 2 t2)) (wpAny_of_eq (a := some 2) rfl ?_)
  exact wpAny_pure h
end

theorem PatG.at {cx : Cx} {h : Heap} (x : PatG cx) (hb : Base cx h) : ∃ (vs : Array Value) (gd : Addr) (t1 t2 : Tok), h.get? cx.pat = some { cls := .type "re.Pattern", data := .fields vs } ∧ vs.getD 3 .none = .ref gd ∧
    h.get? gd = some { cls := .type "dict", data := .dict #[⟨PyData.keyHash cx.w.params "set", .str "set" t1, .int 2 t2⟩] 1 } := by
  obtain ⟨p0, p1, p4, ct, gd, t1, t2, h1, h2⟩ := x.pat
  exact ⟨_, gd, t1, t2, hb.2 _ _ h1, rfl, hb.2 _ _ h2⟩

noncomputable def setName : List Nat := [115, 101, 116]
noncomputable def groupF : List D → Option D
  | [.mat t b e g, .int i] => if 0 ≤ i ∧ i ≤ 3 then some (groupD t b e g i.toNat) else none
  | [.mat t b e g, .str n] => if n = setName then some (groupD t b e g 2) else none
  | _ => none
theorem extract_eq (t : List Nat) (b e : Nat) : t.toArray.extract b e = ((t.drop b).take (e - b)).toArray := by
  simp
theorem con_group {cx : Cx} {k : Nat} (hP : PatG cx) : Con cx k (.builtin "re.Match.group") groupF := fun A V s ds vs r hA hV hb ra h => by
  have fin : ∀ {t : List Nat} {b e g i : Nat} {m sp : Addr} {tk : Tok} {s₁ : Shared} {x : ReFound}, MatAt cx s.heap V t b e g (.ref m) m sp → Ext s s₁ → i ≤ 3 → x = ⟨#[.str ⟨t.toArray⟩ tk, .ref cx.pat, rawInt 0, rawInt (t.length : Nat), rawInt g, .ref sp], spanA b e g⟩ →
      wpAny (model cx.prog cx.w) A.in1 (reGroupText x i .none) (fun v s' => Ext s s' ∧ Rd cx s'.heap V (groupD t b e g i) v) (fun _ _ => False) s₁ := fun M X hi hx => by
    subst hx
    obtain ⟨o1, o2, o3, o4, o5, o6⟩ := M.ok
    refine group_text rfl o2 hi o5 o6 (fun hc => ⟨X.trans (Ext.toks _), ?_⟩) (fun hc => ⟨X, ?_⟩)
    · unfold groupD
      rw [if_pos hc, extract_eq]
      refine rd_str (fun c hcm => o1 c (List.mem_of_mem_drop (List.mem_of_mem_take hcm))) ?_
      rw [List.length_take, List.length_drop]; omega
    · unfold groupD
      rw [if_neg hc, Rd]
  unfold groupF at h
  split at h
  · rename_i t b e g i
    split at h
    · rename_i hi
      cases h
      rw [RdAll] at ra; obtain ⟨v, l1, rfl, ra, rb⟩ := ra
      rw [RdAll] at rb; obtain ⟨v2, l2, rfl, rb, rc⟩ := rb
      rw [RdAll] at rc; subst rc
      rw [Rd] at ra; obtain ⟨m, sp, M⟩ := ra
      rw [Rd] at rb; obtain ⟨ti, rfl⟩ := rb
      obtain ⟨tk, ho⟩ := M.obj
      obtain ⟨n, hs⟩ := M.spans
      have hv := M.val
      subst hv
      refine W.of_any (wpAny_call_entry slot_group ⟨_, ho, rfl⟩ entry_group ?_ (args_group _ _))
      unfold Builtin.«re.Match.group»
      show wpAny _ _ (reFound (.ref m) >>= _) _ _ _
      refine wpAny_bind (found_ok ho hs ?_)
      obtain ⟨j, rfl⟩ := Int.eq_ofNat_of_zero_le hi.1
      refine wpAny_bind (num_int (by omega) ?_)
      refine wpAny_bind (wpAny_mono (fin M (Ext.refl _) (by omega) rfl) (fun v s' hv => wpAny_pure ⟨v, rfl, ?_⟩) fun _ _ x => x)
      rw [Int.toNat_natCast]
      exact hv
    · cases h
  · rename_i t b e g nm
    split at h
    · rename_i hi
      cases h
      subst hi
      rw [RdAll] at ra; obtain ⟨v, l1, rfl, ra, rb⟩ := ra
      rw [RdAll] at rb; obtain ⟨v2, l2, rfl, rb, rc⟩ := rb
      rw [RdAll] at rc; subst rc
      rw [Rd] at ra; obtain ⟨m, sp, M⟩ := ra
      rw [Rd] at rb; obtain ⟨ti, rfl, _, _⟩ := rb
      obtain ⟨tk, ho⟩ := M.obj
      obtain ⟨n, hs⟩ := M.spans
      have hv := M.val
      subst hv
      obtain ⟨pv, gd, t1, t2, hp1, hp2, hp3⟩ := hP.at hb
      refine W.of_any (wpAny_call_entry slot_group ⟨_, ho, rfl⟩ entry_group ?_ (args_group _ _))
      unfold Builtin.«re.Match.group»
      show wpAny _ _ (reFound (.ref m) >>= _) _ _ _
      refine wpAny_bind (found_ok ho hs ?_)
      refine wpAny_bind (num_set (tk := ti) rfl hp1 hp2 hp3 ?_)
      exact wpAny_bind (wpAny_mono (fin M (Ext.toks _) (by omega) rfl) (fun v s' hv => wpAny_pure ⟨v, rfl, hv⟩) fun _ _ x => x)
    · cases h
  · cases h
end Mine

end
section
open PySem PySem.W PySem.Calls PyProof.Rows
set_option Elab.async false
set_option maxRecDepth 100000
namespace Mine
open Sem (wp)

noncomputable def strsOf : List D → Option (List (List Nat))
  | [] => some []
  | .str l :: r => (strsOf r).map (l :: ·)
  | _ => none
noncomputable def joinF : List D → Option D
  | [.str [], .list ds] => (strsOf ds).bind fun ls => if ls.flatten.length ≤ sizeLine then some (.str ls.flatten) else none
  | _ => none

theorem strs_read {cx : Cx} {h : Heap} {V : Avd} : ∀ {ds : List D} {vs : List Value} {ls : List (List Nat)}, RdAll cx h V ds vs → strsOf ds = some ls →
    ∃ l : List (Str × Tok), vs = strValues l ∧ l.map (·.1) = ls.map (fun x => (⟨x.toArray⟩ : Str)) ∧ ∀ c ∈ ls.flatten, c < 0x110000
  | [], vs, ls, r, hs => by
    rw [RdAll] at r
    subst r
    cases hs
    exact ⟨[], rfl, rfl, fun c hc => by simp at hc⟩
  | d :: ds, vs, ls, r, hs => by
    cases d with
    | str l =>
      rw [RdAll] at r
      obtain ⟨v, l2, rfl, r1, r2⟩ := r
      rw [strsOf, Option.map_eq_some_iff] at hs
      obtain ⟨ls', h1, rfl⟩ := hs
      rw [Rd] at r1
      obtain ⟨t, rfl, hc, _⟩ := r1
      obtain ⟨l', e1, e2, e3⟩ := strs_read r2 h1
      refine ⟨(⟨l.toArray⟩, t) :: l', by rw [e1]; rfl, by simp [e2], fun c hm => ?_⟩
      rw [List.flatten_cons, List.mem_append] at hm
      exact hm.elim (hc c) (e3 c)
    | _ => simp [strsOf] at hs

theorem glue_acc (ls : List (List Nat)) : ∀ acc : List Nat, (ls.map (fun x => (⟨x.toArray⟩ : Str))).foldl (fun acc p => acc ++ (⟨#[]⟩ : Str).cps ++ p.cps) acc.toArray = (acc ++ ls.flatten).toArray := by
  induction ls with
  | nil => intro acc; simp
  | cons x ls ih => intro acc; simp only [List.map_cons, List.foldl_cons]; rw [show acc.toArray ++ (#[] : Array Nat) ++ x.toArray = (acc ++ x).toArray by simp]; rw [ih]; simp
theorem glued_nil (ls : List (List Nat)) : Builtin.Str.glued ⟨#[]⟩ (ls.map (fun x => (⟨x.toArray⟩ : Str))) = ⟨ls.flatten.toArray⟩ := by
  unfold Builtin.Str.glued
  cases ls with
  | nil => rfl
  | cons x ls =>
    simp only [List.map_cons, List.drop_succ_cons, List.drop_zero, List.headD_cons]
    rw [glue_acc ls x]; rfl
theorem len_sum (ls : List (List Nat)) : ∀ n : Nat, (ls.map (fun x => (⟨x.toArray⟩ : Str))).foldl (· + ·.length + (⟨#[]⟩ : Str).length) n = n + ls.flatten.length := by
  induction ls with
  | nil => intro n; simp
  | cons x ls ih => intro n; simp only [List.map_cons, List.foldl_cons]; rw [ih]; simp [Str.length]; omega

theorem con_join {cx : Cx} {k : Nat} : Con cx k (.builtin "str.join") joinF := fun A V s ds vs r hA hV hb ra h => by
  unfold joinF at h
  split at h
  · rename_i es
    rw [Option.bind_eq_some_iff] at h
    obtain ⟨ls, hls, h⟩ := h
    split at h
    · rename_i hz
      cases h
      rw [RdAll] at ra; obtain ⟨v, l1, rfl, ra, rb⟩ := ra
      rw [RdAll] at rb; obtain ⟨v2, l2, rfl, rb, rc⟩ := rb
      rw [RdAll] at rc; subst rc
      rw [Rd] at ra; obtain ⟨t1, rfl, _, _⟩ := ra
      rw [Rd] at rb; obtain ⟨a, us, n, rfl, ho, _, _, rb⟩ := rb
      obtain ⟨l, e1, e2, e3⟩ := strs_read rb hls
      have hus : us = (strValues l).toArray := by rw [← e1]
      refine W.of_any (SC.join (l := l) ⟨_, ho, rfl, n, by rw [hus]⟩ e2 ?_ fun t' k => ⟨Ext.toks _, ?_⟩)
      · unfold JoinOk
        rw [List.foldl_toArray, len_sum, Nat.zero_add]
        unfold Builtin.Str.tooLong
        simpa using hz
      · have : Txt.join ⟨([] : List Nat).toArray⟩ (ls.map (fun x => (⟨x.toArray⟩ : Str))) = ⟨ls.flatten.toArray⟩ := glued_nil ls
        rw [this]
        exact rd_str e3 hz
    · cases h
  · cases h
end Mine

end
section
open PySem PySem.W PySem.Calls PyProof.Rows
set_option Elab.async false
set_option maxRecDepth 100000
namespace Mine
open Sem (wp)

noncomputable def opIAdd : D → D → Option D
  | .int a, .int b => some (.int (a + b))
  | .str a, .str b => if a.length + b.length ≤ sizeLine then some (.str (a ++ b)) else none
  | _, _ => none
noncomputable def AugOk (op : Operator) (F : D → D → Option D) : Prop :=
  ∀ (cx : Cx) (A : Around) (V : Avd) (s : Shared) (a b : D) (x y : Value) (r : D), Rd cx s.heap V a x → Rd cx s.heap V b y → F a b = some r →
    W cx.prog cx.w A (inplaceOp op x y) (fun v s' => Ext s s' ∧ Rd cx s'.heap V r v) s
theorem aug_add : AugOk .Add opIAdd := fun cx A V s a b x y r ra rb h => by
  unfold opIAdd at h
  split at h
  · cases h; rw [Rd] at ra rb; obtain ⟨t, rfl⟩ := ra; obtain ⟨u, rfl⟩ := rb
    exact W.of_any (wpAny_iadd_int ⟨Ext.toks _, by rw [Rd]; exact ⟨_, rfl⟩⟩)
  · rename_i p q
    split at h
    · rename_i hz
      cases h; rw [Rd] at ra rb; obtain ⟨t, rfl, h1, z1⟩ := ra; obtain ⟨u, rfl, h2, z2⟩ := rb
      have hr : ∀ t, Rd cx s.heap V (.str (p ++ q)) (.str (⟨p.toArray⟩ ++ ⟨q.toArray⟩) t) := fun t => by
        rw [str_append]
        exact rd_str (fun c hc => (List.mem_append.mp hc).elim (h1 c) (h2 c)) (by rw [List.length_append]; exact hz)
      exact W.of_any (iadd_str (fun t' tk => ⟨Ext.toks _, hr t'⟩) (by rw [str_len, str_len]; exact hz))
    · cases h
  · cases h
noncomputable def augS (i : Nat) (F : D → D → Option D) (g : Rho → Option D) : Rho → Option (Out × Rho) := fun ρ => (vE i ρ).bind fun a => (g ρ).bind fun b => (F a b).map fun c => (.next, ρ.set i (.val c))
theorem s1_aug {J : Jd} {x : Str} {p pos : Pos} {op : Operator} {value : PySem.Expr} {i : Nat} {F : D → D → Option D} {g : Rho → Option D} (hF : AugOk op F) (hv : SE J value g) (ht : J.tab[i]? = some (some x) := by rfl) (hf : J.sc.names.lookup x ≠ some .free := by decide)
    (hd : (x == ("__classdict__" : Str)) = false := by decide) : S1 J (.AugAssign (.Name x p) op value pos) (augS i F g) := fun A env P O vm s ρ out ρ' hA Fr h => by
  unfold augS at h
  rw [Option.bind_eq_some_iff] at h
  obtain ⟨a, ha, h⟩ := h
  rw [Option.bind_eq_some_iff] at h
  obtain ⟨b, hb, h⟩ := h
  rw [Option.map_eq_some_iff] at h
  obtain ⟨c, hc, h⟩ := h
  cases h
  rw [exec_AugAssign_Name]
  unfold vE at ha
  split at ha
  · rename_i d' hr
    cases ha
    obtain ⟨v, hvv, r⟩ := Fr.slots i x _ ht hr
    refine W.bind (W.standAt (W.bind (Fr.load ht hvv ?_ hd)))
    refine W.bind (W.holding (W.mono (hv A env P O vm s ρ b hA Fr hb) fun y s₁ ⟨X1, r1⟩ => ?_))
    refine W.bind (W.standAt (W.bind (W.operate (W.mono (hF J.cx A (Av env P O) s₁ _ b v y c (r.keep X1.keep) r1 hc) fun z s₂ ⟨X2, r2⟩ => ?_))))
    refine W.bind (W.standAt (W.bind ?_))
    unfold bindName
    have X := X1.trans X2
    exact W.bind (W.holding (W.point (W.bind ((Fr.ext X).store ht (fun e => hf e) r2 fun s' F' T' => W.point (W.pure ⟨rfl, _, _, F', X.tr.trans T'⟩)))))
  · cases ha
end Mine

end
section
open PySem PySem.W PySem.Calls PyProof.Rows
set_option Elab.async false
set_option maxRecDepth 100000
namespace Mine

/-! the rules again, their side conditions by rfl -/
section
variable {J : Jd}
theorem le_of_ble {k n : Nat} (h : Nat.ble k n = true) : k ≤ n := Nat.le_of_ble_eq_true h
theorem ne_of_beqf {a b : Option NameKind} (h : (a == b) = false) : a ≠ b := fun e => by rw [e] at h; simp at h

theorem x_name {x : Str} {pos : Pos} (i : Nat) (ht : J.tab[i]? = some (some x) := by rfl) (hf : (J.sc.names.lookup x == some .free) = false := by rfl) : SA J (.Name x pos) (nameA i) := sa_name ht (ne_of_beqf hf)
theorem x_var {x : Str} {pos : Pos} (i : Nat) (ht : J.tab[i]? = some (some x) := by rfl) (hd : (x == ("__debug__" : Str) || x == ("__classdict__" : Str)) = false := by rfl) : SE J (.Name x pos) (vE i) := se_var ht hd
theorem x_call {fn : Str} {fv : Value} {p pos : Pos} {es : List PySem.Expr} {F : List D → Option D} {g : Rho → Option (List D)} {k : Nat} (hc : Con J.cx k fv F) (hv : (J.cx.mg fn).or (J.cx.mb fn) = some fv) (hkeep : KeepOk fv J.cx.h₁) (hes : SEs J es g)
    (hk : Nat.ble k J.k = true := by rfl) (hl : J.sc.names.lookup fn = some .globalImplicit := by rfl) (hst : es.any isStarred = false := by rfl) (hlen : Nat.ble es.length 30 = true := by rfl) (hdb : (fn == ("__debug__" : Str)) = false := by rfl) :
    SE J (.Call (.Name fn p) es [] pos) (callE F g) := se_call hc hes hv hkeep (le_of_ble hk) hl hst (le_of_ble hlen) hdb
theorem x_meth {o : PySem.Expr} {name : Str} {id : String} {apos pos : Pos} {es : List PySem.Expr} {f : Rho → Option D} {g : Rho → Option (List D)} {p : D → Bool} {F : List D → Option D} (hg : GetOk name id p) (hc : Con J.cx 0 (.builtin id) F) (ho : SE J o f) (hes : SEs J es g)
    (hs : notSuperCall o = true := by rfl) (hst : es.any isStarred = false := by rfl) (hlen : Nat.ble (es.length + 1) 29 = true := by rfl) (hp : apos.endLine = pos.line := by rfl) :
    SE J (.Call (.Attribute o name apos) es [] pos) (methE p F f g) := se_method hg hc ho hes (Nat.zero_le _) hs hst (le_of_ble hlen) hp
theorem x_aug {x : Str} {p pos : Pos} {op : Operator} {value : PySem.Expr} {F : D → D → Option D} {g : Rho → Option D} (i : Nat) (hF : AugOk op F) (hv : SE J value g) (ht : J.tab[i]? = some (some x) := by rfl) (hf : (J.sc.names.lookup x == some .free) = false := by rfl)
    (hd : (x == ("__classdict__" : Str)) = false := by rfl) : S1 J (.AugAssign (.Name x p) op value pos) (augS i F g) := s1_aug hF hv ht (ne_of_beqf hf) hd
theorem x_own {x : Str} {p pos : Pos} {value : PySem.Expr} {f : Rho → Option (List D)} (i : Nat) (hv : SEF J value f) (hc : notComp value = true := by rfl) (ht : J.tab[i]? = some (some x) := by rfl) (hf : (J.sc.names.lookup x == some .free) = false := by rfl) :
    S1 J (.Assign [.Name x p] value pos) (ownS i f) := s1_own hv hc ht (ne_of_beqf hf)
theorem x_sep {tgt e : PySem.Expr} {fn : Str} {fv : Value} {p pos : Pos} {ct : Addr} {k : Nat} {f : Rho → Option D} (hc : ConI J.cx ct k fv) (hp : PatAt J.cx.h₁ J.cx.pat ct) (hv : (J.cx.mg fn).or (J.cx.mb fn) = some fv) (hkeep : KeepOk fv J.cx.h₁) (he : SE J e f)
    (hk : Nat.ble k J.k = true := by rfl) (hl : J.sc.names.lookup fn = some .globalImplicit := by rfl) (hst : isStarred e = false := by rfl) (hdb : (fn == ("__debug__" : Str)) = false := by rfl) :
    SI J tgt (.Call (.Name fn p) [e] [] pos) (itE asPieces f) := si_sep hc hp he hv hkeep (le_of_ble hk) hl hst hdb

noncomputable def nodupB : List Str → Bool
  | [] => true
  | x :: r => !r.contains x && nodupB r
theorem nodupB_ok : ∀ {l : List Str}, nodupB l = true → l.Nodup
  | [], _ => .nil
  | x :: r, h => by
    unfold nodupB at h
    rw [Bool.and_eq_true] at h
    rw [List.nodup_cons]
    refine ⟨fun hm => ?_, nodupB_ok h.2⟩
    have := h.1
    simp [hm] at this
noncomputable def compOkB (tab : List (Option Str)) (sc scope : Scope) (vars : List Str) : Bool :=
  nodupB (scope.names.map (·.1)) && (scope.names.all fun x => !(x.2 == .cell)) && (scope.names.all fun x => !(x.2 == .free) || (tab.contains (some x.1) && !(sc.names.lookup x.1 == some .local))) && (vars.all fun x => scope.names.lookup x == some .local) && nodupB vars
theorem x_cs {scope : Scope} {vars : List Str} (hk : scope.kind = .function := by rfl) (h : compOkB J.tab J.sc scope vars = true := by rfl) : CompSc J scope vars := by
  unfold compOkB at h
  simp only [Bool.and_eq_true, List.all_eq_true] at h
  obtain ⟨⟨⟨⟨h1, h2⟩, h3⟩, h4⟩, h5⟩ := h
  refine ⟨hk, nodupB_ok h1, fun x hx e => ?_, fun x hx e => ?_, fun x hx => ?_, nodupB_ok h5⟩
  · have := h2 x hx
    rw [e] at this
    simp at this
  · have := h3 x hx
    rw [e] at this
    simp at this
    refine ⟨this.1, fun e' => ?_⟩
    have := this.2
    simp [e'] at this
  · have := h4 x hx
    simpa using this
theorem x_comp {scope : Scope} {elt tgt iter : PySem.Expr} {ifs : List PySem.Expr} {pos : Pos} {g : D → Rho → Option Rho} {t : Rho → Option Bool} {fe : Rho → Option D} {f : Rho → Option (List D)} (vars : List Str) (cs : CompSc J scope vars) (hi : SI J tgt iter f) (ht : SAL (Jc J scope vars) tgt g) (hts : TsOk (Jc J scope vars) ifs t) (he : SE (Jc J scope vars) elt fe) :
    SEF J (.ListComp elt [⟨tgt, iter, ifs, 0⟩] scope pos) (compF vars f g t (emE fe)) := sef_comp cs turn_one hi ht hts (em_last he)
theorem x_lname {x : Str} {pos : Pos} (i : Nat) (ht : J.tab[i]? = some (some x) := by rfl) (hl : J.sc.names.lookup x = some .local := by rfl) : SAL J (.Name x pos) (nameA i) := sal_name ht hl
theorem x_str {x : Str} {k pos} (l : List Nat) (e : x = ⟨l.toArray⟩ := by rfl) (h1 : (l.all (· < 0x110000) && decide (l.length ≤ 1000)) = true := by rfl) : SE J (.Constant (.str x) k pos) (cE (.str l)) := se_str e h1
end
end Mine

end
section
open PySem PySem.W PySem.Calls PyProof.Rows
set_option Elab.async false
set_option maxRecDepth 100000
namespace Mine

theorem ints_of_items {R : WRecords} : ∀ {xs : List WData}, WShape.hasItems R xs .int = true → ∃ ns : List Int, xs = ns.map WData.int
  | [], _ => ⟨[], rfl⟩
  | x :: xs, h => by
    rw [WShape.hasItems, Bool.and_eq_true] at h
    obtain ⟨ns, rfl⟩ := ints_of_items h.2
    have h1 := h.1
    cases x with
    | int i => exact ⟨i :: ns, rfl⟩
    | _ => simp [WShape.has, WShape.arms] at h1
theorem script_shape {R : WRecords} {args : List WData} (h : WShape.hasAll R args [.list .int] = true) : ∃ ns : List Int, args = [.list (ns.map WData.int)] := by
  obtain ⟨d, r, rfl, h1, h2⟩ := hasAllW_cons h
  have := hasAllW_nil h2
  subst this
  cases d with
  | list xs =>
    simp only [WShape.has, WShape.arms, List.any_cons, List.any_nil, Bool.or_false] at h1
    obtain ⟨ns, rfl⟩ := ints_of_items h1
    exact ⟨ns, rfl⟩
  | _ => simp [WShape.has, WShape.arms] at h1

theorem rd_ints {cx : Cx} {P : Params} {h : Heap} {V : Avd} : ∀ {ns : List Int} {vs : List Value}, WellAll P h vs (ns.map WData.int) → RdAll cx h V (ns.map D.int) vs
  | [], vs, w => by cases w; exact RdAll.nil
  | n :: ns, vs, w => by
    cases w with
    | cons w1 w2 =>
      refine RdAll.cons ?_ (rd_ints w2)
      cases w1
      rw [Rd]
      exact ⟨_, rfl⟩

noncomputable abbrev A0 : Around := { handled := none, depth := 301, units := 4 }
theorem rl : recursionLimit = 1000 := by decide
theorem cl_line : cLine = 9900 := by decide
theorem caller_in : callerG.In A0 := ⟨rfl, by decide, fun l h => (nomatch h : False).elim, fun g h => (nomatch h : False).elim, by decide⟩

/-- the end of a law's walk -/
theorem law_end {l : OpenLaw} (hm : l.most = some 63) (hbn : l.bound = none) {s₀ s₁ : Shared} {cx : Cx} (hh : cx.h₁ = s₁.heap) (hpr : cx.prog = l.row.toRowW.prog) {a : Addr} {k : Nat} {F : List D → Option D} (hc : Con cx k (.ref a) F) (hk : k ≤ 600)
    (hF : ∀ ns : List Int, ns.length ≤ 63 → F [.list (ns.map .int)] = some (.bool true)) (hg : s₁.gens = #[]) (htk : 0 < s₁.toks) {args : List WData} {vals : List Value} (hpre : l.row.toRowW.claim.pre args = true) (hwl : WellAll cx.w.params s₁.heap vals args) :
    Sem.wp (Mg l.row.toRowW.prog cx.w) callerG (PySem.call (.ref a) vals) (fun v _ s' => GoodWG l.row.toRowW.claim (classAt s₀.heap) (ExcName.means s₀.heap) args s₁ (.ok (.ret v)) s') (fun _ _ _ => False) default s₁ := by
  obtain ⟨h1, h2⟩ := pre_splitW hpre
  obtain ⟨ns, rfl⟩ := script_shape h1
  have hn : ns.length ≤ 63 := by
    have e : l.row.toRowW.pre = .and (.not (.lt (.lit (.int 63)) (.len (.arg 0)))) (.lit (.bool true)) := by
      show l.pre = _
      unfold OpenLaw.pre
      rw [hm, hbn]
      rfl
    rw [e] at h2
    simp [WTm.holds, WTm.value] at h2
    have e2 : less? (WData.int 63) (WData.int (ns.length : Nat)) = some (decide ((63 : Int) < (ns.length : Nat))) := by
      first | rfl | simp [less?]
    rw [e2] at h2
    rcases Nat.lt_or_ge 63 ns.length with hgt | hle
    · rw [decide_eq_true (by omega)] at h2
      simp at h2
    · exact hle
  cases hwl with
  | cons w1 w2 =>
    cases w2
    cases w1 with
    | list ho hi =>
      rename_i b vs
      have hr := rd_ints (cx := cx) (V := fun _ => False) hi
      have hl := hr.length
      rw [List.length_map] at hl
      have hsz := szl
      have hra : RdAll cx s₁.heap (fun _ => False) [.list (ns.map .int)] [.ref b] := RdAll.cons (by
        rw [Rd]
        exact ⟨b, vs.toArray, 0, rfl, ho, id, by simp; omega, hr⟩) RdAll.nil
      have hw := hc A0 (fun _ => False) s₁ [.list (ns.map .int)] [.ref b] (.bool true) ⟨rfl, by rw [rl]; show 301 + k < 1000; omega, by rw [cl_line]; show 4 + 8 * k + 200 < 9900; omega⟩ (fun _ h => h.elim) (by rw [← hh]; exact ⟨Nat.le_refl _, fun _ _ e => e⟩) hra (hF ns hn)
      rw [hpr] at hw
      refine Sem.wp_mono _ _ _ (fun v p' s' h => ?_) (fun _ _ _ x => x) _ _ (hw htk callerG default caller_in clean_caller)
      obtain ⟨X, r⟩ := h
      rw [Rd] at r
      subst r
      refine ⟨.inl ⟨_, .bool true, [], rfl, fun cls => by rfl, .bool true, ?_, fun _ => ⟨List.nodup_nil, fun _ h => nomatch h⟩⟩, .of_keep X.keep, X.os, .of_eq (X.gens.trans hg)⟩
      show (WShape.has [] (.bool true) .bool && WTm.holds [] (.eq .res (.lit (.bool true))) { args := [WData.list (List.map WData.int ns)], res := some (.bool true), after := [WData.list (List.map WData.int ns)] }) = true
      have e3 : same (WData.bool true) (WData.bool true) = true := by first | rfl | decide | simp [same]
      simp [WShape.has, WShape.arms, WTm.holds, WTm.value, e3]
end Mine

end
section
open PySem PySem.W PySem.Calls PyProof.Rows
set_option Elab.async false
set_option maxRecDepth 100000
namespace Mine

/-! the first place of a sign -/
/-! equality of plain data -/
theorem flat_str (a : List Nat) : flatD (.str a) = true := by simp [flatD, pureD, toPy, PyData.depth]
theorem flat_int (a : Int) : flatD (.int a) = true := by simp [flatD, pureD, toPy, PyData.depth]
theorem deq_str (a b : List Nat) : deq (.str a) (.str b) = decide (a = b) := by
  simp only [deq, toPy, PyData.eqv]
  rw [Bool.eq_iff_iff]; simp
theorem deq_int (a b : Int) : deq (.int a) (.int b) = decide (a = b) := by
  simp only [deq, toPy, PyData.eqv]
  rw [Bool.eq_iff_iff]; simp
theorem eq_str (a b : List Nat) : opEq (.str a) (.str b) = some (decide (a = b)) := by simp [opEq, flat_str, deq_str]
theorem eq_int (a b : Int) : opEq (.int a) (.int b) = some (decide (a = b)) := by simp [opEq, flat_int, deq_int]
/-! cuts at plain places -/
theorem clip_nat (n k : Nat) : clipAt n (k : Int) = min k n := by unfold clipAt; split <;> omega
theorem cut_from {α : Type} (l : List α) (k : Nat) : cut l (some (k : Int)) none = l.drop k := by
  unfold cut
  simp only [Option.elim, clip_nat]
  rw [List.take_of_length_le (by rw [List.length_drop]; omega)]
  rcases Nat.le_total k l.length with h | h
  · rw [Nat.min_eq_left h]
  · rw [Nat.min_eq_right h, List.drop_of_length_le h, List.drop_of_length_le (Nat.le_refl _)]
theorem cut_to {α : Type} (l : List α) (k : Nat) : cut l none (some (k : Int)) = l.take k := by
  unfold cut
  simp only [Option.elim, clip_nat, List.drop_zero, Nat.sub_zero]
  rcases Nat.le_total k l.length with h | h
  · rw [Nat.min_eq_left h]
  · rw [Nat.min_eq_right h, List.take_of_length_le h, List.take_of_length_le (Nat.le_refl _)]
theorem seqIndex_nat (k n : Nat) (h : k < n) : seqIndex? (k : Int) n = some k := by
  have h0 : ¬ (k : Int) < 0 := by omega
  simp only [seqIndex?, if_neg h0]
  rw [if_pos (by first | omega | (simp; omega))]; simp
theorem item_str (l : List Nat) (k : Nat) (h : k < l.length) : opItem (.str l) (.int (k : Int)) = some (.str [l[k]]) := by
  simp [opItem, seqIndex_nat k _ h, h]
theorem item_tup (l : List D) (k : Nat) (h : k < l.length) : opItem (.tup l) (.int (k : Int)) = some l[k] := by
  simp [opItem, seqIndex_nat k _ h, h]

/-! what the pattern finds -/
theorem seqS_next {f g : Rho → Option (Out × Rho)} {ρ ρ' : Rho} (h : f ρ = some (.next, ρ')) : seqS f g ρ = g ρ' := by rw [seqS, h]; rfl
theorem seqS_ret {f g : Rho → Option (Out × Rho)} {ρ ρ' : Rho} {d : D} (h : f ρ = some (.ret d, ρ')) : seqS f g ρ = some (.ret d, ρ') := by rw [seqS, h]; rfl
theorem loopS_next {g : D → Rho → Option Rho} {b : Rho → Option (Out × Rho)} {d : D} {ds : List D} {ρ ρ1 ρ2 : Rho} (h1 : g d ρ = some ρ1) (h2 : b ρ1 = some (.next, ρ2)) : loopS g b (d :: ds) ρ = loopS g b ds ρ2 := by rw [loopS, h1, Option.bind_some, h2]; rfl

/-! comprehensions by one name -/
theorem loopC_name {i : Nat} {t : Rho → Option Bool} {f : Rho → Option D} {F : D → D} {T : D → Bool} {ρ0 : Rho} : ∀ {ds : List D} {ρ : Rho}, (∀ x, ρ.set i x = ρ0.set i x) → (∀ d ∈ ds, t (ρ0.set i (.val d)) = some (T d)) → (∀ d ∈ ds, T d = true → f (ρ0.set i (.val d)) = some (F d)) →
    ∃ ρ', loopC (nameA i) t (emE f) ds ρ = some ((ds.filter T).map F, ρ')
  | [], ρ, _, _, _ => ⟨ρ, rfl⟩
  | d :: ds, ρ, h0, h1, h2 => by
    obtain ⟨ρ', ih⟩ := loopC_name (i := i) (t := t) (f := f) (F := F) (T := T) (ρ0 := ρ0) (ds := ds) (ρ := ρ0.set i (.val d)) (fun x => by rw [List.set_set]) (fun d hd => h1 d (List.mem_cons_of_mem _ hd)) (fun d hd => h2 d (List.mem_cons_of_mem _ hd))
    refine ⟨ρ', ?_⟩
    rw [loopC, nameA, Option.bind_some, h0, h1 d (List.mem_cons_self ..), Option.bind_some]
    cases hT : T d with
    | false => rw [if_neg (by simp), ih, List.filter_cons_of_neg (by simp [hT])]
    | true =>
      rw [if_pos rfl, emE, h2 d (List.mem_cons_self ..) hT, List.filter_cons_of_pos hT]
      simp [ih]
end Mine

end
section
open PySem PySem.W PySem.Calls PyProof.Rows
set_option Elab.async false
set_option maxRecDepth 100000
set_option linter.unusedSimpArgs false
namespace Mine

/-! the pieces of a text, as texts with their group -/
noncomputable def parse : Nat → List Nat → List (List Nat × Nat)
  | 0, _ => []
  | _ + 1, [] => []
  | f + 1, c :: r => if c ≠ 91 then (c :: r.takeWhile (· != 91), 1) :: parse f (r.dropWhile (· != 91))
    else match closeAt r with
      | some k => (91 :: r.take (k + 1), 2) :: parse f (r.drop (k + 1))
      | none => if 93 ∈ r then parse f r else [(91 :: r, 3)]
noncomputable def toks (l : List Nat) : List (List Nat × Nat) := parse (l.length + 1) l

theorem tw_len {p : Nat → Bool} : ∀ t : List Nat, (t.takeWhile p).length + (t.dropWhile p).length = t.length
  | [] => rfl
  | x :: t => by
    have := tw_len (p := p) t
    by_cases h : p x = true
    · simp [h]; omega
    · simp [h]
theorem take_tw {p : Nat → Bool} : ∀ t : List Nat, t.take (t.takeWhile p).length = t.takeWhile p
  | [] => rfl
  | x :: t => by
    by_cases h : p x = true
    · simp [h, take_tw t]
    · simp [h]
theorem drop_tw {p : Nat → Bool} : ∀ t : List Nat, t.drop (t.takeWhile p).length = t.dropWhile p
  | [] => rfl
  | x :: t => by
    by_cases h : p x = true
    · simp [h, drop_tw t]
    · simp [h]
theorem closeAt_lt : ∀ (t : List Nat) (k : Nat), closeAt t = some k → k < t.length
  | [], k, h => by simp [closeAt] at h
  | c :: r, k, h => by
    unfold closeAt at h
    split at h
    · simp at h; subst h; simp
    · split at h
      · cases h
      · rw [Option.map_eq_some_iff] at h
        obtain ⟨j, hj, rfl⟩ := h
        have := closeAt_lt r j hj
        simp; omega

noncomputable abbrev rdT (l : List Nat) (x : Nat × Nat × Nat) : List Nat × Nat := ((l.drop x.1).take (x.2.1 - x.1), x.2.2)
theorem all_parse {l : List Nat} : ∀ (f' : Nat) (r : List Nat) (s f : Nat), l.drop s = r → r.length < f → r.length < f' → (allFrom f l s).map (rdT l) = parse f' r
  | 0, r, s, f, _, _, h => absurd h (Nat.not_lt_zero _)
  | f' + 1, [], s, f, hd, hf, _ => by
    cases f with
    | zero => rfl
    | succ f => rw [allFrom, hd]; rfl
  | f' + 1, c :: r, s, f, hd, hf, hf' => by
    cases f with
    | zero => exact absurd hf (Nat.not_lt_zero _)
    | succ f =>
      simp only [List.length_cons] at hf hf'
      have hd1 : l.drop (s + 1) = r := by rw [← List.drop_drop, hd]; rfl
      rw [allFrom, hd, parse, findM]
      by_cases hc : c = 91
      · subst hc
        simp only [ne_eq, not_true_eq_false, if_false]
        cases hk : closeAt r with
        | some k =>
          have hkl := closeAt_lt r k hk
          have hd2 : l.drop (s + k + 2) = r.drop (k + 1) := by rw [show s + k + 2 = (s + 1) + (k + 1) by omega, ← List.drop_drop, hd1]
          dsimp only
          rw [List.map_cons, all_parse f' (r.drop (k + 1)) (s + k + 2) f hd2 (by rw [List.length_drop]; omega) (by rw [List.length_drop]; omega)]
          simp only [rdT, hd]
          rw [show s + k + 2 - s = (k + 1) + 1 by omega, List.take_succ_cons]
        | none =>
          dsimp only
          by_cases hm : 93 ∈ r
          · rw [if_pos hm, if_pos hm, ← all_parse f' r (s + 1) (f + 1) hd1 (by omega) (by omega), allFrom, hd1]
          · rw [if_neg hm, if_neg hm]
            have : allFrom f l (s + 1 + r.length) = [] := by
              cases f with
              | zero => rfl
              | succ f => rw [allFrom, ← List.drop_drop, hd1, List.drop_length]; rfl
            dsimp only
            rw [List.map_cons, this]
            simp only [rdT, hd, List.map_nil]
            rw [show s + 1 + r.length - s = (91 :: r).length by simp; omega, List.take_length]
      · rw [if_pos hc, if_pos hc]
        have hd2 : l.drop (s + 1 + (r.takeWhile (· != 91)).length) = r.dropWhile (· != 91) := by rw [← List.drop_drop, hd1, drop_tw]
        have hl := tw_len (p := (· != 91)) r
        dsimp only
        rw [List.map_cons, all_parse f' _ _ f hd2 (by omega) (by omega)]
        simp only [rdT, hd]
        rw [show s + 1 + (r.takeWhile (· != 91)).length - s = (r.takeWhile (· != 91)).length + 1 by omega, List.take_succ_cons, take_tw]
theorem parse_eq {f f' : Nat} {r : List Nat} (h : r.length < f) (h' : r.length < f') : parse f r = parse f' r := by
  rw [← all_parse (l := r) f r 0 (r.length + 1) rfl (by omega) h, all_parse (l := r) f' r 0 (r.length + 1) rfl (by omega) h']
theorem toks_of {f : Nat} {r : List Nat} (h : r.length < f) : parse f r = toks r := parse_eq h (Nat.lt_succ_self _)

theorem toks_nil : toks [] = [] := rfl
theorem toks_run {c : Nat} {r : List Nat} (h : c ≠ 91) : toks (c :: r) = (c :: r.takeWhile (· != 91), 1) :: toks (r.dropWhile (· != 91)) := by
  unfold toks
  rw [parse, if_pos h, toks_of (by have := tw_len (p := (· != 91)) r; simp; omega)]; rfl
theorem toks_set {r : List Nat} {k : Nat} (h : closeAt r = some k) : toks (91 :: r) = (91 :: r.take (k + 1), 2) :: toks (r.drop (k + 1)) := by
  unfold toks
  rw [parse, if_neg (by simp), h]
  dsimp only
  rw [toks_of (by simp; omega)]; rfl
theorem toks_skip {r : List Nat} (h : closeAt r = none) (hm : 93 ∈ r) : toks (91 :: r) = toks r := by
  rw [toks, parse, if_neg (by simp), h]
  dsimp only
  rw [if_pos hm, toks_of (by simp)]
theorem toks_open {r : List Nat} (h : closeAt r = none) (hm : 93 ∉ r) : toks (91 :: r) = [(91 :: r, 3)] := by
  rw [toks, parse, if_neg (by simp), h]
  dsimp only
  rw [if_neg hm]

/-! the matches, read -/
inductive ReadAs (l : List Nat) : List D → List (List Nat × Nat) → Prop
  | nil : ReadAs l [] []
  | cons {b e g : Nat} {p : List Nat} {ms : List D} {ps : List (List Nat × Nat)} (h : (l.drop b).take (e - b) = p) (r : ReadAs l ms ps) : ReadAs l (.mat l b e g :: ms) ((p, g) :: ps)
theorem readAs_map (l : List Nat) : ∀ xs : List (Nat × Nat × Nat), ReadAs l (xs.map fun x => .mat l x.1 x.2.1 x.2.2) (xs.map (rdT l))
  | [] => .nil
  | x :: xs => .cons rfl (readAs_map l xs)
theorem readAs_mats (l : List Nat) : ReadAs l (matsOf l) (toks l) := by
  have h := readAs_map l (allM l)
  rw [allM, all_parse (l.length + 1) l 0 (l.length + 1) rfl (Nat.lt_succ_self _) (Nat.lt_succ_self _)] at h
  exact h
theorem group_whole {l p : List Nat} {b e g : Nat} (h : (l.drop b).take (e - b) = p) : groupF [.mat l b e g, .int 0] = some (.str p) := by
  simp [groupF, groupD, h]
theorem group_set {l p : List Nat} {b e g : Nat} (h : (l.drop b).take (e - b) = p) : groupF [.mat l b e g, .str [115, 101, 116]] = some (if g = 2 then .str p else .none) := by
  simp [groupF, groupD, setName, h, eq_comm]
end Mine

end
section
open PySem PySem.W PySem.Calls PyProof.Rows
set_option Elab.async false
set_option maxRecDepth 100000
set_option linter.unusedSimpArgs false
namespace Mine

/-! equality of a datum with itself -/
mutual
theorem deq_self : ∀ d : D, pureD d = true → PyData.eqv (toPy d) (toPy d) = true
  | .none, _ => by simp [toPy, PyData.eqv]
  | .bool _, _ => by simp [toPy, PyData.eqv]
  | .int _, _ => by simp [toPy, PyData.eqv]
  | .str _, _ => by simp [toPy, PyData.eqv]
  | .list ds, h => by rw [toPy, PyData.eqv]; exact deqs_self ds (by rw [pureD] at h; exact h)
  | .tup ds, h => by rw [toPy, PyData.eqv]; exact deqs_self ds (by rw [pureD] at h; exact h)
  | .mat .., h => by rw [pureD] at h; cases h
  | .inst _, h => by rw [pureD] at h; cases h
theorem deqs_self : ∀ ds : List D, pureDs ds = true → PyData.eqvAll (toPys ds) (toPys ds) = true
  | [], _ => by simp [toPys, PyData.eqvAll]
  | d :: ds, h => by
    rw [pureDs, Bool.and_eq_true] at h
    rw [toPys, PyData.eqvAll, deq_self d h.1, deqs_self ds h.2]; rfl
end
theorem eq_self {d : D} (h : flatD d = true) : opEq d d = some true := by
  have hp : pureD d = true := (Bool.and_eq_true _ _ ▸ h : pureD d = true ∧ _).1
  unfold opEq deq
  rw [h, deq_self d hp]; rfl
theorem ne_self {d : D} (h : flatD d = true) : opNe d d = some false := by rw [opNe, eq_self h]; rfl
theorem flat_of {d : D} (h1 : pureD d = true) (h2 : (toPy d).depth ≤ 60) : flatD d = true := by
  unfold flatD; rw [h1, decide_eq_true h2]; rfl

/-! comprehensions, whole -/
theorem comp1 {x : Str} {it : Rho → Option (List D)} {i : Nat} {t : Rho → Option Bool} {f : Rho → Option D} {ρ ρ0 : Rho} {ds : List D} (F : D → D) (T : D → Bool) (h0 : rhoC [x] ρ = ρ0) (hit : it ρ = some ds)
    (ht : ∀ d ∈ ds, t (ρ0.set i (.val d)) = some (T d)) (hf : ∀ d ∈ ds, T d = true → f (ρ0.set i (.val d)) = some (F d)) (hz : ds.length ≤ 10000000) : compF [x] it (nameA i) t (emE f) ρ = some ((ds.filter T).map F) := by
  obtain ⟨ρ', hc⟩ := loopC_name (i := i) (t := t) (f := f) (F := F) (T := T) (ds := ds) (ρ0 := ρ0) (ρ := ρ0) (fun _ => rfl) ht hf
  have hsz : sizeLine = 16777216 := rfl
  have := List.length_filter_le T ds
  rw [compF, hit, Option.bind_some, h0, hc, Option.bind_some, if_pos (by simp; omega)]
theorem strsOf_strs : ∀ ls : List (List Nat), strsOf (ls.map D.str) = some ls
  | [] => rfl
  | l :: ls => by simp [strsOf, strsOf_strs ls]
theorem join_strs {ls : List (List Nat)} (h : ls.flatten.length ≤ 10000000) : joinF [.str [], .list (ls.map D.str)] = some (.str ls.flatten) := by
  have hsz : sizeLine = 16777216 := rfl
  simp only [joinF, strsOf_strs, Option.bind_some]
  rw [if_pos (by omega)]
theorem flat_ones : ∀ l : List Nat, (l.map fun c => [c]).flatten = l
  | [] => rfl
  | c :: l => by simp [flat_ones l]
theorem add_strs {a b : List Nat} (h : a.length + b.length ≤ 10000000) : opAdd (.str a) (.str b) = some (.str (a ++ b)) := by
  have hsz : sizeLine = 16777216 := rfl
  rw [opAdd, if_pos (by omega)]
/-! the forms, step by step -/
section
variable {ρ ρ' ρ'' : Rho} {a b c d r : D}
theorem setS_of {g : D → Rho → Option Rho} {f : Rho → Option D} (h : f ρ = some d) (hg : g d ρ = some ρ') : setS g f ρ = some (.next, ρ') := by rw [setS, h, Option.bind_some, hg]; rfl
theorem augS_of {i : Nat} {F : D → D → Option D} {g : Rho → Option D} (h1 : vE i ρ = some a) (h2 : g ρ = some b) (h3 : F a b = some c) (h4 : ρ.set i (.val c) = ρ') : augS i F g ρ = some (.next, ρ') := by rw [augS, h1, Option.bind_some, h2, Option.bind_some, h3, ← h4]; rfl
theorem ifS_f {t : Rho → Option Bool} {f g : Rho → Option (Out × Rho)} (h : t ρ = some false) : ifS t f g ρ = g ρ := by rw [ifS, h]; rfl
theorem ifS_t {t : Rho → Option Bool} {f g : Rho → Option (Out × Rho)} (h : t ρ = some true) : ifS t f g ρ = f ρ := by rw [ifS, h]; rfl
theorem forS_of {f : Rho → Option (List D)} {g : D → Rho → Option Rho} {bd : Rho → Option (Out × Rho)} {ds : List D} (h : f ρ = some ds) : forS f g bd ρ = loopS g bd ds ρ := by rw [forS, h]; rfl
theorem call1_of {F : List D → Option D} {f : Rho → Option D} (h : f ρ = some d) (hF : F [d] = some r) : callE F (consF f nilF) ρ = some r := by simp [callE, consF, nilF, h, hF]
theorem call2_of {F : List D → Option D} {f g : Rho → Option D} (h : f ρ = some d) (h' : g ρ = some c) (hF : F [d, c] = some r) : callE F (consF f (consF g nilF)) ρ = some r := by simp [callE, consF, nilF, h, h', hF]
theorem cmpB_of {F : D → D → Option Bool} {f g : Rho → Option D} {x : Bool} (h1 : f ρ = some a) (h2 : g ρ = some b) (h3 : F a b = some x) : cmpB F f g ρ = some x := by rw [cmpB, h1, Option.bind_some, h2, Option.bind_some, h3]
theorem binE_of {F : D → D → Option D} {f g : Rho → Option D} (h1 : f ρ = some a) (h2 : g ρ = some b) (h3 : F a b = some r) : binE F f g ρ = some r := by rw [binE, h1, Option.bind_some, h2, Option.bind_some, h3]
theorem andB_of {f g : Rho → Option Bool} {x y : Bool} (h1 : f ρ = some x) (h2 : g ρ = some y) : andB f g ρ = some (x && y) := by rw [andB, h1, Option.bind_some]; cases x <;> simp [h2]
theorem tup3_of {f g h : Rho → Option D} (h1 : f ρ = some a) (h2 : g ρ = some b) (h3 : h ρ = some c) : tupE (consF f (consF g (consF h nilF))) ρ = some (.tup [a, b, c]) := by simp [tupE, consF, nilF, h1, h2, h3]
theorem retS_of {f : Rho → Option D} (h : f ρ = some d) : retS f ρ = some (.ret d, ρ) := by rw [retS, h]; rfl
theorem runF_of {n m : Nat} {g : Rho → Option (Out × Rho)} {ds : List D} (h : ds.length = n) (hg : g (ds.map .val ++ List.replicate m .unb) = some (.ret r, ρ')) : runF n m g ds = some r := by rw [runF, if_pos h, hg]; rfl
end

/-- the block gives back r -/
noncomputable def Ret (g : Rho → Option (Out × Rho)) (ρ : Rho) (r : D) : Prop := ∃ ρ', g ρ = some (.ret r, ρ')
theorem Ret.next {f g : Rho → Option (Out × Rho)} {ρ ρ1 : Rho} {r : D} (h : f ρ = some (.next, ρ1)) (h2 : Ret g ρ1 r) : Ret (seqS f g) ρ r := let ⟨ρ', e⟩ := h2; ⟨ρ', (seqS_next h).trans e⟩
theorem Ret.stop {f g : Rho → Option (Out × Rho)} {ρ : Rho} {r : D} (h : Ret f ρ r) : Ret (seqS f g) ρ r := let ⟨ρ', e⟩ := h; ⟨ρ', seqS_ret e⟩
theorem Ret.of {f : Rho → Option D} {ρ : Rho} {r : D} (h : f ρ = some r) : Ret (retS f) ρ r := ⟨ρ, retS_of h⟩
theorem Ret.frz {i : Nat} {g : Rho → Option (Out × Rho)} {ρ ρ1 : Rho} {r : D} {xs : List D} (h1 : ρ[i]? = some (.own xs)) (h2 : ρ.set i (.val (.list xs)) = ρ1) (h : Ret g ρ1 r) : Ret (frzS i g) ρ r := let ⟨ρ', e⟩ := h; ⟨ρ', by rw [frzS, h1]; dsimp only; rw [h2]; exact e⟩
theorem Ret.t {t : Rho → Option Bool} {f g : Rho → Option (Out × Rho)} {ρ : Rho} {r : D} (h : t ρ = some true) (h2 : Ret f ρ r) : Ret (ifS t f g) ρ r := let ⟨ρ', e⟩ := h2; ⟨ρ', (ifS_t h).trans e⟩
theorem Ret.f {t : Rho → Option Bool} {f g : Rho → Option (Out × Rho)} {ρ : Rho} {r : D} (h : t ρ = some false) (h2 : Ret g ρ r) : Ret (ifS t f g) ρ r := let ⟨ρ', e⟩ := h2; ⟨ρ', (ifS_f h).trans e⟩
theorem runF_ret {n m : Nat} {g : Rho → Option (Out × Rho)} {ds : List D} {r : D} (h : ds.length = n) (hg : Ret g (ds.map .val ++ List.replicate m .unb) r) : runF n m g ds = some r := let ⟨_, e⟩ := hg; runF_of h e
end Mine

end
section
open PySem PySem.W PySem.Calls PyProof.Rows
set_option Elab.async false
set_option maxRecDepth 100000
namespace Mine

/-! range(n) -/
end Mine

end
section
open PySem PySem.W PySem.Calls PyProof.Rows
set_option Elab.async false
set_option maxRecDepth 100000
namespace Mine

/-! a look at an own list -/
noncomputable def ownItemE (i : Nat) (g : Rho → Option D) : Rho → Option D := fun ρ => match ρ[i]? with | some (.own xs) => (g ρ).bind fun k => opItem (.list xs) k | _ => none
section
variable {J : Jd}
theorem load_own {x : Str} {p : Pos} {A : Around} {env : Env} {P : Avd} {O : Nat → Option Addr} {vm : Str → Option Value} {s : Shared} {ρ : Rho} {i : Nat} {xs : List D} {Q : Value → Shared → Prop} (F : FrV J.cx J.sc J.tab env P O vm s ρ) (ht : J.tab[i]? = some (some x)) (hr : ρ[i]? = some (.own xs))
    (hd : (x == ("__debug__" : Str) || x == ("__classdict__" : Str)) = false)
    (h : ∀ a vs n, O i = some a → s.heap.get? a = some { cls := .type "list", data := .seq vs n } → vs.size ≤ sizeLine → RdAll J.cx s.heap (Av env P O) xs vs.toList → Q (.ref a) s) : W J.cx.prog J.cx.w A (eval (.Name x p) env) Q s := by
  rw [Bool.or_eq_false_iff] at hd
  rw [eval_Name env x p hd.1]
  refine W.bind (W.standAt ?_)
  obtain ⟨a, vs, n, e1, e2, e3, e4, r⟩ := F.slots i x _ ht hr
  exact F.load ht e2 (h a vs n e1 e3 e4 r) hd.2

theorem se_ownItem {x : Str} {p pos : Pos} {slice : PySem.Expr} {g : Rho → Option D} (i : Nat) (hg : SE J slice g) (ht : J.tab[i]? = some (some x) := by rfl) (hd : (x == ("__debug__" : Str) || x == ("__classdict__" : Str)) = false := by rfl) (hs : notSlice slice = true := by rfl) :
    SE J (.Subscript (.Name x p) slice pos) (ownItemE i g) := fun A env P O vm s ρ d hA Fr h => by
  unfold ownItemE at h
  split at h
  · rename_i xs hr
    rw [Option.bind_eq_some_iff] at h
    obtain ⟨b, hb, h⟩ := h
    have hsz := szl
    rw [subscript_split]
    refine W.bind (load_own Fr ht hr hd fun a vs n e1 ho hz ra => W.bind (W.holding (W.mono (hg A env P O vm s ρ b hA Fr hb) fun y s₂ ⟨X2, r2⟩ => W.bind (W.standAt ?_))))
    have hsub : subscripted slice false (.ref a) y = operate [.ref a, y] (getItem (.ref a) y) := by cases slice <;> first | rfl | cases hs
    have ho2 := X2.keep _ _ ho
    have ra2 := ra.keep X2.keep
    cases b with
    | int i' =>
      replace h : (seqIndex? i' xs.length).bind (xs[·]?) = some d := h
      rw [Rd] at r2
      obtain ⟨u, rfl⟩ := r2
      rw [Option.bind_eq_some_iff] at h
      obtain ⟨k, hk, h⟩ := h
      obtain ⟨b1, b2, b3, b4⟩ := seqIndex_bound hk
      obtain ⟨v, hv, r⟩ := ra2.get h
      have hl := ra.length
      rw [Array.length_toList] at hl
      have hv' : vs[k]? = some v := by rw [← Array.getElem?_toList]; exact hv
      have hlist : s₂.heap.IsList a vs := ⟨_, ho2, rfl, n, rfl⟩
      by_cases hi : i' < 0
      · rw [if_pos hi] at b3
        refine W.of_any (tail_any hlist.typeIs F.slot_list_getitem.lookup (wpAny_getItem_list_neg hlist hi (by omega) (by omega) (x := v) ?_ ⟨X2, r⟩) hsub)
        rw [show (i' + (vs.size : Int)).toNat = k by rw [b3, hl]]; exact hv'
      · rw [if_neg hi] at b3
        refine W.of_any (tail_any hlist.typeIs F.slot_list_getitem.lookup (wpAny_getItem_list hlist (by omega) (by omega) (x := v) ?_ ⟨X2, r⟩) hsub)
        rw [← b3]; exact hv'
    | _ => simp [opItem] at h
  · cases h
end

/-! own lists, changed -/
noncomputable def appS (i : Nat) (f : Rho → Option D) : Rho → Option (Out × Rho) := fun ρ => match ρ[i]? with | some (.own xs) => (f ρ).bind fun d => if xs.length < 10000000 then some (.next, ρ.set i (.own (xs ++ [d]))) else none | _ => none
noncomputable def revS (i : Nat) : Rho → Option (Out × Rho) := fun ρ => match ρ[i]? with | some (.own xs) => some (.next, ρ.set i (.own xs.reverse)) | _ => none
section
variable {J : Jd}
theorem inter_false {env : Env} (h : env.scope.kind = .function) : interactive env = false := by unfold interactive; rw [h]; rfl
theorem s1_append {x : Str} {p apos cpos pos : Pos} {e : PySem.Expr} {f : Rho → Option D} (i : Nat) (he : SE J e f) (ht : J.tab[i]? = some (some x) := by rfl) (hd : (x == ("__debug__" : Str) || x == ("__classdict__" : Str)) = false := by rfl)
    (hst : isStarred e = false := by rfl) (hp : apos.endLine = cpos.line := by rfl) : S1 J (.Expr (.Call (.Attribute (.Name x p) "append" apos) [e] [] cpos) pos) (appS i f) := fun A env P O vm s ρ out ρ' hA F h => by
  unfold appS at h
  split at h
  · rename_i xs hr
    rw [Option.bind_eq_some_iff] at h
    obtain ⟨d, hd', h⟩ := h
    split at h
    · rename_i hz
      cases h
      have hk : env.scope.kind = .function := by rw [F.scope]; exact F.kind
      have hsz := szl
      have hst' : [e].any isStarred = false := by simp [hst]
      rw [exec_Expr env _ _ (inter_false hk) rfl]
      refine W.bind (W.standAt ?_)
      rw [method_split rfl hst' (by show 1 < 29; decide) hp]
      refine W.bind (W.bind (load_own F ht hr hd fun a vs n e1 ho hvz ra => W.bind (W.standAt (W.bind (W.holding (W.of_any (getMethod_list_append ho rfl rfl ?_)))))))
      have hb := backTo_plain cpos env (es := [e]) hst'
      have hes : SEs J [e] (consF f nilF) := ses_cons he ses_nil hst
      refine callWith_ok hb.1 (by rw [hb.2]; show 1 ≤ 30; decide) (W.mono (hes A env P O vm s ρ [d] cpos hA F (by simp [consF, nilF, hd'])) fun us s₁ ⟨X1, r1⟩ => ⟨.inr (fun a e => by cases e), ?_⟩)
      rw [RdAll] at r1
      obtain ⟨v, l', rfl, r1, r2⟩ := r1
      rw [RdAll] at r2
      subst r2
      have hl := ra.length
      rw [Array.length_toList] at hl
      have F1 := F.ext X1
      refine W.of_any (wpAny_list_append_plain (hsz := hvz) ⟨n, X1.keep _ _ ho⟩ fun h' hp' hs' => ?_)
      obtain ⟨n', ho'⟩ := hp'
      obtain ⟨F2, T2⟩ := F1.mutate (s' := { s₁ with heap := h' }) (ds := xs ++ [d]) ht hr e1 rfl rfl hs' ho' (by rw [Array.size_push]; omega) (by rw [Array.toList_push]; exact (ra.keep X1.keep).append (RdAll.cons r1 RdAll.nil))
      rw [dropValue_plain (by intro a e; cases e)]
      exact W.pure ⟨rfl, O, vm, F2, X1.tr.trans T2⟩
    · cases h
  · cases h
theorem get_listM {M : Model} {A : Around} {E : Value → Shared → Prop} {s : Shared} {name : Str} {id : String} {l : Addr} {o : Obj} {pl : Sem Bool} {Q : Value × List Value → Shared → Prop}
    (slot : PySem.Slot "list" name id) (ty : typeOf (.builtin id) = pure (.type "method_descriptor"))
    (ho : s.heap.get? l = some o) (hc : o.cls = .type "list") (hd : o.dict = none) (h : Q (.builtin id, [.ref l]) s) : wpAny M A (getMethod (.ref l) name pl) Q E s := by
  have hT : s.TypeIs (.ref l) "list" := ⟨o, ho, hc⟩
  unfold getMethod
  refine wpAny_bind (wpAny_specialOf hT list_getattribute ?_)
  show wpAny M A (if (Manifest.canonical "list.__getattribute__" != "object.__getattribute__") = true then _ else _) Q E s
  rw [canon_list_getattribute, if_neg Bool.false_ne_true]
  refine wpAny_bind (wpAny_specialOf hT list_getattr_none ?_)
  refine wpAny_bind (wpAny_specialOf hT slot.lookup ?_)
  refine wpAny_bind (wpAny_of_eq ty ?_)
  refine wpAny_bind (wpAny_loadPart ho ?_)
  rw [hd]
  exact wpAny_bind (wpAny_rule (wpAny_pure h))
theorem s1_reverse {x : Str} {p apos cpos pos : Pos} (i : Nat) (ht : J.tab[i]? = some (some x) := by rfl) (hd : (x == ("__debug__" : Str) || x == ("__classdict__" : Str)) = false := by rfl)
    (hp : apos.endLine = cpos.line := by rfl) : S1 J (.Expr (.Call (.Attribute (.Name x p) "reverse" apos) [] [] cpos) pos) (revS i) := fun A env P O vm s ρ out ρ' hA Fr h => by
  unfold revS at h
  split at h
  · rename_i xs hr
    cases h
    have hk : env.scope.kind = .function := by rw [Fr.scope]; exact Fr.kind
    rw [exec_Expr env _ _ (inter_false hk) rfl]
    refine W.bind (W.standAt ?_)
    rw [method_split rfl rfl (by show 0 < 29; decide) hp]
    refine W.bind (W.bind (load_own Fr ht hr hd fun a vs n e1 ho hvz ra => W.bind (W.standAt (W.bind (W.holding (W.of_any (get_listM F.slot_list_reverse F.type_list_reverse ho rfl rfl ?_)))))))
    have hb := backTo_plain cpos env (es := []) rfl
    refine callWith_ok hb.1 (by rw [hb.2]; show 0 ≤ 30; decide) (W.mono (ses_nil (J := J) A env P O vm s ρ [] cpos hA Fr rfl) fun us s₁ ⟨X1, r1⟩ => ⟨.inr (fun a e => by cases e), ?_⟩)
    rw [RdAll] at r1
    subst r1
    have F1 := Fr.ext X1
    have ho1 := X1.keep _ _ ho
    refine W.of_any (wpAny_call_entry F.slot_list_reverse ⟨_, ho1, rfl⟩ F.entry_list_reverse ?_ (F.args_list_reverse_1 _))
    show wpAny _ _ (updateSeq a (·.reverse) >>= fun _ => ret .none) _ _ s₁
    have hm : Obj.mapSeq (·.reverse) { cls := .type "list", data := .seq vs n } = { cls := .type "list", data := .seq vs.reverse n } := by simp [Obj.mapSeq]
    refine wpAny_bind (wpAny_updateSeq ho1 rfl (wpAny_pure ⟨.none, rfl, ?_⟩))
    have hs' := Heap.SameBut.update s₁.heap a (Obj.mapSeq (·.reverse))
    obtain ⟨F2, T2⟩ := F1.mutate (s' := { s₁ with heap := s₁.heap.update a (Obj.mapSeq (·.reverse)) }) (ds := xs.reverse) (vs := vs.reverse) (n := n) ht hr e1 rfl rfl hs' (by show (s₁.heap.update a _).get? a = _; rw [Heap.get?_update_self _ ho1 (by rw [hm]; rfl), hm]) (by rw [Array.size_reverse]; exact hvz) (by rw [Array.toList_reverse]; exact (ra.keep X1.keep).reverse)
    rw [dropValue_plain (by intro a e; cases e)]
    exact W.pure ⟨rfl, O, vm, F2, X1.tr.trans T2⟩
  · cases h
end
end Mine

end
section
open PySem PySem.W PySem.Calls PyProof.Rows
set_option Elab.async false
set_option maxRecDepth 100000
namespace Mine
open PySem.Builtin.Re
open Sem (wp)

/-! the parts of a text between a sign -/
noncomputable def splitC (c : Nat) : List Nat → List (List Nat)
  | [] => [[]]
  | x :: r => if x = c then [] :: splitC c r else match splitC c r with
    | h :: t => (x :: h) :: t
    | [] => [[x]]
theorem splitC_free {c : Nat} : ∀ {p : List Nat}, c ∉ p → splitC c p = [p]
  | [], _ => rfl
  | x :: r, h => by
    rw [List.mem_cons, not_or] at h
    rw [splitC, if_neg (Ne.symm h.1), splitC_free h.2]
theorem splitC_app {c : Nat} {r : List Nat} : ∀ {p : List Nat}, c ∉ p → splitC c (p ++ c :: r) = p :: splitC c r
  | [], _ => by rw [List.nil_append, splitC, if_pos rfl]
  | x :: p, h => by
    rw [List.mem_cons, not_or] at h
    rw [List.cons_append, splitC, if_neg (Ne.symm h.1), splitC_app h.2]
theorem splitC_len (c : Nat) : ∀ l : List Nat, (splitC c l).length ≤ l.length + 1
  | [] => by simp [splitC]
  | x :: r => by
    have := splitC_len c r
    rw [splitC]
    split
    · simp; omega
    · cases h : splitC c r with
      | nil => simp
      | cons a t => rw [h] at this; simp at this ⊢; omega
/-! a new list from a call -/
/-! a match's places -/
end Mine

end
section
open PySem PySem.W PySem.Calls PyProof.Rows
set_option Elab.async false
set_option maxRecDepth 100000
namespace Mine

noncomputable def listL (f : Rho → Option (List D)) : Rho → Option (List D) := fun ρ => (f ρ).bind fun ds => if ds.length ≤ 1000 then some ds else none
section
variable {J : Jd}
theorem x_listF {es : List PySem.Expr} {pos : Pos} {f : Rho → Option (List D)} (hes : SEs J es f) : SEF J (.List es pos) (listL f) := sef_list hes
end
end Mine

end
section
open PySem PySem.W PySem.Calls PyProof.Rows
set_option Elab.async false
set_option maxRecDepth 100000
namespace Mine

/-! a text ahead of and behind a sign -/
/-! an own list's item, changed -/
theorem setItem_own {prog : Program} {w : World} {A : Around} {E : Value → Shared → Prop} {s : Shared} {l : Addr} {vs : Array Value} {n j : Nat} {k : Int} {t : Tok} {v : Value} {Q : Unit → Shared → Prop} (ho : s.heap.get? l = some { cls := .type "list", data := .seq vs n })
    (hk : seqIndex? k vs.size = some j) (hneg : k < 0) (hfit : -(2 ^ 63) ≤ k) (hQ : ∀ h', h'.get? l = some { cls := .type "list", data := .seq (vs.setIfInBounds j v) n } → Heap.SameBut l s.heap h' → Q () { s with heap := h' }) :
    wpAny (model prog w) A (setItem (.ref l) (.int k t) v) Q E s := by
  have hl : s.heap.IsList l vs := ⟨_, ho, rfl, n, rfl⟩
  have hj := (seqIndex_bound hk).2.2.2
  have hx' : vs[j]? = some vs[j] := Array.getElem?_eq_getElem hj
  unfold setItem
  try with_reducible refine wpAny_holding ?_
  first | refine wpAny_bind (wpAny_pure ?_) | skip
  refine wpAny_bind (wpAny_sequenceKey hl.typeIs (by decide) ?_)
  refine wpAny_bind (wpAny_callSpecial?_slot (name := Str.ofString "__setitem__") hl.typeIs slot_list_setitem
    (wpAny_call_entry slot_list_setitem hl.typeIs entry_list_setitem ?_ (args_list_setitem _ _ _)))
  show wpAny _ _ (Builtin.List.listSubscript? (.int k t) >>= _) _ _ s
  refine wpAny_bind (wpAny_listSubscript_int (fitsIndex_neg hneg hfit) ?_)
  obtain ⟨i, rfl⟩ : ∃ i : Nat, k = Int.negSucc i := by
    cases k with
    | ofNat n => exact absurd hneg (Int.not_lt.mpr (Int.natCast_nonneg n))
    | negSucc n => exact ⟨n, rfl⟩
  show wpAny _ _ ((Builtin.List.listItems (.ref l) >>= fun xs => pure ((seqIndex? (Int.negSucc i) xs.size).bind fun i => xs[i]?.map (i, ·))) >>= _) _ _ s
  refine wpAny_bind (wpAny_bind ?_)
  show wpAny _ _ (seqItems? (.ref l) >>= _) _ _ s
  refine wpAny_bind (wpAny_seqItems ho rfl (wpAny_pure (wpAny_pure ?_)))
  rw [hk]
  simp only [Option.bind_some, hx', Option.map_some]
  show wpAny _ _ (setSeqItemAt l j v >>= _) _ _ s
  have hm : Obj.mapSeq (·.setIfInBounds j v) { cls := .type "list", data := .seq vs n } = { cls := .type "list", data := .seq (vs.setIfInBounds j v) n } := by simp [Obj.mapSeq]
  refine wpAny_bind (wpAny_setSeqItemAt ho rfl ?_)
  have hfin := hQ _ (by rw [Heap.get?_update_self _ ho (by rw [hm]; rfl), hm]) (Heap.SameBut.update s.heap l (Obj.mapSeq (·.setIfInBounds j v)))
  first
    | exact wpAny_bind (wpAny_pure (wpAny_pure ⟨.none, rfl, wpAny_pure hfin⟩))
    | exact wpAny_pure ⟨.none, rfl, wpAny_pure hfin⟩

/-- xs[-1] = f -/
noncomputable def lastS (i : Nat) (f : Rho → Option D) : Rho → Option (Out × Rho) := fun ρ => match ρ[i]? with | some (.own xs) => (f ρ).bind fun d => if xs.length = 0 then none else some (.next, ρ.set i (.own (xs.set (xs.length - 1) d))) | _ => none
section
variable {J : Jd}
noncomputable abbrev minusOne (p1 p2 : Pos) (k : Nat) : PySem.Expr := .UnaryOp .USub (.Constant (.int 1) k p1) p2
theorem seqIndex_last {n : Nat} (h : n ≠ 0) : seqIndex? (-1) n = some (n - 1) := by
  rw [seqIndex_neg (by decide) (by omega)]
  congr 1; omega
theorem s1_last {x : Str} {p p1 p2 spos pos : Pos} {kk : Nat} {value : PySem.Expr} {f : Rho → Option D} (i : Nat) (hv : SE J value f) (ht : J.tab[i]? = some (some x) := by rfl) (hd : (x == ("__debug__" : Str) || x == ("__classdict__" : Str)) = false := by rfl) :
    S1 J (.Assign [.Subscript (.Name x p) (minusOne p1 p2 kk) spos] value pos) (lastS i f) := fun A env P O vm s ρ out ρ' hA Fr h => by
  unfold lastS at h
  split at h
  · rename_i xs hr
    rw [Option.bind_eq_some_iff] at h
    obtain ⟨d, hd', h⟩ := h
    split at h
    · cases h
    rename_i hne
    cases h
    rw [exec_Assign_Subscript (env := env) _ _ _ _ _ (by cases value <;> rfl)]
    refine W.bind (W.standAt (W.bind (W.mono (hv A env P O vm s ρ d hA Fr hd') fun v s₁ ⟨X1, r1⟩ => W.bind ?_)))
    have F1 := Fr.ext X1
    rw [assign_Subscript]
    refine W.bind (W.holding (load_own F1 ht hr hd fun a vs n e1 ho hvz ra => W.bind (W.holding (W.mono (se_neg se_int (J := J) A env P O vm s₁ ρ (.int (-1)) hA F1 rfl) fun iv s₂ ⟨X2, r2⟩ => ?_))))
    rw [Rd] at r2
    obtain ⟨tk, rfl⟩ := r2
    have F2 := F1.ext X2
    have hl := ra.length
    rw [Array.length_toList] at hl
    refine W.bind (W.standAt (W.bind (W.holding (W.of_any (setItem_own (X2.keep _ _ ho) (seqIndex_last (by rw [hl]; exact hne)) (by decide) (by decide) fun h' ho' hs' => W.release (W.pure ?_))))))
    obtain ⟨F3, T3⟩ := F2.mutate (s' := { s₂ with heap := h' }) (ds := xs.set (xs.length - 1) d) ht hr e1 rfl rfl hs' ho' (by simpa using hvz) (by rw [Array.toList_setIfInBounds, hl]; exact (ra.keep X2.keep).set _ (r1.keep X2.keep))
    exact ⟨rfl, O, vm, F3, (X1.trans X2).tr.trans T3⟩
  · cases h
end
end Mine

end
section
open PySem PySem.W PySem.Calls PyProof.Rows
set_option Elab.async false
set_option maxRecDepth 100000
namespace Mine

/-! enumerate(list) -/
end Mine

end
section
open PySem PySem.W PySem.Calls PyProof.Rows
set_option Elab.async false
set_option maxRecDepth 100000
namespace Mine

/-! a text, repeated -/
/-! a text, replaced -/
section
variable {J : Jd}
end

/-! every second sign -/
end Mine

end
section
open PySem PySem.W PySem.Calls PyProof.Rows
set_option Elab.async false
set_option maxRecDepth 100000
namespace Mine
open Sem (wp)
open AutoSeq1 (wpAny_loadPart')

/-! reversed(text) -/
theorem mro_rev : mroOf (.type "reversed") = pure [.type "reversed", .type "object"] := by rw [mroOf_type]; kernel_rfl
theorem lookup_rev_new : typeLookup (.type "reversed") "__new__" = pure (some (.builtin "reversed.__new__")) := by rw [typeLookup_type, builtinLookup_eq_fast]; kernel_rfl
theorem slot_rev_init : PySem.Slot "reversed" "__init__" "object.__init__" :=
  .of (owner := "object") (n := "__init__") (by rw [typeLookup_type, builtinLookup_eq_fast]; kernel_rfl) (by decide +kernel) (by decide +kernel) (by decide +kernel)
    (by first | exact .inl (by decide +kernel) | exact .inr (by decide +kernel)) (by rw [isSubtype_type]; kernel_rfl)
theorem called_rev : TypeCalled "reversed" "reversed.__new__" "object.__init__" :=
  ⟨by decide +kernel, by decide +kernel, ⟨_, _, mro_rev⟩, madeBy_type mro_rev lookup_rev_new (by decide +kernel), by decide +kernel, by rw [isSubtype_type]; kernel_rfl, slot_rev_init⟩
theorem typeCall_rev (a : Value) : checkTypeCall "reversed" ⟨[a], []⟩ = pure () := by kernel_rfl
theorem newCall_rev (a : Value) : checkBuiltinCall "reversed.__new__" ⟨[.type "reversed", a], []⟩ = pure () := by kernel_rfl
theorem entry_rev_new : entryFor table "reversed.__new__" = some Builtin.«reversed.__new__» := entryFor_of_tree (by kernel_rfl)
theorem sub_rev : isSubtype (.type "reversed") (.type "reversed") = pure true := by rw [isSubtype_type]; kernel_rfl
theorem lk_str_rev : typeLookup (.type "str") "__reversed__" = pure none := by rw [typeLookup_type, builtinLookup_eq_fast]; kernel_rfl
theorem sub_str_dict : isSubtype (.type "str") (.type "dict") = pure false := by rw [isSubtype_type]; kernel_rfl
set_option maxHeartbeats 4000000 in
theorem meets_rev_new (x : Str) (t : Tok) (hx : x.length ≤ sizeLine) : Meets (Builtin.«reversed.__new__» ⟨[.type "reversed", .str x t], []⟩) (fun _ R s => ∀ k, R (.ok (.ret (.ref s.heap.objs.size))) { s with heap := s.heap.push { cls := .type "reversed", data := .fields #[.str x t, rawInt ((x.length : Int) - 1)] }, toks := k }) :=
  .of_wp fun prog w A R s h => by
    obtain ⟨hp, g, d, tk, os⟩ := s
    have hsub := sub_rev
    have hlk := lk_str_rev
    wp_walk
    rw [sub_str_dict]
    refine wpAny_pure ?_
    rw [if_neg Bool.false_ne_true]
    refine wpAny_bind (wpAny_specialOf (typeIs_str _ _ _) slot_str_getitem.lookup ?_)
    refine wpAny_pure ?_
    refine wpAny_bind (len_str (by have := szl; omega) ?_)
    wp_walk
    exact ⟨_, rfl, h _⟩

noncomputable abbrev IsRev (h : Heap) (I : Addr) (x : Str) (t : Tok) (i : Int) : Prop := h.get? I = some { cls := .type "reversed", data := .fields #[.str x t, rawInt i] }
theorem slot_rev_next : PySem.Slot "reversed" "__next__" "reversed.__next__" :=
  .of (owner := "reversed") (n := "__next__") (by rw [typeLookup_type, builtinLookup_eq_fast]; kernel_rfl) (by decide +kernel) (by decide +kernel) (by decide +kernel)
    (by first | exact .inl (by decide +kernel) | exact .inr (by decide +kernel)) (by rw [isSubtype_type]; kernel_rfl)
theorem entry_rev_next : entryFor table "reversed.__next__" = some Builtin.«reversed.__next__» := entryFor_of_tree (by kernel_rfl)
theorem args_rev_next (a : Value) : argsOk "reversed.__next__" ⟨[a], []⟩ := by unfold argsOk; kernel_rfl
theorem slot_rev_iter : PySem.Slot "reversed" "__iter__" "reversed.__iter__" :=
  .of (owner := "reversed") (n := "__iter__") (by rw [typeLookup_type, builtinLookup_eq_fast]; kernel_rfl) (by decide +kernel) (by decide +kernel) (by decide +kernel)
    (by first | exact .inl (by decide +kernel) | exact .inr (by decide +kernel)) (by rw [isSubtype_type]; kernel_rfl)
theorem entry_rev_iter : entryFor table "reversed.__iter__" = some Builtin.«dict_keyiterator.__iter__» :=
  entryFor_alias (id' := "dict_keyiterator.__iter__") (by kernel_rfl) (by first | rfl | decide +kernel | (unfold String.splitOn; simp +decide [String.splitOnAux])) (by decide +kernel) (by kernel_rfl)
theorem args_rev_iter (a : Value) : argsOk "reversed.__iter__" ⟨[a], []⟩ := by unfold argsOk; kernel_rfl
section
variable {prog : Program} {w : World} {A : Around} {E : Value → Shared → Prop} {s : Shared}
theorem pyIter_rev {I : Addr} {x : Str} {t : Tok} {i : Int} {Q : Value → Shared → Prop} (ho : IsRev s.heap I x t i) (h : Q (.ref I) s) : wpAny (model prog w) A (pyIter (.ref I)) Q E s := by
  have hT : s.TypeIs (.ref I) "reversed" := ⟨_, ho, rfl⟩
  refine wpAny_pyIter_slot hT slot_rev_iter (wpAny_call_entry slot_rev_iter hT entry_rev_iter ?_ (args_rev_iter _))
  show wpAny _ _ (ret (.ref I)) _ _ s
  exact wpAny_pure ⟨_, rfl, "reversed", _, hT, slot_rev_next.lookup, h⟩
theorem seqIndex_nat' (k n : Nat) (h : k < n) : seqIndex? (k : Int) n = some k := by
  have h0 : ¬ (k : Int) < 0 := by omega
  simp only [seqIndex?, if_neg h0]
  rw [if_pos (by first | omega | (simp; omega))]; simp
theorem rev_item {I : Addr} {l : List Nat} {t : Tok} {i c : Nat} {Q : Option Value → Shared → Prop} (ho : IsRev s.heap I ⟨l.toArray⟩ t (i : Int)) (hc : l[i]? = some c) (hl : l.length ≤ sizeLine)
    (hQ : ∀ h' tk k, IsRev h' I ⟨l.toArray⟩ t ((i : Int) - 1) → Heap.SameBut I s.heap h' → Q (some (.str ⟨#[c]⟩ tk)) { s with heap := h', toks := k }) : wpAny (model prog w) A (pyNext (.ref I)) Q E s := by
  have hT : s.TypeIs (.ref I) "reversed" := ⟨_, ho, rfl⟩
  have hsz := szl
  have hi := (List.getElem?_eq_some_iff.mp hc).1
  unfold pyNext
  refine wpAny_bind (wpAny_attempt (wpAny_callSpecial?_slot (name := Str.ofString "__next__") hT slot_rev_next
    (wpAny_call_entry slot_rev_next hT entry_rev_next ?_ (args_rev_next _))))
  show wpAny _ _ (field (.ref I) 0 >>= _) _ _ _
  refine wpAny_bind (wpAny_field ho rfl (x := .str ⟨l.toArray⟩ t) rfl ?_)
  show wpAny _ _ (field (.ref I) 1 >>= _) _ _ _
  refine wpAny_bind (wpAny_field ho rfl (x := rawInt i) rfl ?_)
  show wpAny _ _ (if ((i : Nat) : Int) < 0 then _ else _) _ _ _
  rw [if_neg (by omega)]
  refine wpAny_bind (wpAny_specialOf (typeIs_str _ _ _) slot_str_getitem.lookup ?_)
  show wpAny _ _ (mkInt (i : Int) >>= _) _ _ _
  refine wpAny_bind (wpAny_mkInt ?_)
  refine wpAny_bind (wpAny_attempt (getItem_str (c := c) ?_ ?_ ?_))
  · simp only [Bool.or_eq_false_iff, decide_eq_false_iff_not]; constructor <;> omega
  · rw [str_len, seqIndex_nat' i l.length hi]; simp [hc]
  show wpAny _ _ (field (.ref I) 1 >>= _) _ _ _
  refine wpAny_bind (wpAny_field ho rfl (x := rawInt i) rfl ?_)
  show wpAny _ _ (setField (.ref I) 1 (rawInt ((i : Int) - 1)) >>= _) _ _ _
  refine wpAny_bind (wpAny_setField_rec ho (by simp) fun h' ho' hs' => ?_)
  exact wpAny_pure ⟨_, rfl, wpAny_pure (hQ h' _ _ ho' hs')⟩
theorem rev_end {I : Addr} {x : Str} {t : Tok} {Q : Option Value → Shared → Prop} (hh : A.handled = none) (ho : IsRev s.heap I x t (-1))
    (hQ : ∀ h', Heap.ExtBut I s.heap h' → Q none { s with heap := h' }) : wpAny (model prog w) A (pyNext (.ref I)) Q E s := by
  have hT : s.TypeIs (.ref I) "reversed" := ⟨_, ho, rfl⟩
  unfold pyNext
  refine wpAny_bind (wpAny_attempt (wpAny_callSpecial?_slot (name := Str.ofString "__next__") hT slot_rev_next
    (wpAny_call_entry slot_rev_next hT entry_rev_next ?_ (args_rev_next _))))
  show wpAny _ _ (field (.ref I) 0 >>= _) _ _ _
  refine wpAny_bind (wpAny_field ho rfl (x := .str x t) rfl ?_)
  show wpAny _ _ (field (.ref I) 1 >>= _) _ _ _
  refine wpAny_bind (wpAny_field ho rfl (x := rawInt (-1)) rfl ?_)
  show wpAny _ _ (rule "reversed.__next__.ended" >>= _) _ _ _
  refine wpAny_bind (wpAny_rule ?_)
  show wpAny _ _ ((setField (.ref I) 1 (rawInt (-1)) >>= fun _ => setField (.ref I) 0 .none) >>= _) _ _ _
  refine wpAny_bind (wpAny_bind (wpAny_setField_rec ho (by simp) fun h1 ho1 hs1 => ?_))
  replace ho1 : IsRev h1 I x t (-1) := ho1
  refine wpAny_setField_rec (s := { s with heap := h1 }) ho1 (by simp) fun h2 ho2 hs2 => ?_
  show wpAny _ _ (((newExc (.type "StopIteration") [] >>= fun e => raiseNew e)) >>= _) _ _ _
  refine wpAny_bind (wpAny_bind ?_)
  simp only [newExc, newTuple]
  refine wpAny_bind (wpAny_newObj_type ?_ (by size_fits))
  refine wpAny_bind (m := firstArgMember _ _) (wpAny_of_eq (a := Value.none) (by first | rfl | (simp only [firstArgMember]; rfl)) ?_)
  refine wpAny_newObj_type ?_ (by size_fits)
  simp only [raiseNew]
  refine wpAny_bind (wpAny_handled ?_)
  first | rw [show A.in1.handled = none from hh] | rw [hh]
  refine wpAny_bind (wpAny_pure (wpAny_throw ?_))
  refine wpAny_bind (wpAny_isInstance (T := "StopIteration") (b := true) ⟨_, Heap.get?_push_size _ rfl, rfl⟩ isSubtype_stop ?_)
  exact wpAny_pure (hQ _ ((((hs1.extBut).trans hs2.extBut).push _).push _))
end
end Mine

end
section
open PySem PySem.W PySem.Calls PyProof.Rows
set_option Elab.async false
set_option maxRecDepth 100000
namespace Mine
open Sem (wp)

/-! for .. in reversed(text) -/
noncomputable def asRev : D → Option (List D)
  | .str l => if l.length ≤ 10000000 then some (l.reverse.map fun c => .str [c]) else none
  | _ => none
theorem args_obj2 (a b : Value) : argsOk "object.__init__" ⟨[a, b], []⟩ := F.args_object_init_2 a b
theorem call_rev {prog : Program} {w : World} {A : Around} {E : Value → Shared → Prop} {s : Shared} {x : Str} {t : Tok} {Q : Value → Shared → Prop} (hx : x.length ≤ sizeLine)
    (h : ∀ h' k, IsRev h' s.heap.objs.size x t ((x.length : Int) - 1) → h'.objs.size = s.heap.objs.size + 1 → (∀ b o, s.heap.get? b = some o → h'.get? b = some o) → Q (.ref s.heap.objs.size) { s with heap := h', toks := k }) :
    wpAny (model prog w) A (PySem.call (.type "reversed") [.str x t]) Q E s := by
  refine callType_new called_rev (by decide) (typeCall_rev _) (newCall_rev _) (fun obj => args_obj2 obj _) entry_rev_new (meets_rev_new x t hx) fun k => ?_
  exact ⟨⟨_, Heap.get?_push_size _ rfl, rfl⟩, h _ k (Heap.get?_push_size _ rfl) (Heap.size_push ..) fun b o e => Heap.get?_push_of_some _ e⟩
theorem wk_rev {cx : Cx} {A : Around} {tgt : PySem.Expr} {I : Addr} {N : Nat} {l : List Nat} {t : Tok} {U : Avd} (hh : A.handled = none) (hN : ¬ U I ∧ I < N) (hc : ∀ c ∈ l, c < 0x110000) (hl : l.length ≤ sizeLine) :
    Wk cx A tgt I [I] N (l.reverse.map fun c => .str [c]) U (fun i h => IsRev h I ⟨l.toArray⟩ t ((l.length : Int) - i - 1)) where
  frame := fun i h h' st hk => hk _ _ hN.1 hN.2 st
  item := fun i d s V Q hd st hb hV hQ => by
    rw [List.getElem?_map, Option.map_eq_some_iff] at hd
    obtain ⟨c, hd, rfl⟩ := hd
    have hi : i < l.length := by
      have := (List.getElem?_eq_some_iff.mp hd).1
      simpa using this
    rw [List.getElem?_reverse (by omega)] at hd
    have e : ((l.length : Int) - i - 1) = ((l.length - 1 - i : Nat) : Int) := by omega
    have hst : IsRev s.heap I ⟨l.toArray⟩ t ((l.length - 1 - i : Nat) : Int) := by rw [← e]; exact st
    refine W.of_any (rev_item hst hd hl fun h' tk k ho' hs' => ⟨_, rfl, ?_⟩)
    refine go_skip ho' rfl (by decide) (hQ _ _ ⟨rfl, rfl, Nat.le_of_eq hs'.1.symm, fun a o ha e => hs'.extBut a o (by simpa using ha) e⟩ (rd_str (l := [c]) (fun c' hc' => ?_) ?_) ?_)
    · simp at hc'; subst hc'; exact hc _ (List.mem_of_getElem? hd)
    · have := szl; simp; omega
    · have e2 : (((l.length - 1 - i : Nat) : Int) - 1) = (l.length : Int) - (i + 1 : Nat) - 1 := by omega
      rw [e2] at ho'; exact ho'
  done := fun s Q st hb hQ => by
    have e : ((l.length : Int) - ((l.reverse.map fun c => D.str [c]).length : Nat) - 1) = -1 := by simp
    rw [e] at st
    exact W.of_anyS (rev_end hh st fun h' hk hsz => ⟨rfl, hQ _ ⟨rfl, rfl, hsz, fun a o ha e' => hk a o (fun x => ha (by simp [x])) e'⟩⟩)
  self := fun i s st => W.of_any (pyIter_rev st ⟨rfl, rfl⟩)
theorem si_rev {J : Jd} {tgt : PySem.Expr} {e : PySem.Expr} {fn : Str} {p pos : Pos} {f : Rho → Option D} (he : SE J e f)
    (hv : (J.cx.mg fn).or (J.cx.mb fn) = some (.type "reversed")) (hl : J.sc.names.lookup fn = some .globalImplicit := by rfl) (hst : isStarred e = false := by rfl) (hdb : (fn == ("__debug__" : Str)) = false := by rfl) :
    SI J tgt (.Call (.Name fn p) [e] [] pos) (itE asRev f) := fun A env P O vm s ρ ds hA F h => by
  unfold itE at h
  rw [Option.bind_eq_some_iff] at h
  obtain ⟨d, hd, h⟩ := h
  unfold asRev at h
  split at h
  · rename_i l
    split at h
    · rename_i hz
      cases h
      show W _ _ A (do callWith pos (← eval (.Name fn p) env) [] (backTo pos (starEach [e] env)) []) _ s
      rw [eval_Name env fn p hdb]
      refine W.bind (W.bind (W.standAt (F.glob_ hl hv ?_)))
      have hb := backTo_plain pos env (es := [e]) (by simp [hst])
      have hes : SEs J [e] (consF f nilF) := ses_cons he ses_nil hst
      refine callWith_ok hb.1 (by rw [hb.2]; show 1 ≤ 30; decide) (W.mono (hes A env P O vm s ρ [.str l] pos hA F (by simp [consF, nilF, hd])) fun vs s₁ ⟨X1, r1⟩ => ⟨.inr (fun a e => by cases e), ?_⟩)
      rw [RdAll] at r1
      obtain ⟨v, l', rfl, r1, r2⟩ := r1
      rw [RdAll] at r2
      subst r2
      rw [Rd] at r1
      obtain ⟨t, rfl, hc, hl1⟩ := r1
      have F1 := F.ext X1
      have hsz := szl
      refine W.of_any (call_rev (by rw [str_len]; exact hl1) fun h' k ho' hsz' hk => ⟨rfl, ?_⟩)
      refine W.of_any (pyIter_rev ho' ?_)
      have X2 : Ext s₁ { s₁ with heap := h', toks := k } := ⟨rfl, rfl, by show _ ≤ h'.objs.size; rw [hsz']; exact Nat.le_succ _, hk⟩
      have hN0 : s₁.heap.objs.size < h'.objs.size := by rw [hsz']; exact Nat.lt_succ_self _
      refine ⟨X1.trans X2, by simp; omega, s₁.heap.objs.size, [s₁.heap.objs.size], _, rfl, wk_rev (t := t) hA.1 ⟨F1.new (Nat.le_refl _), hN0⟩ hc hl1, ?_, ?_⟩
      · rw [str_len] at ho'
        show IsRev _ _ _ _ ((l.length : Int) - (0 : Nat) - 1)
        rw [show ((l.length : Int) - (0 : Nat) - 1) = (l.length : Int) - 1 by simp]; exact ho'
      · intro b hb'
        simp at hb'
        rw [hb']; exact ⟨X1.size, hN0⟩
    · cases h
  · cases h
end Mine

end
section
open PySem PySem.W PySem.Calls PyProof.Rows
set_option Elab.async false
set_option maxRecDepth 100000
namespace Mine
open Sem (wp)

/-! a text's iterator, asked by zip -/
section
variable {prog : Program} {w : World} {A : Around} {E : Value → Shared → Prop} {s : Shared}
theorem nextS_item {it : Addr} {x : Str} {t : Tok} {i c : Nat} {Q : Value → Shared → Prop} (hit : s.heap.IsStrIter it (strIterType x) x t i) (hx : x.cps[i]? = some c)
    (hQ : ∀ h', h'.IsStrIter it (strIterType x) x t (i + 1) → Heap.SameBut it s.heap h' → Q (.str ⟨#[c]⟩ s.toks) { s with heap := h', toks := s.toks + 1 }) :
    wpAny (model prog w) A (Builtin.SmallTypes.nextOf (.ref it)) Q E s := by
  obtain ⟨o, ho, hc, hd⟩ := id hit
  unfold Builtin.SmallTypes.nextOf
  by_cases ha : x.cps.all (· < 128) = true
  · have hT : strIterType x = "str_ascii_iterator" := by unfold strIterType; rw [if_pos ha]
    have hti := hit.typeIs
    rw [hT] at hti
    refine wpAny_bind (wpAny_callSpecial?_slot (name := Str.ofString "__next__") hti F.slot_str_ascii_iterator_next
      (wpAny_call_entry F.slot_str_ascii_iterator_next hti F.entry_str_ascii_iterator_next ?_ (F.args_str_ascii_iterator_next_1 _)))
    show wpAny _ _ (field (.ref it) 0 >>= _) _ _ s
    refine wpAny_bind (wpAny_field ho hd (x := .str x t) rfl ?_)
    show wpAny _ _ (field (.ref it) 1 >>= _) _ _ s
    refine wpAny_bind (wpAny_field ho hd (x := .int i 0) rfl ?_)
    simp only [Int.toNat_natCast, hx]
    refine wpAny_bind (wpAny_setField ho hd (by simp) (wpAny_bind (wpAny_mkStr (wpAny_pure ⟨_, rfl, wpAny_pure (hQ _ ?_ (Heap.SameBut.update ..))⟩) (by show 1 ≤ sizeLine; decide))))
    exact ⟨_, Heap.get?_update_self _ ho (Obj.isFreed_of_fields (Obj.data_mapFields hd _)), (Obj.cls_mapFields ..).trans hc, by
      rw [Obj.data_mapFields hd]; simp [rawInt]⟩
  · have hT : strIterType x = "str_iterator" := by unfold strIterType; rw [if_neg ha]
    have hti := hit.typeIs
    rw [hT] at hti
    refine wpAny_bind (wpAny_callSpecial?_slot (name := Str.ofString "__next__") hti F.slot_str_iterator_next
      (wpAny_call_entry F.slot_str_iterator_next hti F.entry_str_iterator_next ?_ (F.args_str_iterator_next_1 _)))
    show wpAny _ _ (field (.ref it) 0 >>= _) _ _ s
    refine wpAny_bind (wpAny_field ho hd (x := .str x t) rfl ?_)
    show wpAny _ _ (field (.ref it) 1 >>= _) _ _ s
    refine wpAny_bind (wpAny_field ho hd (x := .int i 0) rfl ?_)
    simp only [Int.toNat_natCast, hx]
    refine wpAny_bind (wpAny_setField ho hd (by simp) (wpAny_bind (wpAny_mkStr (wpAny_pure ⟨_, rfl, wpAny_pure (hQ _ ?_ (Heap.SameBut.update ..))⟩) (by show 1 ≤ sizeLine; decide))))
    exact ⟨_, Heap.get?_update_self _ ho (Obj.isFreed_of_fields (Obj.data_mapFields hd _)), (Obj.cls_mapFields ..).trans hc, by
      rw [Obj.data_mapFields hd]; simp [rawInt]⟩
theorem nextS_end {it : Addr} {x : Str} {t : Tok} {i : Nat} {Q : Value → Shared → Prop} (hh : A.handled = none) (hit : s.heap.IsStrIter it (strIterType x) x t i) (hx : x.cps[i]? = none)
    (hE : ∀ h' e, Heap.ExtBut it s.heap h' → (∃ o, h'.get? e = some o ∧ o.cls = .type "StopIteration") → E (.ref e) { s with heap := h' }) :
    wpAny (model prog w) A (Builtin.SmallTypes.nextOf (.ref it)) Q E s := by
  obtain ⟨o, ho, hc, hd⟩ := id hit
  unfold Builtin.SmallTypes.nextOf
  by_cases ha : x.cps.all (· < 128) = true
  · have hT : strIterType x = "str_ascii_iterator" := by unfold strIterType; rw [if_pos ha]
    have hti := hit.typeIs
    rw [hT] at hti
    refine wpAny_bind (wpAny_callSpecial?_slot (name := Str.ofString "__next__") hti F.slot_str_ascii_iterator_next
      (wpAny_call_entry F.slot_str_ascii_iterator_next hti F.entry_str_ascii_iterator_next ?_ (F.args_str_ascii_iterator_next_1 _)))
    show wpAny _ _ (field (.ref it) 0 >>= _) _ _ s
    refine wpAny_bind (wpAny_field ho hd (x := .str x t) rfl ?_)
    show wpAny _ _ (field (.ref it) 1 >>= _) _ _ s
    refine wpAny_bind (wpAny_field ho hd (x := .int i 0) rfl ?_)
    simp only [Int.toNat_natCast, hx]
    refine wpAny_bind (wpAny_rule (wpAny_bind (wpAny_setField ho hd (by simp) (wpAny_bind (wpAny_letGo ?_)))))
    show wpAny _ _ (newExc (.type "StopIteration") [] >>= _) _ _ _
    refine wpAny_bind ?_
    simp only [newExc, newTuple]
    refine wpAny_bind (wpAny_newObj_type ?_ (by size_fits))
    refine wpAny_bind (m := firstArgMember _ _) (wpAny_of_eq (a := Value.none) (by first | rfl | (simp only [firstArgMember]; rfl)) ?_)
    refine wpAny_newObj_type ?_ (by size_fits)
    simp only [raiseNew]
    refine wpAny_bind (wpAny_handled ?_)
    first | rw [show A.in1.handled = none from hh] | rw [hh]
    refine wpAny_bind (wpAny_pure (wpAny_throw ?_))
    exact hE _ _ (((Heap.SameBut.update ..).extBut.push _).push _) ⟨_, Heap.get?_push_size _ rfl, rfl⟩
  · have hT : strIterType x = "str_iterator" := by unfold strIterType; rw [if_neg ha]
    have hti := hit.typeIs
    rw [hT] at hti
    refine wpAny_bind (wpAny_callSpecial?_slot (name := Str.ofString "__next__") hti F.slot_str_iterator_next
      (wpAny_call_entry F.slot_str_iterator_next hti F.entry_str_iterator_next ?_ (F.args_str_iterator_next_1 _)))
    show wpAny _ _ (field (.ref it) 0 >>= _) _ _ s
    refine wpAny_bind (wpAny_field ho hd (x := .str x t) rfl ?_)
    show wpAny _ _ (field (.ref it) 1 >>= _) _ _ s
    refine wpAny_bind (wpAny_field ho hd (x := .int i 0) rfl ?_)
    simp only [Int.toNat_natCast, hx]
    refine wpAny_bind (wpAny_rule (wpAny_bind (wpAny_setField ho hd (by simp) (wpAny_bind (wpAny_letGo ?_)))))
    show wpAny _ _ (newExc (.type "StopIteration") [] >>= _) _ _ _
    refine wpAny_bind ?_
    simp only [newExc, newTuple]
    refine wpAny_bind (wpAny_newObj_type ?_ (by size_fits))
    refine wpAny_bind (m := firstArgMember _ _) (wpAny_of_eq (a := Value.none) (by first | rfl | (simp only [firstArgMember]; rfl)) ?_)
    refine wpAny_newObj_type ?_ (by size_fits)
    simp only [raiseNew]
    refine wpAny_bind (wpAny_handled ?_)
    first | rw [show A.in1.handled = none from hh] | rw [hh]
    refine wpAny_bind (wpAny_pure (wpAny_throw ?_))
    exact hE _ _ (((Heap.SameBut.update ..).extBut.push _).push _) ⟨_, Heap.get?_push_size _ rfl, rfl⟩

/-- the objects of a zip, apart -/
structure ZA (z TI TO i1 i2 l2 : Addr) : Prop where
  nd : [z, TI, TO, i1, i2].Nodup
  l2 : l2 ≠ z ∧ l2 ≠ TO ∧ l2 ≠ i1 ∧ l2 ≠ i2
structure ZAt (h : Heap) (z TI TO i1 i2 l2 : Addr) (f0 : Value) (x : Str) (t : Tok) (ys : Array Value) (i : Nat) : Prop where
  z : IsZip h z TI TO f0
  TI : IsPair h TI (.ref i1) (.ref i2)
  TO : ∃ a b, IsPair h TO a b
  i1 : h.IsStrIter i1 (strIterType x) x t i
  i2 : h.IsListIter i2 l2 i
  l2 : ∃ n, h.get? l2 = some { cls := .type "list", data := .seq ys n }

theorem zipS_item {z TI TO i1 i2 l2 : Addr} {x : Str} {t : Tok} {ys : Array Value} {i c : Nat} {y : Value} {Q : Option Value → Shared → Prop} (D : ZA z TI TO i1 i2 l2) (Z : ZAt s.heap z TI TO i1 i2 l2 .none x t ys i) (hx : x.cps[i]? = some c) (hy : ys[i]? = some y)
    (hQ : ∀ h' tk k, ZAt h' z TI TO i1 i2 l2 (rawInt s.heap.objs.size) x t ys (i + 1) → IsPair h' s.heap.objs.size (.str ⟨#[c]⟩ tk) y → h'.objs.size = s.heap.objs.size + 1 →
      (∀ b o, b ∉ [z, TO, i1, i2] → s.heap.get? b = some o → h'.get? b = some o) → Q (some (.ref s.heap.objs.size)) { s with heap := h', toks := k }) :
    wpAny (model prog w) A (pyNext (.ref z)) Q E s := by
  obtain ⟨nd, dl1, dl2, dl3, dl4⟩ := D
  simp only [List.nodup_cons, List.mem_cons, List.not_mem_nil, or_false, not_or] at nd
  obtain ⟨⟨n1, n2, n3, n4⟩, ⟨n5, n6, n7⟩, ⟨n8, n9⟩, n10, _⟩ := nd
  obtain ⟨hz, hTI, ⟨a, b, hTO⟩, h1, h2, ⟨n, hl2⟩⟩ := Z
  have hT : s.TypeIs (.ref z) "zip" := ⟨_, hz, rfl⟩
  unfold pyNext
  refine wpAny_bind (wpAny_attempt (wpAny_callSpecial?_slot (name := Str.ofString "__next__") hT F.slot_zip_next
    (wpAny_call_entry F.slot_zip_next hT F.entry_zip_next ?_ (F.args_zip_next_1 _))))
  show wpAny _ _ (field (.ref z) 2 >>= _) _ _ _
  refine wpAny_bind (wpAny_field hz rfl (x := .bool false) rfl ?_)
  show wpAny _ _ (field (.ref z) 3 >>= _) _ _ _
  refine wpAny_bind (wpAny_field hz rfl (x := .ref TI) rfl ?_)
  refine wpAny_bind (wpAny_seqItems hTI rfl ?_)
  show wpAny _ _ (Builtin.SmallTypes.ownedTupleIsFree (.ref z) >>= _) _ _ _
  refine wpAny_bind ?_
  unfold Builtin.SmallTypes.ownedTupleIsFree
  refine wpAny_bind (wpAny_field hz rfl (x := .none) rfl (wpAny_pure ?_))
  simp only [if_true]
  refine wpAny_bind (wpAny_rule ?_)
  refine wpAny_bind (wpAny_field hz rfl (x := .ref TO) rfl ?_)
  refine wpAny_bind (wpAny_setField_rec hz (by simp) fun h₁ hz₁ hs₁ => ?_)
  replace hz₁ : IsZip h₁ z TI TO .ellipsis := hz₁
  refine wpAny_bind ?_
  simp only [List.zipIdx_cons, List.zipIdx_nil, List.forIn_cons, List.forIn_nil]
  refine wpAny_bind (wpAny_bind (wpAny_onRaise ?_))
  show wpAny _ _ (Builtin.SmallTypes.nextOf (.ref i1) >>= _) _ _ _
  refine wpAny_bind (nextS_item (s := { s with heap := h₁ }) (h1.extBut hs₁.extBut (Ne.symm n3)) hx fun h₂ h1₂ hs₂ => wpAny_pure ?_)
  have hTO₂ : IsPair h₂ TO a b := hs₂.extBut _ _ n8 (hs₁.extBut _ _ (Ne.symm n2) hTO)
  refine wpAny_bind (wpAny_seqItems hTO₂ rfl ?_)
  refine wpAny_bind (wpAny_updateSeq_pair hTO₂ fun h₃ hTO₃ hs₃ => ?_)
  replace hTO₃ : IsPair h₃ TO (.str ⟨#[c]⟩ s.toks) b := hTO₃
  refine wpAny_bind (wpAny_letGo (wpAny_pure ?_))
  refine wpAny_bind (wpAny_bind (wpAny_onRaise ?_))
  show wpAny _ _ (Builtin.SmallTypes.nextOf (.ref i2) >>= _) _ _ _
  have hl23 : h₃.get? l2 = some { cls := .type "list", data := .seq ys n } := hs₃.extBut _ _ dl2 (hs₂.extBut _ _ dl3 (hs₁.extBut _ _ dl1 hl2))
  refine wpAny_bind (wpAny_nextOf_list_item (((h2.extBut hs₁.extBut (Ne.symm n4)).extBut hs₂.extBut (Ne.symm n10)).extBut hs₃.extBut (Ne.symm n9)) ⟨_, hl23, rfl, n, rfl⟩ hy fun h₄ h2₄ hs₄ => wpAny_pure ?_)
  have hTO₄ : IsPair h₄ TO (.str ⟨#[c]⟩ s.toks) b := hs₄.extBut _ _ n9 hTO₃
  refine wpAny_bind (wpAny_seqItems hTO₄ rfl ?_)
  refine wpAny_bind (wpAny_updateSeq_pair hTO₄ fun h₅ hTO₅ hs₅ => ?_)
  replace hTO₅ : IsPair h₅ TO (.str ⟨#[c]⟩ s.toks) y := hTO₅
  refine wpAny_bind (wpAny_letGo (wpAny_pure (wpAny_pure ?_)))
  refine wpAny_bind (wpAny_seqItems hTO₅ rfl ?_)
  refine wpAny_bind (wpAny_newTuple ?_)
  have hsz : h₅.objs.size = s.heap.objs.size := by rw [hs₅.1, hs₄.1, hs₃.1, hs₂.1, hs₁.1]
  have keep : ∀ b o, b ≠ z → b ≠ TO → b ≠ i1 → b ≠ i2 → s.heap.get? b = some o → h₅.get? b = some o := fun b o c1 c2 c3 c4 e =>
    hs₅.extBut _ _ c2 (hs₄.extBut _ _ c4 (hs₃.extBut _ _ c2 (hs₂.extBut _ _ c3 (hs₁.extBut _ _ c1 e))))
  have hz₅ : IsZip h₅ z TI TO .ellipsis := hs₅.extBut _ _ n2 (hs₄.extBut _ _ n4 (hs₃.extBut _ _ n2 (hs₂.extBut _ _ n3 hz₁)))
  have h1₅ : h₅.IsStrIter i1 (strIterType x) x t (i + 1) := ((h1₂.extBut hs₃.extBut (Ne.symm n8)).extBut hs₄.extBut n10).extBut hs₅.extBut (Ne.symm n8)
  have h2₅ : h₅.IsListIter i2 l2 (i + 1) := h2₄.extBut hs₅.extBut (Ne.symm n9)
  have hTI₅ := keep _ _ (Ne.symm n1) n5 n6 n7 hTI
  have hl2₅ := keep _ _ dl1 dl2 dl3 dl4 hl2
  show wpAny _ _ (Builtin.SmallTypes.ownedTupleHandOut (.ref z) (.ref h₅.objs.size) >>= _) _ _ _
  refine wpAny_bind ?_
  unfold Builtin.SmallTypes.ownedTupleHandOut
  have hz₆ : IsZip (h₅.push { cls := .type "tuple", data := .seq #[.str ⟨#[c]⟩ s.toks, y] }) z TI TO .ellipsis := Heap.get?_push_of_some _ hz₅
  have hzlt : z < h₅.objs.size := Heap.lt_size hz₅
  refine wpAny_bind (wpAny_setField_rec hz₆ (by simp) fun h₇ hz₇ hs₇ => ?_)
  replace hz₇ : IsZip h₇ z TI TO (rawInt h₅.objs.size) := hz₇
  refine wpAny_setField_rec hz₇ (by simp) fun h₈ hz₈ hs₈ => ?_
  replace hz₈ : IsZip h₈ z TI TO (rawInt h₅.objs.size) := hz₈
  have up : ∀ b o, b ≠ z → h₅.get? b = some o → h₈.get? b = some o := fun b o c1 e => hs₈.extBut _ _ c1 (hs₇.extBut _ _ c1 (Heap.get?_push_of_some _ e))
  have hT₈ : IsPair h₈ h₅.objs.size (.str ⟨#[c]⟩ s.toks) y := hs₈.extBut _ _ (Nat.ne_of_gt hzlt) (hs₇.extBut _ _ (Nat.ne_of_gt hzlt) (Heap.get?_push_size _ rfl))
  have hz8 : h₈.objs.size = h₅.objs.size + 1 := by rw [hs₈.1, hs₇.1, Heap.size_push]
  rw [hsz] at hz₈ hT₈ hz8
  refine wpAny_pure ⟨_, rfl, wpAny_pure ?_⟩
  show Q (some (.ref h₅.objs.size)) _
  rw [hsz]
  refine hQ h₈ _ _ ⟨hz₈, up _ _ (Ne.symm n1) hTI₅, ⟨_, _, up _ _ (Ne.symm n2) hTO₅⟩, ?_, ?_, n, up _ _ dl1 hl2₅⟩ hT₈ hz8 fun b o hb e => ?_
  · obtain ⟨o, e1, e2⟩ := h1₅; exact ⟨o, up _ _ (Ne.symm n3) e1, e2⟩
  · obtain ⟨o, e1, e2⟩ := h2₅; exact ⟨o, up _ _ (Ne.symm n4) e1, e2⟩
  · simp only [List.mem_cons, List.not_mem_nil, or_false, not_or] at hb
    exact up b o hb.1 (keep b o hb.1 hb.2.1 hb.2.2.1 hb.2.2.2 e)
theorem zipS_end {z TI TO i1 i2 l2 : Addr} {x : Str} {t : Tok} {ys : Array Value} {i : Nat} {Q : Option Value → Shared → Prop} (hh : A.handled = none) (D : ZA z TI TO i1 i2 l2) (Z : ZAt s.heap z TI TO i1 i2 l2 .none x t ys i) (hx : x.cps[i]? = none)
    (hQ : ∀ h', (∀ b o, b ∉ [z, TO, i1, i2] → s.heap.get? b = some o → h'.get? b = some o) → Q none { s with heap := h' }) : wpAny (model prog w) A (pyNext (.ref z)) Q E s := by
  obtain ⟨nd, _⟩ := D
  simp only [List.nodup_cons, List.mem_cons, List.not_mem_nil, or_false, not_or] at nd
  obtain ⟨⟨n1, n2, n3, n4⟩, ⟨n5, n6, n7⟩, ⟨n8, n9⟩, n10, _⟩ := nd
  obtain ⟨hz, hTI, ⟨a, b, hTO⟩, h1, h2, ⟨n, hl2⟩⟩ := Z
  have hT : s.TypeIs (.ref z) "zip" := ⟨_, hz, rfl⟩
  unfold pyNext
  refine wpAny_bind (wpAny_attempt (wpAny_callSpecial?_slot (name := Str.ofString "__next__") hT F.slot_zip_next
    (wpAny_call_entry F.slot_zip_next hT F.entry_zip_next ?_ (F.args_zip_next_1 _))))
  show wpAny _ _ (field (.ref z) 2 >>= _) _ _ _
  refine wpAny_bind (wpAny_field hz rfl (x := .bool false) rfl ?_)
  show wpAny _ _ (field (.ref z) 3 >>= _) _ _ _
  refine wpAny_bind (wpAny_field hz rfl (x := .ref TI) rfl ?_)
  refine wpAny_bind (wpAny_seqItems hTI rfl ?_)
  show wpAny _ _ (Builtin.SmallTypes.ownedTupleIsFree (.ref z) >>= _) _ _ _
  refine wpAny_bind ?_
  unfold Builtin.SmallTypes.ownedTupleIsFree
  refine wpAny_bind (wpAny_field hz rfl (x := .none) rfl (wpAny_pure ?_))
  simp only [if_true]
  refine wpAny_bind (wpAny_rule ?_)
  refine wpAny_bind (wpAny_field hz rfl (x := .ref TO) rfl ?_)
  refine wpAny_bind (wpAny_setField_rec hz (by simp) fun h₁ hz₁ hs₁ => ?_)
  replace hz₁ : IsZip h₁ z TI TO .ellipsis := hz₁
  refine wpAny_bind ?_
  simp only [List.zipIdx_cons, List.zipIdx_nil, List.forIn_cons, List.forIn_nil]
  refine wpAny_bind (wpAny_bind (wpAny_onRaise ?_))
  show wpAny _ _ (Builtin.SmallTypes.nextOf (.ref i1) >>= _) _ _ _
  refine wpAny_bind (nextS_end (s := { s with heap := h₁ }) hh (h1.extBut hs₁.extBut (Ne.symm n3)) hx fun h₂ e hs₂ he => ?_)
  obtain ⟨oe, hoe, hce⟩ := he
  have hz₂ : IsZip h₂ z TI TO .ellipsis := hs₂ _ _ n3 hz₁
  have hez : e ≠ z := fun x => by subst x; rw [hz₂] at hoe; cases hoe; simp at hce
  refine wpAny_setField_rec (s := { s with heap := h₂ }) hz₂ (by simp) fun h₃ _ hs₃ => ?_
  refine wpAny_bind (wpAny_isInstance (T := "StopIteration") (b := true) ⟨oe, hs₃.extBut _ _ hez hoe, hce⟩ isSubtype_stop ?_)
  refine wpAny_pure (hQ _ fun b o hb e => ?_)
  simp only [List.mem_cons, List.not_mem_nil, or_false, not_or] at hb
  exact hs₃.extBut _ _ hb.1 (hs₂ _ _ hb.2.2.1 (hs₁.extBut _ _ hb.1 e))
end
end Mine

end
section
open PySem PySem.W PySem.Calls PyProof.Rows
set_option Elab.async false
set_option maxRecDepth 100000
namespace Mine
open Sem (wp)

noncomputable abbrev zH1 (h : Heap) (x : Str) (t : Tok) : Heap := h.push { cls := .type (strIterType x), data := .fields #[.str x t, .int 0 0] }
noncomputable abbrev zH2 (h : Heap) (x : Str) (t : Tok) (l2 : Addr) : Heap := (zH1 h x t).push { cls := .type "list_iterator", data := .fields #[.ref l2, .int 0 0] }
noncomputable abbrev zH3 (h : Heap) (x : Str) (t : Tok) (l2 : Addr) : Heap := (zH2 h x t l2).push { cls := .type "tuple", data := .seq #[.ref h.objs.size, .ref (zH1 h x t).objs.size] }
noncomputable abbrev zH4 (h : Heap) (x : Str) (t : Tok) (l2 : Addr) : Heap := (zH3 h x t l2).push { cls := .type "tuple", data := .seq #[.none, .none] }
noncomputable abbrev zH5 (h : Heap) (x : Str) (t : Tok) (l2 : Addr) : Heap := (zH4 h x t l2).push { cls := .type "zip", data := .fields #[.none, .bool false, .bool false, .ref (zH2 h x t l2).objs.size, .ref (zH3 h x t l2).objs.size] }
set_option maxHeartbeats 4000000 in
theorem meets_zip_newS (x : Str) (t : Tok) (l2 : Addr) (ys : Array Value) :
    Meets (Builtin.«zip.__new__» ⟨[.type "zip", .str x t, .ref l2], []⟩) (fun _ R s => s.heap.IsList l2 ys ∧ R (.ok (.ret (.ref (zH4 s.heap x t l2).objs.size))) { s with heap := zH5 s.heap x t l2 }) :=
  .of_wp fun prog w A R s h => by
    obtain ⟨hp, g, d, tk, os⟩ := s; obtain ⟨hl2, h⟩ := h
    have hsub := sub_zip
    have hL2 : Heap.IsList (Shared.heap ⟨hp.push { cls := .type (strIterType x), data := .fields #[.str x t, .int 0 0] }, g, d, tk, os⟩) l2 ys := Heap.IsList.push hl2 _
    wp_walk using wpAny_pyIter_strU, wpAny_pyIter_list hL2
    exact ⟨_, rfl, h⟩
theorem call_zipS {prog : Program} {w : World} {A : Around} {E : Value → Shared → Prop} {s : Shared} {x : Str} {t : Tok} {l2 : Addr} {ys : Array Value} {n : Nat} {Q : Value → Shared → Prop} (hl2 : s.heap.get? l2 = some { cls := .type "list", data := .seq ys n })
    (h : ∀ h', ZAt h' (s.heap.objs.size + 4) (s.heap.objs.size + 2) (s.heap.objs.size + 3) s.heap.objs.size (s.heap.objs.size + 1) l2 .none x t ys 0 → h'.objs.size = s.heap.objs.size + 5 →
      (∀ c o, s.heap.get? c = some o → h'.get? c = some o) → Q (.ref (s.heap.objs.size + 4)) { s with heap := h' }) :
    wpAny (model prog w) A (PySem.call (.type "zip") [.str x t, .ref l2]) Q E s := by
  refine callType_new F.called_zip (by decide) (F.typeCall_zip_2 _ _) (F.newCall_zip_2 _ _) (fun obj => F.args_object_init_3 obj _ _) F.entry_zip_new (meets_zip_newS x t l2 ys) ⟨⟨_, hl2, rfl, n, rfl⟩, ?_⟩
  have z1 : (zH1 s.heap x t).objs.size = s.heap.objs.size + 1 := Heap.size_push ..
  have z2 : (zH2 s.heap x t l2).objs.size = s.heap.objs.size + 2 := by rw [Heap.size_push, z1]
  have z3 : (zH3 s.heap x t l2).objs.size = s.heap.objs.size + 3 := by rw [Heap.size_push, z2]
  have z4 : (zH4 s.heap x t l2).objs.size = s.heap.objs.size + 4 := by rw [Heap.size_push, z3]
  have z5 : (zH5 s.heap x t l2).objs.size = s.heap.objs.size + 5 := by rw [Heap.size_push, z4]
  have up1 : ∀ c o, (zH4 s.heap x t l2).get? c = some o → (zH5 s.heap x t l2).get? c = some o := fun c o e => Heap.get?_push_of_some _ e
  have up2 : ∀ c o, (zH3 s.heap x t l2).get? c = some o → (zH5 s.heap x t l2).get? c = some o := fun c o e => up1 c o (Heap.get?_push_of_some _ e)
  have up3 : ∀ c o, (zH2 s.heap x t l2).get? c = some o → (zH5 s.heap x t l2).get? c = some o := fun c o e => up2 c o (Heap.get?_push_of_some _ e)
  have up4 : ∀ c o, (zH1 s.heap x t).get? c = some o → (zH5 s.heap x t l2).get? c = some o := fun c o e => up3 c o (Heap.get?_push_of_some _ e)
  have up5 : ∀ c o, s.heap.get? c = some o → (zH5 s.heap x t l2).get? c = some o := fun c o e => up4 c o (Heap.get?_push_of_some _ e)
  have g5 : (zH5 s.heap x t l2).get? (zH4 s.heap x t l2).objs.size = some _ := Heap.get?_push_size _ rfl
  have g4 : (zH5 s.heap x t l2).get? (zH3 s.heap x t l2).objs.size = some _ := up1 _ _ (Heap.get?_push_size _ rfl)
  have g3 : (zH5 s.heap x t l2).get? (zH2 s.heap x t l2).objs.size = some _ := up2 _ _ (Heap.get?_push_size _ rfl)
  have g2 : (zH5 s.heap x t l2).get? (zH1 s.heap x t).objs.size = some _ := up3 _ _ (Heap.get?_push_size _ rfl)
  have g1 : (zH5 s.heap x t l2).get? s.heap.objs.size = some _ := up4 _ _ (Heap.get?_push_size _ rfl)
  show _ ∧ _
  rw [z2, z3, z4] at g5
  rw [z1, z2] at g3
  rw [z3] at g4
  rw [z1] at g2
  rw [z4]
  exact ⟨⟨_, g5, rfl⟩, h _ ⟨g5, g3, ⟨_, _, g4⟩, ⟨_, g1, rfl, rfl⟩, ⟨_, g2, rfl, rfl⟩, n, up5 _ _ hl2⟩ z5 up5⟩

/-! for .. in zip(text, list) -/
noncomputable def asZip (l : List Nat) (ds : List D) : List D := (l.zip ds).map fun x => .tup [.str [x.1], x.2]
noncomputable def zipE (f g : Rho → Option D) : Rho → Option (List D) := fun ρ => (f ρ).bind fun a => (g ρ).bind fun b => match a, b with
  | .str l, .list ds => if l.length = ds.length then some (asZip l ds) else none
  | _, _ => none
theorem zip_at {l : List Nat} {ds : List D} {i : Nat} {d : D} (h : (asZip l ds)[i]? = some d) : ∃ c e, l[i]? = some c ∧ ds[i]? = some e ∧ d = .tup [.str [c], e] := by
  unfold asZip at h
  rw [List.getElem?_map, Option.map_eq_some_iff] at h
  obtain ⟨⟨c, e⟩, h, rfl⟩ := h
  rw [List.getElem?_zip_eq_some] at h
  exact ⟨c, e, h.1, h.2, rfl⟩
theorem wk_zip {cx : Cx} {A : Around} {elts : List PySem.Expr} {x1 : Nat} {pos : Pos} {z TI TO i1 i2 l2 : Addr} {N : Nat} {l : List Nat} {ds : List D} {U : Avd} {vs : Array Value} {t : Tok} (hh : A.handled = none) (D0 : ZA z TI TO i1 i2 l2) (hN : ∀ b ∈ [z, TI, TO, i1, i2], ¬ U b ∧ b < N) (hNl : ¬ U l2 ∧ l2 < N) (hlen : l.length = ds.length)
    (hc : ∀ c ∈ l, c < 0x110000) :
    Wk cx A (.Tuple elts x1 pos) z [z, TO, i1, i2] N (asZip l ds) U (fun i h => ZAt h z TI TO i1 i2 l2 .none ⟨l.toArray⟩ t vs i ∧ RdAll cx h (Vinf U [z, TO, i1, i2] N) ds vs.toList) where
  frame := fun i h h' ⟨⟨h1, h2, ⟨a, b, h3⟩, ⟨o4, h4, h4'⟩, ⟨o5, h5, h5'⟩, ⟨n, h6⟩⟩, h7⟩ hk => by
    have k : ∀ b o, b ∈ [z, TI, TO, i1, i2] → h.get? b = some o → h'.get? b = some o := fun b o hb e => hk b o (hN b hb).1 (hN b hb).2 e
    exact ⟨⟨k _ _ (by simp) h1, k _ _ (by simp) h2, ⟨a, b, k _ _ (by simp) h3⟩, ⟨o4, k _ _ (by simp) h4, h4'⟩, ⟨o5, k _ _ (by simp) h5, h5'⟩, n, hk _ _ hNl.1 hNl.2 h6⟩,
      h7.mono (fun a o ha e => hk a o (fun h => ha (.inl h)) (Nat.lt_of_not_le fun h => ha (.inr (.inr h))) e) fun _ h => .inl h⟩
  item := fun i d s V Q hd ⟨Z, h4⟩ hb hV hQ => by
    obtain ⟨c, e, hl, he, rfl⟩ := zip_at hd
    obtain ⟨v, hv, r⟩ := h4.get he
    have hv' : vs[i]? = some v := by rw [← Array.getElem?_toList]; exact hv
    have hzlt : z < s.heap.objs.size := Heap.lt_size Z.z
    refine W.of_any (zipS_item D0 Z (by simpa using hl) hv' fun h' tk k Z' ht' hsz hk => ⟨_, rfl, ?_⟩)
    refine W.of_any (wpAny_letOwnedTupleGo_zip Z'.z fun h'' hz'' hs'' => ?_)
    have nd := D0.nd
    simp only [List.nodup_cons, List.mem_cons, List.not_mem_nil, or_false, not_or] at nd
    obtain ⟨⟨n1, n2, n3, n4⟩, _⟩ := nd
    have hke : ∀ b o, b ∉ [z, TO, i1, i2] → s.heap.get? b = some o → h''.get? b = some o := fun b o hb e' => hs''.extBut b o (fun x => hb (by simp [x])) (hk b o hb e')
    have hT : IsPair h'' s.heap.objs.size (.str ⟨#[c]⟩ tk) v := hs''.extBut _ _ (Nat.ne_of_gt hzlt) ht'
    have hrd : RdAll cx h'' (Vinf U [z, TO, i1, i2] N) ds vs.toList := h4.mono (fun a o ha e' => hke a o (fun hm => ha (.inr (.inl hm))) e') fun _ h => .inl h
    have hz'' : h''.objs.size = s.heap.objs.size + 1 := by rw [hs''.1]; exact hsz
    obtain ⟨q1, q2, ⟨a, b, q3⟩, ⟨o4, q4, q4'⟩, ⟨o5, q5, q5'⟩, ⟨n, q6⟩⟩ := Z'
    refine hQ _ _ ⟨rfl, rfl, by show _ ≤ h''.objs.size; rw [hz'']; exact Nat.le_succ _, hke⟩ ?_
      ⟨⟨by assumption, hs''.extBut _ _ (Ne.symm n1) q2, ⟨a, b, hs''.extBut _ _ (Ne.symm n2) q3⟩, ⟨o4, hs''.extBut _ _ (Ne.symm n3) q4, q4'⟩, ⟨o5, hs''.extBut _ _ (Ne.symm n4) q5, q5'⟩, n, hs''.extBut _ _ D0.l2.1 q6⟩, hrd⟩
    rw [Rd]
    refine ⟨s.heap.objs.size, #[.str ⟨#[c]⟩ tk, v], 0, rfl, hT, fun hva => Nat.lt_irrefl _ (hV _ hva).2, by show 2 ≤ sizeLine; decide, ?_⟩
    obtain ⟨v2, hv2, r2⟩ := hrd.get he
    rw [hv] at hv2; cases hv2
    exact RdAll.cons (rd_str (l := [c]) (fun c' hc' => by simp at hc'; subst hc'; exact hc _ (List.mem_of_getElem? hl)) (by have := szl; simp; omega)) (RdAll.cons (r2.weak fun a ha => (hV a ha).1) RdAll.nil)
  done := fun s Q ⟨Z, h4⟩ hb hQ => by
    have e : (asZip l ds).length = l.length := by simp [asZip, hlen]
    rw [e] at Z
    exact W.of_anyS (zipS_end hh D0 Z (by simp) fun h' hk hsz => ⟨rfl, hQ _ ⟨rfl, rfl, hsz, hk⟩⟩)
  self := fun i s ⟨Z, _⟩ => W.of_any (wpAny_pyIter_zip Z.z ⟨rfl, rfl⟩)
theorem si_zip {J : Jd} {elts : List PySem.Expr} {x1 : Nat} {tpos : Pos} {e1 e2 : PySem.Expr} {fn : Str} {p pos : Pos} {f g : Rho → Option D} (he1 : SE J e1 f) (he2 : SE J e2 g)
    (hv : (J.cx.mg fn).or (J.cx.mb fn) = some (.type "zip")) (hl : J.sc.names.lookup fn = some .globalImplicit := by rfl) (hst : (isStarred e1 || isStarred e2) = false := by rfl) (hdb : (fn == ("__debug__" : Str)) = false := by rfl) :
    SI J (.Tuple elts x1 tpos) (.Call (.Name fn p) [e1, e2] [] pos) (zipE f g) := fun A env P O vm s ρ ds hA F h => by
  rw [Bool.or_eq_false_iff] at hst
  unfold zipE at h
  rw [Option.bind_eq_some_iff] at h
  obtain ⟨a, ha, h⟩ := h
  rw [Option.bind_eq_some_iff] at h
  obtain ⟨b, hb', h⟩ := h
  split at h
  · rename_i l xs
    split at h
    · rename_i hlen
      cases h
      show W _ _ A (do callWith pos (← eval (.Name fn p) env) [] (backTo pos (starEach [e1, e2] env)) []) _ s
      rw [eval_Name env fn p hdb]
      refine W.bind (W.bind (W.standAt (F.glob_ hl hv ?_)))
      have hb := backTo_plain pos env (es := [e1, e2]) (by simp [hst.1, hst.2])
      have hes : SEs J [e1, e2] (consF f (consF g nilF)) := ses_cons he1 (ses_cons he2 ses_nil hst.2) hst.1
      refine callWith_ok hb.1 (by rw [hb.2]; show 2 ≤ 30; decide) (W.mono (hes A env P O vm s ρ [.str l, .list xs] pos hA F (by simp [consF, nilF, ha, hb'])) fun vs s₁ ⟨X1, r1⟩ => ⟨.inr (fun a e => by cases e), ?_⟩)
      rw [RdAll] at r1
      obtain ⟨v, l', rfl, r1, r2⟩ := r1
      rw [RdAll] at r2
      obtain ⟨v2, l'', rfl, r2, r3⟩ := r2
      rw [RdAll] at r3
      subst r3
      rw [Rd] at r1
      obtain ⟨t, rfl, hc, hl1⟩ := r1
      rw [Rd] at r2
      obtain ⟨l2, us, n, rfl, ho, hna, hz, hr⟩ := r2
      have hll := hr.length
      rw [Array.length_toList] at hll
      have hlt := Heap.lt_size ho
      have F1 := F.ext X1
      refine W.of_any (call_zipS ho fun h' Z hsz hk => ⟨rfl, ?_⟩)
      refine W.of_any (wpAny_pyIter_zip Z.z ?_)
      have X2 : Ext s₁ { s₁ with heap := h' } := ⟨rfl, rfl, by show _ ≤ h'.objs.size; rw [hsz]; exact Nat.le_add_right _ _, hk⟩
      have lt5 : ∀ k, k < 5 → s₁.heap.objs.size + k < h'.objs.size := fun k hk' => by rw [hsz]; exact Nat.add_lt_add_left hk' _
      have ge : ∀ k, ¬ Av env P O (s₁.heap.objs.size + k) := fun k => F1.new (Nat.le_add_right _ _)
      have ne : ∀ j k : Nat, j ≠ k → s₁.heap.objs.size + j ≠ s₁.heap.objs.size + k := fun j k hjk e => hjk (Nat.add_left_cancel e)
      have nel : ∀ k, l2 ≠ s₁.heap.objs.size + k := fun k => Nat.ne_of_lt (Nat.lt_of_lt_of_le hlt (Nat.le_add_right _ _))
      have D0 : ZA (s₁.heap.objs.size + 4) (s₁.heap.objs.size + 2) (s₁.heap.objs.size + 3) s₁.heap.objs.size (s₁.heap.objs.size + 1) l2 := by
        refine ⟨?_, nel 4, nel 3, nel 0, nel 1⟩
        simp only [List.nodup_cons, List.mem_cons, List.not_mem_nil, or_false, not_or]
        exact ⟨⟨ne 4 2 (by decide), ne 4 3 (by decide), ne 4 0 (by decide), ne 4 1 (by decide)⟩, ⟨ne 2 3 (by decide), ne 2 0 (by decide), ne 2 1 (by decide)⟩, ⟨ne 3 0 (by decide), ne 3 1 (by decide)⟩, ne 0 1 (by decide), not_false, List.nodup_nil⟩
      have hN : ∀ b ∈ [s₁.heap.objs.size + 4, s₁.heap.objs.size + 2, s₁.heap.objs.size + 3, s₁.heap.objs.size, s₁.heap.objs.size + 1], ¬ Av env P O b ∧ b < h'.objs.size := fun b hb => by
        simp only [List.mem_cons, List.not_mem_nil, or_false] at hb
        rcases hb with rfl | rfl | rfl | rfl | rfl
        · exact ⟨ge 4, lt5 4 (by decide)⟩
        · exact ⟨ge 2, lt5 2 (by decide)⟩
        · exact ⟨ge 3, lt5 3 (by decide)⟩
        · exact ⟨ge 0, lt5 0 (by decide)⟩
        · exact ⟨ge 1, lt5 1 (by decide)⟩
      refine ⟨X1.trans X2, by simp [asZip]; omega, s₁.heap.objs.size + 4, [s₁.heap.objs.size + 4, s₁.heap.objs.size + 3, s₁.heap.objs.size, s₁.heap.objs.size + 1], _, rfl,
        wk_zip (vs := us) (t := t) hA.1 D0 hN ⟨hna, Nat.lt_trans hlt (lt5 0 (by decide))⟩ hlen hc, ⟨Z, ?_⟩, ?_⟩
      · refine hr.mono (fun a o _ e => hk a o e) fun a ha => ?_
        rcases ha with ha | ha | ha
        · exact .inl ha
        · refine .inr (get_none ?_)
          simp only [List.mem_cons, List.not_mem_nil, or_false] at ha
          rcases ha with rfl | rfl | rfl | rfl
          · exact Nat.le_add_right _ _
          · exact Nat.le_add_right _ _
          · exact Nat.le_refl _
          · exact Nat.le_add_right _ _
        · exact .inr (get_none (Nat.le_trans (Nat.le_of_lt (lt5 0 (by decide))) ha))
      · intro b hb'
        refine ⟨?_, (hN b ?_).2⟩
        · simp only [List.mem_cons, List.not_mem_nil, or_false] at hb'
          rcases hb' with rfl | rfl | rfl | rfl
          · exact Nat.le_trans X1.size (Nat.le_add_right _ _)
          · exact Nat.le_trans X1.size (Nat.le_add_right _ _)
          · exact X1.size
          · exact Nat.le_trans X1.size (Nat.le_add_right _ _)
        · simp only [List.mem_cons, List.not_mem_nil, or_false] at hb' ⊢
          rcases hb' with h | h | h | h <;> simp [h]
    · cases h
  · cases h
end Mine

end
section
open PySem PySem.W PySem.Calls PyProof.Rows
set_option Elab.async false
set_option maxRecDepth 100000
namespace Mine

/-! own += list -/
theorem lk_list_iadd : seqSlot? (.type "list") (dunderI "add") = pure (some (.builtin "list.__iadd__")) := PySem.seqSlot_of (T := "list") F.slot_list_iadd.lookup (by decide +kernel)
theorem fills_list_iadd : fillsInplaceSlot (.type "list") "add" (Operator.Add == .Add) = pure false := by
  unfold fillsInplaceSlot
  show (typeLookup (.type "list") (dunderI "add") >>= fun fi => pure (fi.isSome && !isSeqSlot fi)) = pure false
  rw [F.slot_list_iadd.lookup, pure_bind]
  have : isSeqSlot (some (.builtin "list.__iadd__")) = true := by decide +kernel
  rw [this]; rfl
theorem fills_list_add : fillsNumberSlot (.type "list") "add" = pure false :=
  PySem.fillsNumberSlot_seq (id := "list.__add__") (r := none) F.slot_list_add.lookup (by decide +kernel) (by rw [typeLookup_type, builtinLookup_eq_fast]; kernel_rfl) (by decide +kernel)
theorem iadd_list {prog : Program} {w : World} {A : Around} {E : Value → Shared → Prop} {s : Shared} {a b : Addr} {vs us : Array Value} {n m : Nat} {Q : Value → Shared → Prop} (ha : s.heap.get? a = some { cls := .type "list", data := .seq vs n }) (hb : s.heap.get? b = some { cls := .type "list", data := .seq us m })
    (hz : vs.size + us.size ≤ sizeLine) (hQ : ∀ h' k, h'.get? a = some { cls := .type "list", data := .seq (vs ++ us) k } → Heap.SameBut a s.heap h' → Q (.ref a) { s with heap := h' }) :
    wpAny (model prog w) A (inplaceOp .Add (.ref a) (.ref b)) Q E s := by
  have hta : s.TypeIs (.ref a) "list" := ⟨_, ha, rfl⟩
  have htb : s.TypeIs (.ref b) "list" := ⟨_, hb, rfl⟩
  unfold inplaceOp
  refine wpAny_holding ?_
  refine wpAny_bind (wpAny_typeOf hta ?_)
  refine wpAny_bind (wpAny_of_eq fills_list_iadd ?_)
  simp only [Bool.false_eq_true, if_false]
  refine wpAny_bind (wpAny_binaryOp1_none (nm := "add") hta htb fills_list_add ?_)
  refine wpAny_bind (wpAny_of_eq lk_list_iadd ?_)
  refine wpAny_bind (wpAny_rule ?_)
  have hm : ∃ k, Obj.mapSeq (fun x => x ++ us) { cls := .type "list", data := .seq vs n } = { cls := .type "list", data := .seq (vs ++ us) k } := ⟨_, rfl⟩
  obtain ⟨k, hm⟩ := hm
  have hno : ¬ (!vs.isEmpty && Builtin.List.listTooLong (vs.size + us.size)) = true := by
    intro h
    have := (Bool.and_eq_true_iff.mp h).2
    unfold Builtin.List.listTooLong at this
    have := of_decide_eq_true this
    omega
  refine call_meets F.slot_list_iadd hta F.entry_list_iadd (F.args_list_iadd_2 _ _) (AutoSeq1.list___iadd___list_list_0 a vs n b us m hno (by omega) (by omega)) ⟨ha, hb, ?_⟩
  exact hQ _ k (by rw [Heap.get?_update_self _ ha (by rw [hm]; rfl), hm]) (Heap.SameBut.update ..)

/-- a name is bound once more to its own list -/
theorem FrV.storeSame {cx : Cx} {sc : Scope} {tab : List (Option Str)} {env : Env} {P : Avd} {O : Nat → Option Addr} {vm : Str → Option Value} {s : Shared} {ρ : List Slot} {prog : Program} {w : World} {A : Around} (F : FrV cx sc tab env P O vm s ρ) {i : Nat} {x : Str} {a : Addr} {xs : List D} {Q : Unit → Shared → Prop} (ht : tab[i]? = some (some x)) (hnf : sc.names.lookup x = some .free → False)
    (hr : ρ[i]? = some (.own xs)) (hO : O i = some a) (hQ : ∀ s' vm', FrV cx sc tab env P O vm' s' ρ → Tr env O s O s' → Q () s') : W prog w A (storeName env x (.ref a)) Q s := by
  refine F.storeRaw ht hnf fun s' hg ho hsz hk hns hcell => ?_
  have hk' : ∀ b o, ¬ Av env P O b → s.heap.get? b = some o → s'.heap.get? b = some o := fun b o hn e => hk b o (fun e' => hn (.inr (.inr (.inl e')))) (fun y e' => hn (.inr (.inr (.inr ⟨y, e'⟩)))) e
  have hown : ∀ j b o, O j = some b → s.heap.get? b = some o → s'.heap.get? b = some o := fun j b o e e' => hk b o (F.ownApart j b e).1 (F.ownApart j b e).2 e'
  have hset : ρ.set i (.own xs) = ρ := by
    apply List.ext_getElem?
    intro j
    by_cases hj : j = i
    · subst hj
      have hlt : j < ρ.length := (List.getElem?_eq_some_iff.mp hr).1
      rw [List.getElem?_set_self hlt, hr]
    · rw [List.getElem?_set_ne (Ne.symm hj)]
  have hsl := F.slots i x _ ht hr
  obtain ⟨a', vs, n, e1, e2, e3, e4, r⟩ := hsl
  rw [hO] at e1
  cases e1
  have := F.put (v := .ref a) (O' := O) (sl' := .own xs) ht hsz hk hns hcell (fun _ _ => rfl) (fun b hb => by
      rw [hO] at hb; cases hb
      exact ⟨F.fresh a (.inl ⟨i, hO⟩), F.ownApart i a hO, fun j hj e => hj (F.ownInj j i a e hO), F.ownNP i a hO, xs, rfl⟩)
    (fun j y sl hj h1 h2 => slot_tr (F.slots j y sl h1 h2) hk' (fun _ h => .inl h) rfl fun b o e e' => hown j b o e e')
    ⟨a, vs, n, hO, rfl, hown i a _ hO e3, e4, r.mono hk' fun _ h => .inl h⟩
  rw [hset] at this
  exact hQ s' _ this ⟨hg, ho, Nat.le_of_eq hsz.symm, fun b o hn e => hk b o (fun e' => hn (.inr (.inl e'))) (fun y e' => hn (.inr (.inr ⟨y, e'⟩))) e, fun j b h => .inl ⟨j, h⟩⟩

noncomputable def extS (i : Nat) (f : Rho → Option D) : Rho → Option (Out × Rho) := fun ρ => match ρ[i]? with
  | some (.own xs) => (f ρ).bind fun d => match d with
    | .list ds => if xs.length + ds.length ≤ 10000000 then some (.next, ρ.set i (.own (xs ++ ds))) else none
    | _ => none
  | _ => none
theorem s1_ext {J : Jd} {x : Str} {p pos : Pos} {value : PySem.Expr} {f : Rho → Option D} (i : Nat) (hv : SE J value f) (ht : J.tab[i]? = some (some x) := by rfl) (hf : (J.sc.names.lookup x == some .free) = false := by rfl)
    (hd : (x == ("__classdict__" : Str)) = false := by rfl) : S1 J (.AugAssign (.Name x p) .Add value pos) (extS i f) := fun A env P O vm s ρ out ρ' hA Fr h => by
  unfold extS at h
  split at h
  · rename_i xs hr
    rw [Option.bind_eq_some_iff] at h
    obtain ⟨d, hd', h⟩ := h
    split at h
    · rename_i ds
      split at h
      · rename_i hz
        cases h
        have hsz := szl
        rw [exec_AugAssign_Name]
        obtain ⟨a, vs, n, e1, e2, e3, e4, ra⟩ := Fr.slots i x _ ht hr
        refine W.bind (W.standAt (W.bind (Fr.load ht e2 ?_ hd)))
        refine W.bind (W.holding (W.mono (hv A env P O vm s ρ _ hA Fr hd') fun y s₁ ⟨X1, r1⟩ => ?_))
        rw [Rd] at r1
        obtain ⟨b, us, m, rfl, hob, hnb, hzb, rb⟩ := r1
        have F1 := Fr.ext X1
        have l1 := ra.length
        have l2 := rb.length
        rw [Array.length_toList] at l1 l2
        refine W.bind (W.standAt (W.bind (W.operate (W.of_any (iadd_list (X1.keep _ _ e3) hob (by omega) fun h' k ho' hs' => ?_)))))
        obtain ⟨F2, T2⟩ := F1.mutate (s' := { s₁ with heap := h' }) (ds := xs ++ ds) ht hr e1 rfl rfl hs' ho' (by rw [Array.size_append]; omega) (by rw [Array.toList_append]; exact (ra.keep X1.keep).append rb)
        refine W.bind (W.standAt (W.bind ?_))
        unfold bindName
        have hlt : i < ρ.length := (List.getElem?_eq_some_iff.mp hr).1
        exact W.bind (W.holding (W.point (W.bind (F2.storeSame (xs := xs ++ ds) ht (fun e => by rw [e] at hf; simp at hf) (List.getElem?_set_self hlt) e1 fun s' vm' F3 T3 => W.point (W.pure ⟨rfl, O, vm', F3, (X1.tr.trans T2).trans T3⟩)))))
      · cases h
    · cases h
  · cases h
theorem rec_con {cx : Cx} {fv : Value} {c : Nat} {r : Nat → List D → Option D} (h0 : ∀ ds, r 0 ds = none) (h : ∀ n, Con cx (n + c) fv (r n) → Con cx (n + c + 1) fv (r (n + 1))) : ∀ n, Con cx (n + c) fv (r n)
  | 0 => fun A V s ds vs d _ _ _ _ e => by rw [h0] at e; cases e
  | n + 1 => by
    have := h n (rec_con h0 h n)
    rw [show n + 1 + c = n + c + 1 by omega]
    exact this
theorem ble_self (n : Nat) : Nat.ble n n = true := Nat.ble_eq_true_of_le (Nat.le_refl n)
end Mine

end
section
open PySem PySem.W PySem.Calls PyProof.Rows
set_option Elab.async false
set_option maxRecDepth 100000
set_option linter.unusedSimpArgs false
namespace Mine

/-! closeAt of longer texts -/
theorem closeAt_free : ∀ {m : List Nat}, 93 ∉ m → closeAt m = none
  | [], _ => rfl
  | c :: m, h => by
    rw [List.mem_cons, not_or] at h
    rw [closeAt, if_neg (Ne.symm h.1), closeAt_free h.2]
    split <;> rfl
theorem closeAt_parts : ∀ {m : List Nat} {k : Nat}, closeAt m = some k → ∃ q, m.take (k + 1) = q ++ [93] ∧ q.length = k ∧ ∀ c ∈ q, c ≠ 93 ∧ c ≠ 10
  | [], _, h => by simp [closeAt] at h
  | c :: m, k, h => by
    rw [closeAt] at h
    by_cases h1 : c = 93
    · rw [if_pos h1] at h; cases h; exact ⟨[], by simp [h1], rfl, by simp⟩
    · rw [if_neg h1] at h
      by_cases h2 : c = 10
      · rw [if_pos h2] at h; cases h
      · rw [if_neg h2, Option.map_eq_some_iff] at h
        obtain ⟨j, hj, rfl⟩ := h
        obtain ⟨q, e1, e2, e3⟩ := closeAt_parts hj
        exact ⟨c :: q, by rw [List.take_succ_cons, e1]; rfl, by simp [e2], fun d hd => by
          rcases List.mem_cons.mp hd with rfl | hd
          · exact ⟨h1, h2⟩
          · exact e3 d hd⟩

/-! the pieces have signs, and not too many -/
theorem parse_ne : ∀ (f : Nat) (r : List Nat), ∀ x ∈ parse f r, x.1 ≠ []
  | 0, _, x, h => by simp [parse] at h
  | _ + 1, [], x, h => by simp [parse] at h
  | f + 1, c :: r, x, h => by
    unfold parse at h
    split at h
    · rcases List.mem_cons.mp h with rfl | h
      · simp
      · exact parse_ne f _ x h
    · split at h
      · rcases List.mem_cons.mp h with rfl | h
        · simp
        · exact parse_ne f _ x h
      · split at h
        · exact parse_ne f _ x h
        · simp at h; rw [h]; simp
theorem parse_size : ∀ (f : Nat) (r : List Nat), ((parse f r).map fun x => x.1.length).sum ≤ r.length
  | 0, _ => by simp [parse]
  | _ + 1, [] => by simp [parse]
  | f + 1, c :: r => by
    unfold parse
    split
    · have h1 := parse_size f (r.dropWhile (· != 91))
      have h2 := tw_len (p := (· != 91)) r
      simp only [List.map_cons, List.sum_cons, List.length_cons]; omega
    · split
      · rename_i k hk
        have h1 := parse_size f (r.drop (k + 1))
        have h2 := closeAt_lt r k hk
        rw [List.length_drop] at h1
        simp only [List.map_cons, List.sum_cons, List.length_cons, List.length_take]; omega
      · split
        · have := parse_size f r
          simp only [List.length_cons]; omega
        · simp


/-! a text's runs, each [ left out -/
theorem first_cut (m : List Nat) : (91 ∉ m) ∨ ∃ a r, m = a ++ 91 :: r ∧ 91 ∉ a := by
  induction m with
  | nil => exact .inl (by simp)
  | cons c m ih =>
    by_cases hc : c = 91
    · subst hc; exact .inr ⟨[], m, rfl, by simp⟩
    · rcases ih with h | ⟨a, r, h1, h2⟩
      · exact .inl (by simp [Ne.symm hc, h])
      · exact .inr ⟨c :: a, r, by rw [h1]; rfl, by simp [Ne.symm hc, h2]⟩
theorem tw_run {a t : List Nat} (ha : 91 ∉ a) (ht : t = [] ∨ ∃ t', t = 91 :: t') : (a ++ t).takeWhile (· != 91) = a ∧ (a ++ t).dropWhile (· != 91) = t := by
  have h1 : ∀ x ∈ a, (x != 91) = true := fun x hx => by simp; rintro rfl; exact ha hx
  rw [List.takeWhile_append_of_pos h1, List.dropWhile_append_of_pos h1]
  rcases ht with rfl | ⟨t', rfl⟩ <;> simp
theorem toks_run1 {a t : List Nat} (hne : a ≠ []) (ha : 91 ∉ a) (ht : t = [] ∨ ∃ t', t = 91 :: t') : toks (a ++ t) = (a, 1) :: toks t := by
  cases a with
  | nil => exact absurd rfl hne
  | cons c a =>
    rw [List.mem_cons, not_or] at ha
    have h := tw_run ha.2 ht
    rw [List.cons_append, toks_run (Ne.symm ha.1), h.1, h.2]
/-! a text's last piece -/
noncomputable def LastOk (p : List Nat) (g : Nat) : Prop := (g = 1 ∧ p ≠ [] ∧ 91 ∉ p) ∨ (g = 2 ∧ ∃ q, p = 91 :: (q ++ [93]) ∧ ∀ c ∈ q, c ≠ 93 ∧ c ≠ 10) ∨ (g = 3 ∧ ∃ q, p = 91 :: q ∧ 93 ∉ q)
/-! the pieces' forms -/
noncomputable def okT : List (List Nat × Nat) → Prop
  | [] => True
  | (p, g) :: ts => LastOk p g ∧ (g = 3 → ts = []) ∧ okT ts
theorem parse_ok : ∀ (f : Nat) (r : List Nat), r.length < f → okT (parse f r)
  | 0, _, h => absurd h (Nat.not_lt_zero _)
  | f + 1, [], _ => trivial
  | f + 1, c :: r, h => by
    simp only [List.length_cons] at h
    unfold parse
    split
    · rename_i hc
      refine ⟨.inl ⟨rfl, by simp, ?_⟩, fun e => absurd e (by decide), parse_ok f _ (by have := tw_len (p := (· != 91)) r; omega)⟩
      intro hm
      rcases List.mem_cons.mp hm with e | hm
      · exact hc e.symm
      · have : ∀ x ∈ r.takeWhile (· != 91), (x != 91) = true := fun x hx => by
          have := List.all_takeWhile (p := (· != 91)) (l := r)
          exact List.all_eq_true.mp this x hx
        simpa using this 91 hm
    · rename_i hc
      have hc : c = 91 := by simpa using hc
      split
      · rename_i k hk
        obtain ⟨q, e1, e2, e3⟩ := closeAt_parts hk
        exact ⟨.inr (.inl ⟨rfl, q, by rw [e1], e3⟩), fun e => absurd e (by decide), parse_ok f _ (by rw [List.length_drop]; omega)⟩
      · split
        · exact parse_ok f r (by omega)
        · rename_i hm
          exact ⟨.inr (.inr ⟨rfl, r, rfl, hm⟩), fun _ => rfl, trivial⟩
theorem toks_okT (l : List Nat) : okT (toks l) := parse_ok _ _ (Nat.lt_succ_self _)

/-! a ] behind an open end -/
theorem splitC_ne (c : Nat) : ∀ l : List Nat, splitC c l ≠ []
  | [] => by simp [splitC]
  | x :: r => by
    rw [splitC]
    split
    · simp
    · split <;> simp
end Mine

end
section
open PySem PySem.W PySem.Calls PyProof.Rows
set_option Elab.async false
set_option maxRecDepth 100000
set_option maxHeartbeats 4000000
namespace Mine

noncomputable def p_law_sign : Rho → Option (Out × Rho) := seqS (setS (nameA 1) (binE opMod (vE 0) (cE (.int 16)))) (seqS (ifS (cmpB opLt (vE 1) (cE (.int 12))) (seqS (retS (itemE (cE (.str [91, 91, 91, 91, 93, 93, 93, 93, 10, 10, 97, 42])) (vE 1))) (skS)) (skS)) (seqS (setS (nameA 2) (binE opMod (binE opDiv (vE 0) (cE (.int 16))) (cE (.int 1112064)))) (seqS (retS (callE chrF (consF (ifE (cmpB opLt (vE 2) (cE (.int 55296))) (vE 2) (binE opAdd (vE 2) (cE (.int 2048)))) (nilF)))) (skS))))
noncomputable def p_law_peel (G : List D → Option D) : Rho → Option (Out × Rho) := seqS (ownS 2 (listL (nilF))) (seqS (forS (itE asPieces (vE 0)) (nameA 3) (seqS (setS (nameA 4) (methE isMatD groupF (vE 3) (consF (cE (.int 0)) (nilF)))) (seqS (setS (nameA 5) (methE isMatD groupF (vE 3) (consF (cE (.str [115, 101, 116])) (nilF)))) (seqS (ifS (andB (cmpB opIs (vE 5) (cE .none)) (cmpB opNe (itemE (vE 4) (cE (.int 0))) (cE (.str [91])))) (seqS (appS 2 (tupE (consF (vE 1) (consF (vE 4) (nilF))))) (skS)) (seqS (appS 2 (tupE (consF (vE 1) (consF (cE (.str [91])) (nilF))))) (seqS (extS 2 (callE G (consF (ifE (cmpB opIs (vE 5) (cE .none)) (cutE (vE 4) (intP (cE (.int 1))) (noP)) (cutE (vE 5) (intP (cE (.int 1))) (intP (negE (cE (.int 1)))))) (consF (binE opAdd (vE 1) (cE (.int 1))) (nilF))))) (skS)))) (skS))))) (frzS 2 (seqS (retS (vE 2)) (skS))))
noncomputable def r_law_peel : Nat → List D → Option D
  | 0 => fun _ => none
  | n + 1 => runF 2 4 (p_law_peel (r_law_peel n))
noncomputable def p_law_leaves : Rho → Option (Out × Rho) := seqS (ownS 1 (listL (nilF))) (seqS (setS (nameA 2) (cE (.int 0))) (seqS (forS (itE asRev (vE 0)) (nameA 3) (seqS (ifS (cmpB opEq (vE 3) (cE (.str [93]))) (seqS (setS (nameA 2) (cE (.int 1))) (skS)) (seqS (ifS (andB (cmpB opEq (vE 3) (cE (.str [10]))) (cmpB opEq (vE 2) (cE (.int 1)))) (seqS (setS (nameA 2) (cE (.int 2))) (skS)) (skS)) (skS))) (seqS (appS 1 (vE 2)) (skS)))) (seqS (revS 1) (seqS (ownS 4 (listL (nilF))) (seqS (setS (nameA 5) (cE (.bool true))) (seqS (setS (twoA (nameA 6) (nameA 7)) (cE (.int 0))) (frzS 1 (seqS (forS (zipE (vE 0) (vE 1)) (tupA [3, 2]) (seqS (ifS (cmpB opEq (vE 3) (cE (.str [91]))) (seqS (augS 6 opIAdd (cE (.int 1))) (seqS (augS 7 opIAdd (cE (.int 1))) (skS))) (skS)) (seqS (setS (nameA 8) (itemE (tupE (consF (vE 6) (consF (vE 7) (consF (cE (.int 0)) (nilF))))) (vE 2))) (seqS (ifS (andB (cmpB opEq (vE 3) (cE (.str [91]))) (truB (vE 8))) (seqS (appS 4 (tupE (consF (binE opSub (vE 8) (cE (.int 1))) (consF (cE (.str [91])) (nilF))))) (skS)) (skS)) (seqS (ifS (orB (cmpB opEq (vE 3) (cE (.str [91]))) (andB (cmpB opEq (vE 3) (cE (.str [93]))) (truB (vE 8)))) (seqS (setS (nameA 5) (cE (.bool true))) (skS)) (seqS (ifS (truB (vE 5)) (seqS (appS 4 (tupE (consF (vE 8) (consF (vE 3) (nilF))))) (seqS (setS (nameA 5) (cE (.bool false))) (skS))) (seqS (lastS 4 (tupE (consF (itemE (ownItemE 4 (negE (cE (.int 1)))) (cE (.int 0))) (consF (binE opAdd (itemE (ownItemE 4 (negE (cE (.int 1)))) (cE (.int 1))) (vE 3)) (nilF))))) (skS))) (skS))) (seqS (ifS (cmpB opEq (vE 3) (cE (.str [93]))) (seqS (setS (twoA (nameA 6) (nameA 7)) (cE (.int 0))) (skS)) (seqS (ifS (cmpB opEq (vE 3) (cE (.str [10]))) (seqS (setS (nameA 7) (cE (.int 0))) (skS)) (skS)) (skS))) (skS))))))) (frzS 4 (seqS (retS (vE 4)) (skS)))))))))))
noncomputable def plaw : Rho → Option (Out × Rho) := seqS (setS (nameA 1) (methE isStrD joinF (cE (.str [])) (consF (listF (compF ["number"] (itE asList (cutE (vE 0) (noP) (intP (cE (.int 64))))) (nameA 3) (tt) (emE (callE (runF 1 2 p_law_sign) (consF (vE 3) (nilF)))))) (nilF)))) (seqS (forS (itE asTup (tupE (consF (vE 1) (consF (binE opAdd (binE opAdd (cE (.str [97, 91, 98, 91])) (vE 1)) (cE (.str [93, 99, 10, 93]))) (nilF))))) (nameA 2) (seqS (ifS (cmpB opNe (callE (r_law_peel 100) (consF (vE 2) (consF (cE (.int 0)) (nilF)))) (callE (runF 1 8 p_law_leaves) (consF (vE 2) (nilF)))) (seqS (retS (cE (.bool false))) (skS)) (skS)) (skS))) (seqS (retS (cE (.bool true))) (skS)))
end Mine

end
section
open PySem PySem.W PySem.Calls PyProof.Rows
set_option Elab.async false
set_option maxRecDepth 100000
set_option linter.unusedSimpArgs false
namespace Mine

/-! what stands ahead -/
noncomputable def stA : List Nat → Nat
  | [] => 0
  | c :: r => if c = 93 then 1 else if c = 10 ∧ stA r = 1 then 2 else stA r
theorem st_free : ∀ {l : List Nat}, 93 ∉ l → stA l = 0
  | [], _ => rfl
  | c :: r, h => by
    rw [List.mem_cons, not_or] at h
    rw [stA, if_neg (Ne.symm h.1), st_free h.2, if_neg (by simp)]
theorem st_at {q rest : List Nat} : (∀ c ∈ q, c ≠ 93 ∧ c ≠ 10) → stA (q ++ 93 :: rest) = 1 := by
  induction q with
  | nil => intro _; rfl
  | cons c q ih =>
    intro h
    have h1 := h c (List.mem_cons_self ..)
    rw [List.cons_append, stA, if_neg h1.1, if_neg (fun e => h1.2 e.1), ih fun d hd => h d (List.mem_cons_of_mem _ hd)]
theorem st_le : ∀ l : List Nat, stA l ≤ 2
  | [] => by simp [stA]
  | c :: r => by
    have := st_le r
    rw [stA]; split
    · omega
    · split <;> omega
theorem st_pos : ∀ {l : List Nat}, 93 ∈ l → stA l ≠ 0
  | c :: r, h => by
    rw [stA]
    by_cases hc : c = 93
    · rw [if_pos hc]; decide
    · rw [if_neg hc]
      split
      · decide
      · exact st_pos (by simpa [Ne.symm hc] using h)
theorem st_none : ∀ {r : List Nat}, closeAt r = none → 93 ∈ r → stA r = 2
  | [], _, h => by simp at h
  | c :: r, hk, h => by
    rw [closeAt] at hk
    by_cases h1 : c = 93
    · rw [if_pos h1] at hk; cases hk
    · rw [if_neg h1] at hk
      have hr : 93 ∈ r := by simpa [Ne.symm h1] using h
      rw [stA, if_neg h1]
      by_cases h2 : c = 10
      · have := st_pos hr
        have := st_le r
        by_cases h3 : stA r = 1
        · rw [if_pos ⟨h2, h3⟩]
        · rw [if_neg (fun e => h3 e.2)]; omega
      · rw [if_neg h2, Option.map_eq_none_iff] at hk
        rw [if_neg (fun e => h2 e.1), st_none hk hr]

/-! one sign's turn -/
noncomputable def depT (s c b ln : Nat) : Nat := if s = 0 then (if c = 91 then b + 1 else b) else if s = 1 then (if c = 91 then ln + 1 else ln) else 0
noncomputable def extL (acc : List (Nat × List Nat)) (c : Nat) : List (Nat × List Nat) := match acc.getLast? with
  | some x => acc.dropLast ++ [(x.1, x.2 ++ [c])]
  | none => []
noncomputable def accT (s c b ln : Nat) (fr : Bool) (acc : List (Nat × List Nat)) : List (Nat × List Nat) :=
  if c = 91 then (if depT s c b ln = 0 then acc else acc ++ [(depT s c b ln - 1, [91])])
  else if c = 93 ∧ depT s c b ln ≠ 0 then acc else if fr then acc ++ [(depT s c b ln, [c])] else extL acc c
noncomputable def frT (s c b ln : Nat) : Bool := decide (c = 91) || (decide (c = 93) && decide (depT s c b ln ≠ 0))
noncomputable def bT (c b : Nat) : Nat := if c = 93 then 0 else if c = 91 then b + 1 else b
noncomputable def lnT (c ln : Nat) : Nat := if c = 93 then 0 else if c = 10 then 0 else if c = 91 then ln + 1 else ln
noncomputable def goL : Nat → Nat → Bool → List (Nat × List Nat) → List Nat → List (Nat × List Nat)
  | _, _, _, acc, [] => acc
  | b, ln, fr, acc, c :: r => goL (bT c b) (lnT c ln) (frT (stA (c :: r)) c b ln) (accT (stA (c :: r)) c b ln fr acc) r

theorem ext_snoc (A : List (Nat × List Nat)) (d : Nat) (p : List Nat) (c : Nat) : extL (A ++ [(d, p)]) c = A ++ [(d, p ++ [c])] := by simp [extL]

/-! signs of one depth -/
noncomputable def flushN (d : Nat) (p : List Nat) : List (Nat × List Nat) := if p = [] then [] else [(d, p)]
/-- what goes on behind a run: its depth d is kept; the counts' change -/
noncomputable def cntB : List Nat → Nat → Nat
  | [], b => b
  | c :: r, b => cntB r (bT c b)
noncomputable def cntL : List Nat → Nat → Nat
  | [], b => b
  | c :: r, b => cntL r (lnT c b)
theorem go_same {d : Nat} {t : List Nat} : ∀ (p : List Nat) (b ln : Nat) (fr : Bool) (A : List (Nat × List Nat)) (q : List Nat), (fr = true → q = []) → (fr = false → q ≠ []) → 91 ∉ p →
    (∀ p1 c p2, p = p1 ++ c :: p2 → depT (stA (c :: (p2 ++ t))) c (cntB p1 b) (cntL p1 ln) = d ∧ (c = 93 → d = 0)) →
    ∃ fr', goL b ln fr (A ++ flushN d q) (p ++ t) = goL (cntB p b) (cntL p ln) fr' (A ++ flushN d (q ++ p)) t ∧ (p ≠ [] → fr' = false) ∧ (p = [] → fr' = fr)
  | [], b, ln, fr, A, q, _, _, _, _ => ⟨fr, by simp [cntB, cntL], fun h => absurd rfl h, fun _ => rfl⟩
  | c :: p, b, ln, fr, A, q, h1, h2, h91, hd => by
    have hc : c ≠ 91 := fun e => h91 (by simp [e])
    obtain ⟨hdep, h93⟩ := hd [] c p rfl
    simp only [cntB, cntL] at hdep
    have hfr : frT (stA (c :: (p ++ t))) c b ln = false := by
      unfold frT
      rw [hdep, decide_eq_false hc]
      by_cases h : c = 93
      · rw [h93 h]; simp
      · simp [h]
    have hacc : accT (stA (c :: (p ++ t))) c b ln fr (A ++ flushN d q) = A ++ flushN d (q ++ [c]) := by
      unfold accT
      rw [if_neg hc, hdep, if_neg (fun e => e.2 (h93 e.1))]
      cases fr with
      | true => rw [h1 rfl]; simp [flushN]
      | false =>
        have hq := h2 rfl
        simp only [flushN, hq, if_false, Bool.false_eq_true]
        rw [ext_snoc]; simp
    obtain ⟨fr', ih, i1, i2⟩ := go_same p (bT c b) (lnT c ln) false A (q ++ [c]) (fun e => by cases e) (fun _ => by simp) (fun h => h91 (by simp [h])) (fun p1 c' p2 e => by
      have := hd (c :: p1) c' p2 (by rw [e]; rfl)
      simpa [cntB, cntL] using this)
    refine ⟨fr', ?_, fun _ => ?_, fun h => by cases h⟩
    · rw [List.cons_append, goL, hfr, hacc, ih]
      simp [cntB, cntL]
    · by_cases hp : p = []
      · exact i2 hp
      · exact i1 hp

/-! the leaves of a text without ] -/
noncomputable def nestN : List (List Nat) → Nat → List (Nat × List Nat)
  | [], _ => []
  | [p], d => flushN d p
  | p :: q :: ps, d => flushN d p ++ (d, [91]) :: nestN (q :: ps) (d + 1)
theorem nest_cut {a r : List Nat} {d : Nat} (h : 91 ∉ a) : nestN (splitC 91 (a ++ 91 :: r)) d = flushN d a ++ (d, [91]) :: nestN (splitC 91 r) (d + 1) := by
  rw [splitC_app h]
  cases hs : splitC 91 r with
  | nil => exact absurd hs (splitC_ne 91 r)
  | cons x xs => rfl
theorem cntB_run : ∀ {p : List Nat} {b : Nat}, 91 ∉ p → 93 ∉ p → cntB p b = b
  | [], _, _, _ => rfl
  | c :: p, b, h1, h2 => by
    rw [List.mem_cons, not_or] at h1 h2
    rw [cntB, bT, if_neg (Ne.symm h2.1), if_neg (Ne.symm h1.1), cntB_run h1.2 h2.2]
theorem cntL_run : ∀ {p : List Nat} {b : Nat}, 91 ∉ p → (∀ c ∈ p, c ≠ 93 ∧ c ≠ 10) → cntL p b = b
  | [], _, _, _ => rfl
  | c :: p, b, h1, h2 => by
    rw [List.mem_cons, not_or] at h1
    have := h2 c (List.mem_cons_self ..)
    rw [cntL, lnT, if_neg this.1, if_neg this.2, if_neg (Ne.symm h1.1), cntL_run h1.2 fun d hd => h2 d (List.mem_cons_of_mem _ hd)]
/-- an open end's inside -/
theorem go_open : ∀ (n : Nat) (q : List Nat), q.length ≤ n → 93 ∉ q → ∀ (d ln : Nat) (A : List (Nat × List Nat)), goL d ln true A q = A ++ nestN (splitC 91 q) d := by
  intro n
  induction n with
  | zero =>
    intro q hq _ d ln A
    have : q = [] := List.length_eq_zero_iff.mp (by omega)
    subst this
    simp [goL, splitC, nestN, flushN]
  | succ n ih =>
    intro q hq h93 d ln A
    have hdep : ∀ (a t : List Nat), 91 ∉ a → 93 ∉ a ++ t → ∀ p1 c p2, a = p1 ++ c :: p2 → depT (stA (c :: (p2 ++ t))) c (cntB p1 d) (cntL p1 ln) = d ∧ (c = 93 → d = 0) := fun a t ha ht p1 c p2 e => by
      have hc91 : c ≠ 91 := fun h => ha (by rw [e, h]; simp)
      have hc93 : c ≠ 93 := fun h => ht (by rw [e, h]; simp)
      have hs : stA (c :: (p2 ++ t)) = 0 := st_free (fun h => ht (by rw [e]; simp at h ⊢; rcases h with h | h | h <;> simp [h]))
      have hb : cntB p1 d = d := cntB_run (fun h => ha (by rw [e]; simp [h])) (fun h => ht (by rw [e]; simp [h]))
      refine ⟨?_, fun h => absurd h hc93⟩
      rw [depT, hs, if_pos rfl, if_neg hc91, hb]
    rcases first_cut q with h | ⟨a, r, rfl, h2⟩
    · obtain ⟨fr', hg, _, _⟩ := go_same (d := d) (t := []) q d ln true A [] (fun _ => rfl) (fun e => by cases e) h (hdep q [] h (by simpa using h93))
      rw [List.append_nil] at hg
      rw [show A = A ++ flushN d [] by simp [flushN], hg, goL, splitC_free h]
      simp [nestN, flushN]
    · obtain ⟨fr', hg, _, _⟩ := go_same (d := d) (t := 91 :: r) a d ln true A [] (fun _ => rfl) (fun e => by cases e) h2 (hdep a (91 :: r) h2 h93)
      have hr93 : 93 ∉ r := fun h => h93 (by simp [h])
      have hs : stA (91 :: r) = 0 := st_free (by simp [hr93])
      have hb : cntB a d = d := cntB_run h2 (fun h => h93 (by simp [h]))
      rw [show A = A ++ flushN d [] by simp [flushN], hg, List.nil_append, goL, hs, hb]
      have e1 : accT 0 91 d (cntL a ln) fr' (A ++ flushN d a) = A ++ flushN d a ++ [(d, [91])] := by simp [accT, depT]
      have e2 : frT 0 91 d (cntL a ln) = true := by simp [frT]
      have e3 : bT 91 d = d + 1 := by simp [bT]
      rw [e1, e2, e3, ih r (by simp at hq; omega) hr93, nest_cut h2]
      simp [flushN]
/-- a set's inside, up to its ] -/
theorem go_set {rest : List Nat} : ∀ (n : Nat) (q : List Nat), q.length ≤ n → (∀ c ∈ q, c ≠ 93 ∧ c ≠ 10) → ∀ (b d : Nat), d ≠ 0 → ∀ (A : List (Nat × List Nat)), goL b d true A (q ++ 93 :: rest) = goL 0 0 true (A ++ nestN (splitC 91 q) d) rest := by
  intro n
  induction n with
  | zero =>
    intro q hq _ b d hd A
    have : q = [] := List.length_eq_zero_iff.mp (by omega)
    subst this
    have hs : stA (93 :: rest) = 1 := rfl
    rw [List.nil_append, goL, hs]
    have e1 : accT 1 93 b d true A = A := by simp [accT, depT, hd]
    have e2 : frT 1 93 b d = true := by simp [frT, depT, hd]
    rw [e1, e2]
    simp [bT, lnT, splitC, nestN, flushN]
  | succ n ih =>
    intro q hq hf b d hd A
    have hdep : ∀ (a t : List Nat), 91 ∉ a → (∀ c ∈ a, c ≠ 93 ∧ c ≠ 10) → stA t = 1 → ∀ p1 c p2, a = p1 ++ c :: p2 → depT (stA (c :: (p2 ++ t))) c (cntB p1 b) (cntL p1 d) = d ∧ (c = 93 → d = 0) := fun a t ha hfa hst p1 c p2 e => by
      have hc91 : c ≠ 91 := fun h => ha (by rw [e, h]; simp)
      have hc := hfa c (by rw [e]; simp)
      have hs : stA (c :: (p2 ++ t)) = 1 := by
        have : ∀ x : List Nat, (∀ c ∈ x, c ≠ 93 ∧ c ≠ 10) → stA (x ++ t) = 1 := by
          intro x
          induction x with
          | nil => intro _; exact hst
          | cons y x ihx =>
            intro hx
            have hy := hx y (List.mem_cons_self ..)
            rw [List.cons_append, stA, if_neg hy.1, if_neg (fun e => hy.2 e.1), ihx fun z hz => hx z (List.mem_cons_of_mem _ hz)]
        exact this (c :: p2) fun z hz => hfa z (by rw [e]; simp only [List.mem_append]; exact .inr hz)
      have hb : cntL p1 d = d := cntL_run (fun h => ha (by rw [e]; simp [h])) (fun z hz => hfa z (by rw [e]; simp [hz]))
      refine ⟨?_, fun h => absurd h hc.1⟩
      rw [depT, hs, if_neg (by decide), if_pos rfl, if_neg hc91, hb]
    rcases first_cut q with h | ⟨a, r, rfl, h2⟩
    · obtain ⟨fr', hg, _, _⟩ := go_same (d := d) (t := 93 :: rest) q b d true A [] (fun _ => rfl) (fun e => by cases e) h (hdep q (93 :: rest) h hf rfl)
      rw [show A = A ++ flushN d [] by simp [flushN], hg, List.nil_append, goL, splitC_free h, cntL_run h hf]
      have hs : stA (93 :: rest) = 1 := rfl
      rw [hs]
      have e1 : accT 1 93 (cntB q b) d fr' (A ++ flushN d q) = A ++ flushN d q := by simp [accT, depT, hd]
      have e2 : frT 1 93 (cntB q b) d = true := by simp [frT, depT, hd]
      rw [e1, e2]
      simp [bT, lnT, nestN, flushN]
    · have hfa : ∀ c ∈ a, c ≠ 93 ∧ c ≠ 10 := fun c hc => hf c (by simp [hc])
      have hfr : ∀ c ∈ r, c ≠ 93 ∧ c ≠ 10 := fun c hc => hf c (by simp [hc])
      have hs1 : stA (91 :: (r ++ 93 :: rest)) = 1 := by
        rw [stA, if_neg (by decide), if_neg (by simp), st_at hfr]
      obtain ⟨fr', hg, _, _⟩ := go_same (d := d) (t := 91 :: (r ++ 93 :: rest)) a b d true A [] (fun _ => rfl) (fun e => by cases e) h2 (hdep a (91 :: (r ++ 93 :: rest)) h2 hfa hs1)
      rw [List.append_assoc, List.cons_append, show A = A ++ flushN d [] by simp [flushN], hg, List.nil_append, goL, hs1, cntL_run h2 hfa]
      have e1 : accT 1 91 (cntB a b) d fr' (A ++ flushN d a) = A ++ flushN d a ++ [(d, [91])] := by simp [accT, depT]
      have e2 : frT 1 91 (cntB a b) d = true := by simp [frT]
      have e3 : lnT 91 d = d + 1 := by simp [lnT]
      rw [e1, e2, e3, ih r (by simp at hq; omega) hfr _ (d + 1) (by omega), nest_cut h2]
      simp [flushN]

/-! the whole text -/
noncomputable def inner (x : List Nat × Nat) : List Nat := if x.2 = 2 then (x.1.drop 1).dropLast else x.1.drop 1
noncomputable def leafT (x : List Nat × Nat) : List (Nat × List Nat) := if x.2 = 1 then [(0, x.1)] else (0, [91]) :: nestN (splitC 91 (inner x)) 1
noncomputable def InvL (l : List Nat) (b ln : Nat) : Prop := (stA l = 0 → b = 0) ∧ (stA l = 1 → ln = 0)
theorem inv_step {c b ln : Nat} {r : List Nat} (hc : c ≠ 91) (h : InvL (c :: r) b ln) : InvL r (bT c b) (lnT c ln) := by
  unfold bT lnT
  by_cases h1 : c = 93
  · simp [InvL, h1]
  · rw [if_neg h1, if_neg hc, if_neg h1, if_neg hc]
    unfold InvL at h ⊢
    rw [stA, if_neg h1] at h
    by_cases h2 : c = 10
    · rw [if_pos h2]
      refine ⟨fun e => h.1 ?_, fun _ => rfl⟩
      rw [if_neg (by rw [e]; simp), e]
    · rw [if_neg h2]
      rw [if_neg (fun e => h2 e.1)] at h
      exact h
theorem inv_run : ∀ {p t : List Nat} {b ln : Nat}, 91 ∉ p → InvL (p ++ t) b ln → InvL t (cntB p b) (cntL p ln)
  | [], _, _, _, _, h => h
  | c :: p, t, b, ln, hp, h => by
    rw [List.mem_cons, not_or] at hp
    have h' : InvL (p ++ t) (bT c b) (lnT c ln) := inv_step (Ne.symm hp.1) h
    exact inv_run (p := p) hp.2 h'
theorem dep_zero {c b ln : Nat} {r : List Nat} (hc : c ≠ 91) (h : InvL (c :: r) b ln) : depT (stA (c :: r)) c b ln = 0 := by
  unfold depT
  have := st_le (c :: r)
  by_cases h0 : stA (c :: r) = 0
  · rw [if_pos h0, if_neg hc, h.1 h0]
  · rw [if_neg h0]
    by_cases h1 : stA (c :: r) = 1
    · rw [if_pos h1, if_neg hc, h.2 h1]
    · rw [if_neg h1]
theorem go_text : ∀ (n : Nat) (l : List Nat), l.length ≤ n → ∀ (b ln : Nat) (A : List (Nat × List Nat)), InvL l b ln → goL b ln true A l = A ++ (toks l).flatMap leafT := by
  intro n
  induction n with
  | zero =>
    intro l hl b ln A _
    have : l = [] := List.length_eq_zero_iff.mp (by omega)
    subst this; simp [goL, toks_nil]
  | succ n ih =>
    intro l hl b ln A hinv
    cases l with
    | nil => simp [goL, toks_nil]
    | cons c r =>
      simp only [List.length_cons] at hl
      by_cases hc : c = 91
      · subst hc
        cases hk : closeAt r with
        | some k =>
          obtain ⟨q, e1, e2, e3⟩ := closeAt_parts hk
          have hr : r = q ++ 93 :: r.drop (k + 1) := by
            conv => lhs; rw [← List.take_append_drop (k + 1) r, e1]
            simp
          have hs : stA (91 :: r) = 1 := by rw [stA, if_neg (by decide), if_neg (by simp), hr, st_at e3]
          have hln := hinv.2 hs
          subst hln
          rw [goL, hs]
          have a1 : accT 1 91 b 0 true A = A ++ [(0, [91])] := by simp [accT, depT]
          have a2 : frT 1 91 b 0 = true := by simp [frT]
          have a3 : lnT 91 0 = 1 := by simp [lnT]
          rw [a1, a2, a3]
          conv => lhs; rw [hr]
          rw [go_set q.length q (Nat.le_refl _) e3 _ 1 (by decide)]
          rw [ih (r.drop (k + 1)) (by rw [List.length_drop]; omega) 0 0 _ ⟨fun _ => rfl, fun _ => rfl⟩, toks_set hk, List.flatMap_cons]
          have hin : inner (91 :: r.take (k + 1), 2) = q := by simp [inner, e1]
          have hl : leafT (91 :: r.take (k + 1), 2) = (0, [91]) :: nestN (splitC 91 q) 1 := by
            unfold leafT; rw [hin]; rfl
          rw [hl]; simp
        | none =>
          by_cases hm : 93 ∈ r
          · have hs : stA (91 :: r) = 2 := by rw [stA, if_neg (by decide), if_neg (by simp), st_none hk hm]
            rw [goL, hs]
            have a1 : accT 2 91 b ln true A = A := by simp [accT, depT]
            have a2 : frT 2 91 b ln = true := by simp [frT]
            rw [a1, a2, toks_skip hk hm]
            refine ih r (by omega) _ _ A ⟨fun e => ?_, fun e => ?_⟩
            · rw [st_none hk hm] at e; cases e
            · rw [st_none hk hm] at e; cases e
          · have hs : stA (91 :: r) = 0 := st_free (by simp [hm])
            have hb := hinv.1 hs
            subst hb
            rw [goL, hs]
            have a1 : accT 0 91 0 ln true A = A ++ [(0, [91])] := by simp [accT, depT]
            have a2 : frT 0 91 0 ln = true := by simp [frT]
            have a3 : bT 91 0 = 1 := by simp [bT]
            rw [a1, a2, a3, go_open r.length r (Nat.le_refl _) hm, toks_open hk hm]
            simp [leafT, inner]
      · -- a run
        have hrun : ∀ (a t : List Nat), a ≠ [] → 91 ∉ a → (t = [] ∨ ∃ t', t = 91 :: t') → c :: r = a ++ t → goL b ln true A (c :: r) = A ++ (toks (c :: r)).flatMap leafT := fun a t hne ha ht e => by
          rw [e, toks_run1 hne ha ht]
          rw [e] at hinv
          obtain ⟨fr', hg, i1, _⟩ := go_same (d := 0) (t := t) a b ln true A [] (fun _ => rfl) (fun e => by cases e) ha (fun p1 c' p2 ep => by
            have hp1 : 91 ∉ p1 := fun h => ha (by rw [ep]; simp [h])
            have hc' : c' ≠ 91 := fun h => ha (by rw [ep, h]; simp)
            rw [ep, List.append_assoc, List.cons_append] at hinv
            exact ⟨dep_zero hc' (inv_run hp1 hinv), fun _ => rfl⟩)
          rw [show A = A ++ flushN 0 [] by simp [flushN], hg, List.nil_append, i1 hne]
          have hA : A ++ flushN 0 a = A ++ [(0, a)] := by simp [flushN, hne]
          rw [hA]
          have hlt : t.length < (c :: r).length := by
            have := congrArg List.length e
            have : 0 < a.length := List.length_pos_iff.mpr hne
            simp at *; omega
          have inv' := inv_run ha hinv
          -- t begins with a [ or is at its end: whether fresh or not does not matter
          have hfr : ∀ B, goL (cntB a b) (cntL a ln) false B t = goL (cntB a b) (cntL a ln) true B t := fun B => by
            rcases ht with rfl | ⟨t', rfl⟩
            · rfl
            · rw [goL, goL]
              have : accT (stA (91 :: t')) 91 (cntB a b) (cntL a ln) false B = accT (stA (91 :: t')) 91 (cntB a b) (cntL a ln) true B := by simp [accT]
              rw [this]
          rw [hfr, ih t (by simp at hlt; omega) _ _ _ inv']
          simp [leafT, flushN]
        rcases first_cut r with h | ⟨a, r', hr', h2⟩
        · exact hrun (c :: r) [] (by simp) (by simp [Ne.symm hc, h]) (.inl rfl) (by simp)
        · exact hrun (c :: a) (91 :: r') (by simp) (by simp [Ne.symm hc, h2]) (.inr ⟨_, rfl⟩) (by rw [hr']; rfl)
end Mine

end
section
open PySem PySem.W PySem.Calls PyProof.Rows
set_option Elab.async false
set_option maxRecDepth 100000
set_option linter.unusedSimpArgs false
namespace Mine

theorem sign_ok (x : Int) : ∃ c, runF 1 2 p_law_sign [.int x] = some (.str [c]) := by
  have h1 : 0 ≤ x.fmod 16 := Int.fmod_nonneg_of_pos _ (by decide)
  have h2 : x.fmod 16 < 16 := Int.fmod_lt_of_pos _ (by decide)
  by_cases hx : x.fmod 16 < 12
  · obtain ⟨k, hk⟩ : ∃ k : Nat, x.fmod 16 = k := ⟨_, (Int.toNat_of_nonneg h1).symm⟩
    have hk' : k < 12 := by omega
    refine ⟨([91, 91, 91, 91, 93, 93, 93, 93, 10, 10, 97, 42] : List Nat)[k], ?_⟩
    have e := item_str [91, 91, 91, 91, 93, 93, 93, 93, 10, 10, 97, 42] k hk'
    simp [runF, p_law_sign, seqS, setS, nameA, ifS, cmpB, opLt, binE, opMod, vE, cE, retS, itemE, skS, hk, show ((k : Int) < 12) by omega, e]
  · have h3 : 0 ≤ (x.fdiv 16).fmod 1112064 := Int.fmod_nonneg_of_pos _ (by decide)
    have h4 : (x.fdiv 16).fmod 1112064 < 1112064 := Int.fmod_lt_of_pos _ (by decide)
    by_cases h5 : (x.fdiv 16).fmod 1112064 < 55296
    · refine ⟨((x.fdiv 16).fmod 1112064).toNat, ?_⟩
      have e : chrF [.int ((x.fdiv 16).fmod 1112064)] = some (.str [((x.fdiv 16).fmod 1112064).toNat]) := if_pos ⟨h3, by omega⟩
      simp [runF, p_law_sign, seqS, setS, nameA, ifS, cmpB, opLt, binE, opMod, opDiv, opAdd, ifE, vE, cE, retS, itemE, skS, hx, callE, consF, nilF, e, h5]
    · refine ⟨((x.fdiv 16).fmod 1112064 + 2048).toNat, ?_⟩
      have e : chrF [.int ((x.fdiv 16).fmod 1112064 + 2048)] = some (.str [((x.fdiv 16).fmod 1112064 + 2048).toNat]) := if_pos ⟨by omega, by omega⟩
      simp [runF, p_law_sign, seqS, setS, nameA, ifS, cmpB, opLt, binE, opMod, opDiv, opAdd, ifE, vE, cE, retS, itemE, skS, hx, callE, consF, nilF, e, h5]
theorem depth_le {n : Nat} : ∀ ds : List D, (∀ d ∈ ds, (toPy d).depth ≤ n) → PyData.depthAll (toPys ds) ≤ n
  | [], _ => by simp [toPys, PyData.depthAll]
  | d :: ds, h => by
    rw [toPys, PyData.depthAll]
    have := h d (List.mem_cons_self ..)
    have := depth_le ds fun d' h' => h d' (List.mem_cons_of_mem _ h')
    omega
theorem pures_of : ∀ ds : List D, (∀ d ∈ ds, pureD d = true) → pureDs ds = true
  | [], _ => rfl
  | d :: ds, h => by rw [pureDs, h d (List.mem_cons_self ..), pures_of ds fun d' h' => h d' (List.mem_cons_of_mem _ h')]; rfl
theorem appS_of {i : Nat} {f : Rho → Option D} {ρ ρ' : Rho} {xs : List D} {d : D} (h1 : ρ[i]? = some (.own xs)) (h2 : f ρ = some d) (h3 : xs.length < 10000000) (h4 : ρ.set i (.own (xs ++ [d])) = ρ') : appS i f ρ = some (.next, ρ') := by
  rw [appS, h1]; simp only [h2, Option.bind_some]; rw [if_pos h3, h4]
theorem extS_of {i : Nat} {f : Rho → Option D} {ρ ρ' : Rho} {xs ds : List D} (h1 : ρ[i]? = some (.own xs)) (h2 : f ρ = some (.list ds)) (h3 : xs.length + ds.length ≤ 10000000) (h4 : ρ.set i (.own (xs ++ ds)) = ρ') : extS i f ρ = some (.next, ρ') := by
  rw [extS, h1]; simp only [h2, Option.bind_some]; rw [if_pos h3, h4]
theorem lastS_of {i : Nat} {f : Rho → Option D} {ρ ρ' : Rho} {xs : List D} {d : D} (h1 : ρ[i]? = some (.own xs)) (h2 : f ρ = some d) (h3 : xs.length ≠ 0) (h4 : ρ.set i (.own (xs.set (xs.length - 1) d)) = ρ') : lastS i f ρ = some (.next, ρ') := by
  rw [lastS, h1]; simp only [h2, Option.bind_some]; rw [if_neg h3, h4]
theorem ownS_of {i : Nat} {f : Rho → Option (List D)} {ρ ρ' : Rho} {xs : List D} (h1 : f ρ = some xs) (h2 : ρ.set i (.own xs) = ρ') : ownS i f ρ = some (.next, ρ') := by
  rw [ownS, h1, ← h2]; rfl
theorem tup2_of {ρ : Rho} {a b : D} {f g : Rho → Option D} (h1 : f ρ = some a) (h2 : g ρ = some b) : tupE (consF f (consF g nilF)) ρ = some (.tup [a, b]) := by simp [tupE, consF, nilF, h1, h2]
theorem meth1_of {ρ : Rho} {a b r : D} {p : D → Bool} {F : List D → Option D} {f g : Rho → Option D} (h1 : f ρ = some a) (h2 : g ρ = some b) (hp : p a = true) (h : F [a, b] = some r) : methE p F f (consF g nilF) ρ = some r := by simp [methE, consF, nilF, h1, h2, hp, h]
theorem ifE_t {t : Rho → Option Bool} {f g : Rho → Option D} {ρ : Rho} (h : t ρ = some true) : ifE t f g ρ = f ρ := by rw [ifE, h]; rfl
theorem ifE_f {t : Rho → Option Bool} {f g : Rho → Option D} {ρ : Rho} (h : t ρ = some false) : ifE t f g ρ = g ρ := by rw [ifE, h]; rfl
theorem cut_in {l : List Nat} : cut l (some 1) (some (-1)) = (l.drop 1).dropLast := by
  unfold cut
  simp only [Option.elim]
  have h1 : clipAt l.length 1 = min 1 l.length := clip_nat l.length 1
  have h2 : clipAt l.length (-1) = l.length - 1 := by unfold clipAt; split <;> omega
  rw [h1, h2, List.dropLast_eq_take, List.length_drop]
  cases l with
  | nil => rfl
  | cons c r => simp
theorem cutIn_of {ρ : Rho} {f : Rho → Option D} {l : List Nat} (h : f ρ = some (.str l)) : cutE f (intP (cE (.int 1))) (intP (negE (cE (.int 1)))) ρ = some (.str ((l.drop 1).dropLast)) := by
  simp [cutE, intP, cE, negE, h, opCut, cut_in]
theorem cutFrom_of {ρ : Rho} {f : Rho → Option D} {l : List Nat} (h : f ρ = some (.str l)) : cutE f (intP (cE (.int 1))) noP ρ = some (.str (l.drop 1)) := by
  have : cut l (some 1) none = l.drop 1 := cut_from l 1
  simp [cutE, intP, noP, cE, h, opCut, this]

/-! peel -/
noncomputable def lfD (x : Nat × List Nat) : D := .tup [.int (x.1 : Nat), .str x.2]
noncomputable def pieceL (d : Nat) (H : List Nat × Nat → List (Nat × List Nat)) (x : List Nat × Nat) : List (Nat × List Nat) := if x.2 = 1 then [(d, x.1)] else (d, [91]) :: H x
noncomputable def bPeel (G : List D → Option D) : Rho → Option (Out × Rho) := seqS (setS (nameA 4) (methE isMatD groupF (vE 3) (consF (cE (.int 0)) (nilF)))) (seqS (setS (nameA 5) (methE isMatD groupF (vE 3) (consF (cE (.str [115, 101, 116])) (nilF)))) (seqS (ifS (andB (cmpB opIs (vE 5) (cE .none)) (cmpB opNe (itemE (vE 4) (cE (.int 0))) (cE (.str [91])))) (seqS (appS 2 (tupE (consF (vE 1) (consF (vE 4) (nilF))))) (skS)) (seqS (appS 2 (tupE (consF (vE 1) (consF (cE (.str [91])) (nilF))))) (seqS (extS 2 (callE G (consF (ifE (cmpB opIs (vE 5) (cE .none)) (cutE (vE 4) (intP (cE (.int 1))) (noP)) (cutE (vE 5) (intP (cE (.int 1))) (intP (negE (cE (.int 1)))))) (consF (binE opAdd (vE 1) (cE (.int 1))) (nilF))))) (skS)))) (skS)))
theorem loopPeel {l : List Nat} {d : Nat} {G : List D → Option D} {H : List Nat × Nat → List (Nat × List Nat)} : ∀ (ms : List D) (ps : List (List Nat × Nat)), ReadAs l ms ps → okT ps → (∀ x ∈ ps, x.2 ≠ 1 → G [.str (inner x), .int ((d + 1 : Nat) : Int)] = some (.list ((H x).map lfD))) →
    ∀ (T : List D) (A3 A4 A5 : Slot), T.length + (ps.flatMap (pieceL d H)).length < 10000000 → ∃ B3 B4 B5, loopS (nameA 3) (bPeel G) ms [.val (.str l), .val (.int (d : Nat)), .own T, A3, A4, A5] = some (.next, [.val (.str l), .val (.int (d : Nat)), .own (T ++ (ps.flatMap (pieceL d H)).map lfD), B3, B4, B5]) := by
  intro ms ps h
  induction h with
  | nil => intro _ _ T A3 A4 A5 _; exact ⟨A3, A4, A5, by simp [loopS]⟩
  | @cons b e g p ms ps hp r ih =>
    intro hok hG T A3 A4 A5 hz
    obtain ⟨h1, _, h3⟩ := hok
    rw [List.flatMap_cons, List.length_append] at hz
    have hg0 := group_whole (g := g) hp
    have hg2 := group_set (g := g) hp
    have fin : ∀ (A5' : Slot), bPeel G [.val (.str l), .val (.int (d : Nat)), .own T, .val (.mat l b e g), A4, A5] = some (.next, [.val (.str l), .val (.int (d : Nat)), .own (T ++ (pieceL d H (p, g)).map lfD), .val (.mat l b e g), .val (.str p), A5']) →
        ∃ B3 B4 B5, loopS (nameA 3) (bPeel G) (.mat l b e g :: ms) [.val (.str l), .val (.int (d : Nat)), .own T, A3, A4, A5] = some (.next, [.val (.str l), .val (.int (d : Nat)), .own (T ++ (((p, g) :: ps).flatMap (pieceL d H)).map lfD), B3, B4, B5]) := fun A5' hb => by
      obtain ⟨B3, B4, B5, ih⟩ := ih h3 (fun x hx => hG x (List.mem_cons_of_mem _ hx)) (T ++ (pieceL d H (p, g)).map lfD) (.val (.mat l b e g)) (.val (.str p)) A5' (by rw [List.length_append, List.length_map]; omega)
      refine ⟨B3, B4, B5, (loopS_next (ρ1 := [.val (.str l), .val (.int (d : Nat)), .own T, .val (.mat l b e g), A4, A5]) rfl hb).trans (ih.trans ?_)⟩
      simp
    have hdp : ∀ (ρ : Rho), vE 1 ρ = some (.int (d : Nat)) → binE opAdd (vE 1) (cE (.int 1)) ρ = some (.int ((d + 1 : Nat) : Int)) := fun ρ h => binE_of h rfl rfl
    rcases h1 with ⟨rfl, hne, h91⟩ | ⟨rfl, q, rfl, hq⟩ | ⟨rfl, q, rfl, hq⟩
    · obtain ⟨c, p', rfl⟩ : ∃ c p', p = c :: p' := by cases p with | nil => exact absurd rfl hne | cons c p' => exact ⟨c, p', rfl⟩
      have hc : c ≠ 91 := fun e => h91 (by simp [e])
      have hi : opItem (.str (c :: p')) (.int 0) = some (.str [c]) := item_str (c :: p') 0 (by simp)
      rw [if_neg (by decide)] at hg2
      refine fin (.val .none) ?_
      refine (seqS_next (setS_of (meth1_of rfl rfl rfl hg0) rfl)).trans ?_
      refine (seqS_next (setS_of (meth1_of rfl rfl rfl hg2) rfl)).trans ?_
      refine (seqS_next ((ifS_t ((andB_of (x := true) (y := true) rfl (cmpB_of (binE_of rfl rfl hi) rfl (by rw [opNe, eq_str]; simp [hc]))).trans rfl)).trans ((seqS_next (appS_of (d := lfD (d, c :: p')) rfl (tup2_of rfl rfl) (by omega) rfl)).trans rfl))).trans ?_
      rfl
    · have hG' := hG (91 :: (q ++ [93]), 2) (List.mem_cons_self ..) (show (2 : Nat) ≠ 1 by decide)
      have hlen : (pieceL d H (91 :: (q ++ [93]), 2)).length = 1 + (H (91 :: (q ++ [93]), 2)).length := by simp [pieceL]; omega
      rw [if_pos rfl] at hg2
      refine fin (.val (.str (91 :: (q ++ [93])))) ?_
      refine (seqS_next (setS_of (meth1_of rfl rfl rfl hg0) rfl)).trans ?_
      refine (seqS_next (setS_of (meth1_of rfl rfl rfl hg2) rfl)).trans ?_
      refine (seqS_next ((ifS_f (by rw [andB]; rfl)).trans ((seqS_next (appS_of (d := lfD (d, [91])) rfl (tup2_of rfl rfl) (by omega) rfl)).trans ((seqS_next (extS_of (ds := (H (91 :: (q ++ [93]), 2)).map lfD) rfl (call2_of ((ifE_f rfl).trans (cutIn_of rfl)) (hdp _ rfl) hG') (by rw [List.length_append, List.length_map]; simp; omega) rfl)).trans rfl)))).trans ?_
      simp [skS, pieceL]
    · have hG' := hG (91 :: q, 3) (List.mem_cons_self ..) (show (3 : Nat) ≠ 1 by decide)
      have hlen : (pieceL d H (91 :: q, 3)).length = 1 + (H (91 :: q, 3)).length := by simp [pieceL]; omega
      have hi : opItem (.str (91 :: q)) (.int 0) = some (.str [91]) := item_str (91 :: q) 0 (by simp)
      rw [if_neg (by decide)] at hg2
      refine fin (.val .none) ?_
      refine (seqS_next (setS_of (meth1_of rfl rfl rfl hg0) rfl)).trans ?_
      refine (seqS_next (setS_of (meth1_of rfl rfl rfl hg2) rfl)).trans ?_
      refine (seqS_next ((ifS_f ((andB_of (x := true) (y := false) rfl (cmpB_of (binE_of rfl rfl hi) rfl (by rw [opNe, eq_str]; rfl))).trans rfl)).trans ((seqS_next (appS_of (d := lfD (d, [91])) rfl (tup2_of rfl rfl) (by omega) rfl)).trans ((seqS_next (extS_of (ds := (H (91 :: q, 3)).map lfD) rfl (call2_of ((ifE_t rfl).trans (cutFrom_of rfl)) (hdp _ rfl) hG') (by rw [List.length_append, List.length_map]; simp; omega) rfl)).trans rfl)))).trans ?_
      simp [skS, pieceL]
theorem peel_of {l : List Nat} {d n : Nat} {H : List Nat × Nat → List (Nat × List Nat)} (hG : ∀ x ∈ toks l, x.2 ≠ 1 → r_law_peel n [.str (inner x), .int ((d + 1 : Nat) : Int)] = some (.list ((H x).map lfD))) (hz : ((toks l).flatMap (pieceL d H)).length < 10000000) :
    r_law_peel (n + 1) [.str l, .int (d : Nat)] = some (.list (((toks l).flatMap (pieceL d H)).map lfD)) := by
  obtain ⟨B3, B4, B5, h⟩ := loopPeel (G := r_law_peel n) (matsOf l) (toks l) (readAs_mats l) (toks_okT l) hG [] .unb .unb .unb (by simpa using hz)
  rw [List.nil_append] at h
  show runF 2 4 (p_law_peel (r_law_peel n)) _ = _
  refine runF_ret rfl (Ret.next (ownS_of rfl rfl) ?_)
  refine Ret.next ((forS_of rfl).trans h) ?_
  refine Ret.frz rfl rfl ?_
  exact Ret.stop (Ret.of rfl)
noncomputable def nestH (d : Nat) (x : List Nat × Nat) : List (Nat × List Nat) := nestN (splitC 91 (inner x)) (d + 1)
theorem nest_len : ∀ (ps : List (List Nat)) (d : Nat), (nestN ps d).length ≤ 2 * ps.length
  | [], _ => by simp [nestN]
  | [p], d => by simp [nestN, flushN]; split <;> simp
  | p :: q :: ps, d => by
    have := nest_len (q :: ps) (d + 1)
    have h : (flushN d p).length ≤ 1 := by unfold flushN; split <;> simp
    rw [nestN, List.length_append, List.length_cons, List.length_cons]; omega
theorem toks_free {q : List Nat} {d : Nat} (h : 93 ∉ q) : (toks q).flatMap (pieceL d (nestH d)) = nestN (splitC 91 q) d := by
  rcases first_cut q with h1 | ⟨a, r, rfl, h2⟩
  · rw [splitC_free h1]
    by_cases hq : q = []
    · subst hq; rfl
    · have := toks_run1 (a := q) (t := []) hq h1 (.inl rfl)
      rw [List.append_nil] at this
      rw [this, toks_nil]
      simp [pieceL, nestN, flushN, hq]
  · have hr : 93 ∉ r := fun h' => h (by simp [h'])
    have ho : toks (91 :: r) = [(91 :: r, 3)] := toks_open (closeAt_free hr) hr
    have hin : nestH d (91 :: r, 3) = nestN (splitC 91 r) (d + 1) := by simp [nestH, inner]
    rw [nest_cut h2]
    by_cases ha : a = []
    · subst ha
      rw [List.nil_append, ho]
      simp [pieceL, flushN, hin]
    · rw [toks_run1 ha h2 (.inr ⟨_, rfl⟩), ho]
      simp [pieceL, flushN, ha, hin]
theorem inner_free {x : List Nat × Nat} (h : LastOk x.1 x.2) (hx : x.2 ≠ 1) : 93 ∉ inner x ∧ (inner x).length < x.1.length := by
  obtain ⟨p, g⟩ := x
  rcases h with ⟨e, _⟩ | ⟨e, q, e2, hq⟩ | ⟨e, q, e2, hq⟩
  · exact absurd e hx
  · have e : g = 2 := e
    have e2 : p = 91 :: (q ++ [93]) := e2
    subst e e2
    refine ⟨?_, by simp [inner]; omega⟩
    simp [inner]
    exact fun h => (hq 93 h).1 rfl
  · have e : g = 3 := e
    have e2 : p = 91 :: q := e2
    subst e e2
    exact ⟨by simpa [inner] using hq, by simp [inner]⟩
theorem okT_all : ∀ {N : List (List Nat × Nat)}, okT N → ∀ x ∈ N, LastOk x.1 x.2
  | [], _, x, hx => by simp at hx
  | (p, g) :: N, ⟨h1, _, h4⟩, x, hx => by
    rcases List.mem_cons.mp hx with rfl | hx
    · exact h1
    · exact okT_all h4 x hx
theorem piece_le {ts : List (List Nat × Nat)} {x : List Nat × Nat} (h : x ∈ ts) : x.1.length ≤ (ts.map fun x => x.1.length).sum := by
  induction ts with
  | nil => simp at h
  | cons y ts ih =>
    rw [List.map_cons, List.sum_cons]
    rcases List.mem_cons.mp h with rfl | h
    · omega
    · have := ih h; omega
theorem peel_free : ∀ (n : Nat) (q : List Nat) (d : Nat), q.length < n → q.length ≤ 1000 → 93 ∉ q → r_law_peel n [.str q, .int (d : Nat)] = some (.list ((nestN (splitC 91 q) d).map lfD))
  | 0, q, d, h, _, _ => absurd h (Nat.not_lt_zero _)
  | n + 1, q, d, h, hl, h93 => by
    have hps : ((toks q).map fun x => x.1.length).sum ≤ q.length := parse_size (q.length + 1) q
    rw [← toks_free h93]
    refine peel_of (H := nestH d) (fun x hx hx1 => ?_) ?_
    · obtain ⟨h1, h2⟩ := inner_free (okT_all (toks_okT q) x hx) hx1
      have := piece_le hx
      exact peel_free n (inner x) (d + 1) (by omega) (by omega) h1
    · rw [toks_free h93]
      have h1 := nest_len (splitC 91 q) d
      have h2 := splitC_len 91 q
      omega
theorem leaf_len : ∀ ts : List (List Nat × Nat), (ts.flatMap leafT).length ≤ 2 * (ts.map fun x => x.1.length).sum + 4 * ts.length
  | [] => by simp
  | x :: ts => by
    have ih := leaf_len ts
    have h1 : (leafT x).length ≤ 2 * x.1.length + 4 := by
      unfold leafT
      split
      · simp
      · have h1 := nest_len (splitC 91 (inner x)) 1
        have h2 := splitC_len 91 (inner x)
        have h3 : (inner x).length ≤ x.1.length := by
          unfold inner; split <;> simp <;> omega
        simp only [List.length_cons]; omega
    rw [List.flatMap_cons, List.length_append, List.map_cons, List.sum_cons, List.length_cons]; omega
theorem toks_len (l : List Nat) : (toks l).length ≤ l.length := by
  have h := parse_size (l.length + 1) l
  have h2 : ∀ ts : List (List Nat × Nat), (∀ x ∈ ts, x.1 ≠ []) → ts.length ≤ (ts.map fun x => x.1.length).sum := by
    intro ts
    induction ts with
    | nil => intro _; simp
    | cons x ts ih =>
      intro hx
      have := ih fun y hy => hx y (List.mem_cons_of_mem _ hy)
      have h0 : 0 < x.1.length := List.length_pos_iff.mpr (hx x (List.mem_cons_self ..))
      simp; omega
  exact Nat.le_trans (h2 _ (parse_ne _ _)) h
theorem peel_ok {l : List Nat} (hl : l.length ≤ 90) : r_law_peel 100 [.str l, .int 0] = some (.list (((toks l).flatMap leafT).map lfD)) := by
  have hps : ((toks l).map fun x => x.1.length).sum ≤ l.length := parse_size (l.length + 1) l
  have e : (toks l).flatMap (pieceL 0 (nestH 0)) = (toks l).flatMap leafT := rfl
  rw [← e]
  refine peel_of (d := 0) (n := 99) (H := nestH 0) (fun x hx hx1 => ?_) ?_
  · obtain ⟨h1, h2⟩ := inner_free (okT_all (toks_okT l) x hx) hx1
    have := piece_le hx
    exact peel_free 99 (inner x) 1 (by omega) (by omega) h1
  · rw [e]
    have := leaf_len (toks l)
    have := toks_len l
    omega
end Mine

end
section
open PySem PySem.W PySem.Calls PyProof.Rows
set_option Elab.async false
set_option maxRecDepth 100000
set_option linter.unusedSimpArgs false
namespace Mine

theorem loopS_app {g : D → Rho → Option Rho} {b : Rho → Option (Out × Rho)} : ∀ {xs ys : List D} {ρ ρ1 : Rho}, loopS g b xs ρ = some (.next, ρ1) → loopS g b (xs ++ ys) ρ = loopS g b ys ρ1
  | [], ys, ρ, ρ1, h => by cases h; rfl
  | x :: xs, ys, ρ, ρ1, h => by
    rw [loopS] at h
    rw [Option.bind_eq_some_iff] at h
    obtain ⟨ρ2, h1, h⟩ := h
    rw [Option.bind_eq_some_iff] at h
    obtain ⟨⟨o, ρ3⟩, h2, h⟩ := h
    cases o with
    | ret d => cases h
    | next =>
      rw [List.cons_append, loopS_next h1 h2]
      exact loopS_app h

/-! the states, from the end on -/
noncomputable def stL : List Nat → List Nat
  | [] => []
  | c :: r => stA (c :: r) :: stL r
theorem stL_len : ∀ l : List Nat, (stL l).length = l.length
  | [] => rfl
  | c :: r => by rw [stL, List.length_cons, List.length_cons, stL_len r]
noncomputable def b1 : Rho → Option (Out × Rho) := seqS (ifS (cmpB opEq (vE 3) (cE (.str [93]))) (seqS (setS (nameA 2) (cE (.int 1))) (skS)) (seqS (ifS (andB (cmpB opEq (vE 3) (cE (.str [10]))) (cmpB opEq (vE 2) (cE (.int 1)))) (seqS (setS (nameA 2) (cE (.int 2))) (skS)) (skS)) (skS))) (seqS (appS 1 (vE 2)) (skS))
noncomputable abbrev intsD (ns : List Nat) : List D := ns.map fun n => .int (n : Nat)
theorem turn1 {s0 s4 s5 s6 s7 s8 : Slot} {A : List D} {c n : Nat} (hA : A.length < 10000000) : b1 [s0, .own A, .val (.int (n : Nat)), .val (.str [c]), s4, s5, s6, s7, s8] =
    some (.next, [s0, .own (A ++ [.int ((if c = 93 then 1 else if c = 10 ∧ n = 1 then 2 else n : Nat) : Int)]), .val (.int ((if c = 93 then 1 else if c = 10 ∧ n = 1 then 2 else n : Nat) : Int)), .val (.str [c]), s4, s5, s6, s7, s8]) := by
  by_cases h1 : c = 93
  · rw [if_pos h1]
    refine (seqS_next ((ifS_t (cmpB_of rfl rfl (by rw [eq_str]; simp [h1]))).trans ((seqS_next (setS_of rfl rfl)).trans rfl))).trans ?_
    exact (seqS_next (appS_of rfl rfl hA rfl)).trans rfl
  · rw [if_neg h1]
    have hc1 : cmpB opEq (vE 3) (cE (.str [93])) [s0, .own A, .val (.int (n : Nat)), .val (.str [c]), s4, s5, s6, s7, s8] = some false := cmpB_of rfl rfl (by rw [eq_str]; simp [h1])
    have hand : andB (cmpB opEq (vE 3) (cE (.str [10]))) (cmpB opEq (vE 2) (cE (.int 1))) [s0, .own A, .val (.int (n : Nat)), .val (.str [c]), s4, s5, s6, s7, s8] = some (decide (c = 10 ∧ n = 1)) := by
      refine (andB_of (x := decide (c = 10)) (y := decide (n = 1)) (cmpB_of rfl rfl (by rw [eq_str]; simp)) (cmpB_of rfl rfl (by rw [eq_int]; congr 1; rw [decide_eq_decide]; omega))).trans ?_
      simp
    by_cases h2 : c = 10 ∧ n = 1
    · rw [if_pos h2]
      rw [decide_eq_true h2] at hand
      refine (seqS_next ((ifS_f hc1).trans ((seqS_next ((ifS_t hand).trans ((seqS_next (setS_of rfl rfl)).trans rfl))).trans rfl))).trans ?_
      exact (seqS_next (appS_of rfl rfl hA rfl)).trans rfl
    · rw [if_neg h2]
      rw [decide_eq_false h2] at hand
      refine (seqS_next ((ifS_f hc1).trans ((seqS_next ((ifS_f hand).trans rfl)).trans rfl))).trans ?_
      exact (seqS_next (appS_of rfl rfl hA rfl)).trans rfl
theorem loop1 {s0 s4 s5 s6 s7 s8 : Slot} : ∀ (l : List Nat) (A3 : Slot), l.length < 1000000 → ∃ B3, loopS (nameA 3) b1 (l.reverse.map fun c => .str [c]) [s0, .own [], .val (.int 0), A3, s4, s5, s6, s7, s8] = some (.next, [s0, .own (intsD (stL l).reverse), .val (.int (stA l : Nat)), B3, s4, s5, s6, s7, s8])
  | [], A3, _ => ⟨A3, rfl⟩
  | c :: r, A3, hl => by
    simp only [List.length_cons] at hl
    obtain ⟨B3, ih⟩ := loop1 (s0 := s0) (s4 := s4) (s5 := s5) (s6 := s6) (s7 := s7) (s8 := s8) r A3 (by omega)
    have hs := stL_len r
    refine ⟨.val (.str [c]), ?_⟩
    rw [List.reverse_cons, List.map_append, loopS_app ih]
    refine (loopS_next (ρ1 := [s0, .own (intsD (stL r).reverse), .val (.int (stA r : Nat)), .val (.str [c]), s4, s5, s6, s7, s8]) rfl (turn1 (by simp [hs]; omega))).trans ?_
    rw [stL, stA]
    simp [loopS, intsD]

/-! the leaves, sign by sign -/
noncomputable def sA : Rho → Option (Out × Rho) := ifS (cmpB opEq (vE 3) (cE (.str [91]))) (seqS (augS 6 opIAdd (cE (.int 1))) (seqS (augS 7 opIAdd (cE (.int 1))) (skS))) (skS)
noncomputable def sB : Rho → Option (Out × Rho) := setS (nameA 8) (itemE (tupE (consF (vE 6) (consF (vE 7) (consF (cE (.int 0)) (nilF))))) (vE 2))
noncomputable def sC : Rho → Option (Out × Rho) := ifS (andB (cmpB opEq (vE 3) (cE (.str [91]))) (truB (vE 8))) (seqS (appS 4 (tupE (consF (binE opSub (vE 8) (cE (.int 1))) (consF (cE (.str [91])) (nilF))))) (skS)) (skS)
noncomputable def sD : Rho → Option (Out × Rho) := ifS (orB (cmpB opEq (vE 3) (cE (.str [91]))) (andB (cmpB opEq (vE 3) (cE (.str [93]))) (truB (vE 8)))) (seqS (setS (nameA 5) (cE (.bool true))) (skS)) (seqS (ifS (truB (vE 5)) (seqS (appS 4 (tupE (consF (vE 8) (consF (vE 3) (nilF))))) (seqS (setS (nameA 5) (cE (.bool false))) (skS))) (seqS (lastS 4 (tupE (consF (itemE (ownItemE 4 (negE (cE (.int 1)))) (cE (.int 0))) (consF (binE opAdd (itemE (ownItemE 4 (negE (cE (.int 1)))) (cE (.int 1))) (vE 3)) (nilF))))) (skS))) (skS))
noncomputable def sE : Rho → Option (Out × Rho) := ifS (cmpB opEq (vE 3) (cE (.str [93]))) (seqS (setS (twoA (nameA 6) (nameA 7)) (cE (.int 0))) (skS)) (seqS (ifS (cmpB opEq (vE 3) (cE (.str [10]))) (seqS (setS (nameA 7) (cE (.int 0))) (skS)) (skS)) (skS))
noncomputable def b2 : Rho → Option (Out × Rho) := seqS sA (seqS sB (seqS sC (seqS sD (seqS sE skS))))
theorem ownLast_of {ρ : Rho} {i : Nat} {xs : List D} {d : D} (h : ρ[i]? = some (.own (xs ++ [d]))) : ownItemE i (negE (cE (.int 1))) ρ = some d := by
  rw [ownItemE, h]
  show (opItem (.list (xs ++ [d])) (.int (-1))) = _
  rw [opItem, seqIndex_last (by simp)]
  simp
theorem turn2 {s0 s1 A8 : Slot} {c s b ln : Nat} {fr : Bool} {acc : List (Nat × List Nat)} (hs : s ≤ 2) (hacc : acc.length < 1000000) (hne : fr = false → acc ≠ []) (hlast : ∀ x ∈ acc, x.2.length ≤ 100000) :
    ∃ B8, b2 [s0, s1, .val (.int (s : Nat)), .val (.str [c]), .own (acc.map lfD), .val (.bool fr), .val (.int (b : Nat)), .val (.int (ln : Nat)), A8] =
      some (.next, [s0, s1, .val (.int (s : Nat)), .val (.str [c]), .own ((accT s c b ln fr acc).map lfD), .val (.bool (frT s c b ln)), .val (.int (bT c b : Nat)), .val (.int (lnT c ln : Nat)), B8]) := by
  -- block, line
  have hA : sA [s0, s1, .val (.int (s : Nat)), .val (.str [c]), .own (acc.map lfD), .val (.bool fr), .val (.int (b : Nat)), .val (.int (ln : Nat)), A8] =
      some (.next, [s0, s1, .val (.int (s : Nat)), .val (.str [c]), .own (acc.map lfD), .val (.bool fr), .val (.int ((if c = 91 then b + 1 else b : Nat) : Int)), .val (.int ((if c = 91 then ln + 1 else ln : Nat) : Int)), A8]) := by
    by_cases h : c = 91
    · rw [if_pos h, if_pos h]
      exact (ifS_t (cmpB_of rfl rfl (by rw [eq_str]; simp [h]))).trans ((seqS_next (augS_of rfl rfl rfl rfl)).trans ((seqS_next (augS_of rfl rfl rfl rfl)).trans rfl))
    · rw [if_neg h, if_neg h]
      exact (ifS_f (cmpB_of rfl rfl (by rw [eq_str]; simp [h]))).trans rfl
  -- depth
  generalize hb1 : (if c = 91 then b + 1 else b) = bb at *
  generalize hl1 : (if c = 91 then ln + 1 else ln) = ll at *
  have hdep : depT s c b ln = if s = 0 then bb else if s = 1 then ll else 0 := by unfold depT; rw [hb1, hl1]
  have hB : sB [s0, s1, .val (.int (s : Nat)), .val (.str [c]), .own (acc.map lfD), .val (.bool fr), .val (.int (bb : Nat)), .val (.int (ll : Nat)), A8] =
      some (.next, [s0, s1, .val (.int (s : Nat)), .val (.str [c]), .own (acc.map lfD), .val (.bool fr), .val (.int (bb : Nat)), .val (.int (ll : Nat)), .val (.int (depT s c b ln : Nat))]) := by
    refine setS_of (binE_of (tup3_of rfl rfl rfl) rfl ?_) rfl
    have := item_tup [.int (bb : Nat), .int (ll : Nat), .int (0 : Nat)] s (by simp; omega)
    refine this.trans ?_
    rw [hdep]
    have : s = 0 ∨ s = 1 ∨ s = 2 := by omega
    rcases this with rfl | rfl | rfl <;> rfl
  generalize hdd : depT s c b ln = dd at *
  have htr : ∀ (o : List D) (f : Slot), truB (vE 8) [s0, s1, .val (.int (s : Nat)), .val (.str [c]), .own o, f, .val (.int (bb : Nat)), .val (.int (ll : Nat)), .val (.int (dd : Nat))] = some (decide (dd ≠ 0)) := fun o f => by
    show some ((dd : Int) != 0) = _
    congr 1
    by_cases h : dd = 0
    · subst h; rfl
    · have h' : (dd : Int) ≠ 0 := by omega
      simp [h, h']
  -- a leaf for the [
  have hC : sC [s0, s1, .val (.int (s : Nat)), .val (.str [c]), .own (acc.map lfD), .val (.bool fr), .val (.int (bb : Nat)), .val (.int (ll : Nat)), .val (.int (dd : Nat))] =
      some (.next, [s0, s1, .val (.int (s : Nat)), .val (.str [c]), .own ((if c = 91 ∧ dd ≠ 0 then acc ++ [(dd - 1, [91])] else acc).map lfD), .val (.bool fr), .val (.int (bb : Nat)), .val (.int (ll : Nat)), .val (.int (dd : Nat))]) := by
    have ht := andB_of (x := decide (c = 91)) (y := decide (dd ≠ 0)) (ρ := [s0, s1, .val (.int (s : Nat)), .val (.str [c]), .own (acc.map lfD), .val (.bool fr), .val (.int (bb : Nat)), .val (.int (ll : Nat)), .val (.int (dd : Nat))]) (f := cmpB opEq (vE 3) (cE (.str [91]))) (g := truB (vE 8)) (cmpB_of rfl rfl (by rw [eq_str]; simp)) (htr _ _)
    by_cases h : c = 91 ∧ dd ≠ 0
    · rw [if_pos h]
      have : (decide (c = 91) && decide (dd ≠ 0)) = true := by simp [h.1, h.2]
      rw [this] at ht
      refine (ifS_t ht).trans ((seqS_next (appS_of (d := lfD (dd - 1, [91])) rfl (tup2_of (a := .int ((dd - 1 : Nat) : Int)) (binE_of rfl rfl ?_) rfl) (by simp; omega) rfl)).trans ?_)
      · show some (D.int ((dd : Int) - 1)) = _
        congr 2
        have := h.2
        omega
      · simp [skS]
    · rw [if_neg h]
      have : (decide (c = 91) && decide (dd ≠ 0)) = false := by
        rw [Bool.and_eq_false_iff]
        by_cases h1 : c = 91
        · right; rw [decide_eq_false]; exact fun h2 => h ⟨h1, h2⟩
        · left; exact decide_eq_false h1
      rw [this] at ht
      exact (ifS_f ht).trans rfl
  -- the sign itself
  have hD : ∃ B8, sD [s0, s1, .val (.int (s : Nat)), .val (.str [c]), .own ((if c = 91 ∧ dd ≠ 0 then acc ++ [(dd - 1, [91])] else acc).map lfD), .val (.bool fr), .val (.int (bb : Nat)), .val (.int (ll : Nat)), .val (.int (dd : Nat))] =
      some (.next, [s0, s1, .val (.int (s : Nat)), .val (.str [c]), .own ((accT s c b ln fr acc).map lfD), .val (.bool (frT s c b ln)), .val (.int (bb : Nat)), .val (.int (ll : Nat)), B8]) := by
    refine ⟨.val (.int (dd : Nat)), ?_⟩
    have ht : ∀ (o : List D), orB (cmpB opEq (vE 3) (cE (.str [91]))) (andB (cmpB opEq (vE 3) (cE (.str [93]))) (truB (vE 8))) [s0, s1, .val (.int (s : Nat)), .val (.str [c]), .own o, .val (.bool fr), .val (.int (bb : Nat)), .val (.int (ll : Nat)), .val (.int (dd : Nat))] = some (frT s c b ln) := fun o => by
      have h1 : cmpB opEq (vE 3) (cE (.str [91])) [s0, s1, .val (.int (s : Nat)), .val (.str [c]), .own o, .val (.bool fr), .val (.int (bb : Nat)), .val (.int (ll : Nat)), .val (.int (dd : Nat))] = some (decide (c = 91)) := cmpB_of rfl rfl (by rw [eq_str]; simp)
      have h2 := andB_of (x := decide (c = 93)) (y := decide (dd ≠ 0)) (ρ := [s0, s1, .val (.int (s : Nat)), .val (.str [c]), .own o, .val (.bool fr), .val (.int (bb : Nat)), .val (.int (ll : Nat)), .val (.int (dd : Nat))]) (f := cmpB opEq (vE 3) (cE (.str [93]))) (g := truB (vE 8)) (cmpB_of rfl rfl (by rw [eq_str]; simp)) (htr _ _)
      rw [orB, h1, Option.bind_some, h2, frT, hdd]
      cases decide (c = 91) <;> rfl
    by_cases hf : frT s c b ln = true
    · have hacc' : accT s c b ln fr acc = if c = 91 ∧ dd ≠ 0 then acc ++ [(dd - 1, [91])] else acc := by
        unfold accT
        rw [hdd]
        unfold frT at hf
        rw [hdd] at hf
        by_cases h91 : c = 91
        · rw [if_pos h91]
          by_cases h0 : dd = 0
          · rw [if_pos h0, if_neg (fun e => e.2 h0)]
          · rw [if_neg h0, if_pos ⟨h91, h0⟩]
        · have : c = 93 ∧ dd ≠ 0 := by simpa [h91] using hf
          rw [if_neg h91, if_pos this, if_neg (fun e => h91 e.1)]
      rw [hacc', hf]
      have := ht ((if c = 91 ∧ dd ≠ 0 then acc ++ [(dd - 1, [91])] else acc).map lfD)
      rw [hf] at this
      exact (ifS_t this).trans ((seqS_next (setS_of rfl rfl)).trans rfl)
    · have hf' : frT s c b ln = false := by simpa using hf
      have h91 : c ≠ 91 := fun e => hf (by simp [frT, e])
      have h93 : ¬ (c = 93 ∧ dd ≠ 0) := fun e => hf (by unfold frT; rw [hdd]; simp [e.1, e.2])
      have hin : (if c = 91 ∧ dd ≠ 0 then acc ++ [(dd - 1, [91])] else acc) = acc := if_neg fun e => h91 e.1
      rw [hin, hf']
      have := ht (acc.map lfD)
      rw [hf'] at this
      have hac : accT s c b ln fr acc = if fr then acc ++ [(dd, [c])] else extL acc c := by
        unfold accT; rw [hdd, if_neg h91, if_neg h93]
      rw [hac]
      cases fr with
      | true =>
        refine (ifS_f this).trans ((seqS_next ((ifS_t rfl).trans ((seqS_next (appS_of (d := lfD (dd, [c])) rfl (tup2_of rfl rfl) (by simp; omega) rfl)).trans ((seqS_next (setS_of rfl rfl)).trans rfl)))).trans ?_)
        simp [skS]
      | false =>
        obtain ⟨A, x, rfl⟩ : ∃ A x, acc = A ++ [x] := ⟨acc.dropLast, acc.getLast (hne rfl), (List.dropLast_concat_getLast (hne rfl)).symm⟩
        obtain ⟨dx, px⟩ := x
        have hpx := hlast (dx, px) (by simp)
        have hρ : ([s0, s1, .val (.int (s : Nat)), .val (.str [c]), .own ((A ++ [(dx, px)]).map lfD), .val (.bool false), .val (.int (bb : Nat)), .val (.int (ll : Nat)), .val (.int (dd : Nat))] : Rho)[4]? = some (.own (A.map lfD ++ [lfD (dx, px)])) := by simp
        have h1 := ownLast_of hρ
        refine (ifS_f this).trans ((seqS_next ((ifS_f rfl).trans ((seqS_next (lastS_of (d := lfD (dx, px ++ [c])) hρ (tup2_of (binE_of h1 rfl (item_tup [.int (dx : Nat), .str px] 0 (by simp))) (binE_of (binE_of h1 rfl (item_tup [.int (dx : Nat), .str px] 1 (by simp))) rfl (add_strs (a := px) (by simp at hpx ⊢; omega)))) (by simp) rfl)).trans rfl))).trans ?_)
        rw [ext_snoc]
        simp [skS]
  -- behind it
  obtain ⟨B8, hD⟩ := hD
  refine ⟨B8, ?_⟩
  have hE : sE [s0, s1, .val (.int (s : Nat)), .val (.str [c]), .own ((accT s c b ln fr acc).map lfD), .val (.bool (frT s c b ln)), .val (.int (bb : Nat)), .val (.int (ll : Nat)), B8] =
      some (.next, [s0, s1, .val (.int (s : Nat)), .val (.str [c]), .own ((accT s c b ln fr acc).map lfD), .val (.bool (frT s c b ln)), .val (.int (bT c b : Nat)), .val (.int (lnT c ln : Nat)), B8]) := by
    unfold bT lnT
    rw [hb1, hl1]
    by_cases h1 : c = 93
    · rw [if_pos h1, if_pos h1]
      exact (ifS_t (cmpB_of rfl rfl (by rw [eq_str]; simp [h1]))).trans ((seqS_next (setS_of (ρ' := [s0, s1, .val (.int (s : Nat)), .val (.str [c]), .own ((accT s c b ln fr acc).map lfD), .val (.bool (frT s c b ln)), .val (.int (0 : Nat)), .val (.int (0 : Nat)), B8]) rfl rfl)).trans rfl)
    · rw [if_neg h1, if_neg h1]
      have hc1 : cmpB opEq (vE 3) (cE (.str [93])) [s0, s1, .val (.int (s : Nat)), .val (.str [c]), .own ((accT s c b ln fr acc).map lfD), .val (.bool (frT s c b ln)), .val (.int (bb : Nat)), .val (.int (ll : Nat)), B8] = some false := cmpB_of rfl rfl (by rw [eq_str]; simp [h1])
      by_cases h2 : c = 10
      · rw [if_pos h2]
        exact (ifS_f hc1).trans ((seqS_next ((ifS_t (cmpB_of rfl rfl (by rw [eq_str]; simp [h2]))).trans ((seqS_next (setS_of rfl rfl)).trans rfl))).trans rfl)
      · rw [if_neg h2]
        exact (ifS_f hc1).trans ((seqS_next ((ifS_f (cmpB_of rfl rfl (by rw [eq_str]; simp [h2]))).trans rfl)).trans rfl)
  refine (seqS_next hA).trans ?_
  refine (seqS_next hB).trans ?_
  refine (seqS_next hC).trans ?_
  refine (seqS_next hD).trans ?_
  refine (seqS_next hE).trans ?_
  rfl
theorem accT_len (s c b ln : Nat) (fr : Bool) (acc : List (Nat × List Nat)) : (accT s c b ln fr acc).length ≤ acc.length + 1 ∧ (frT s c b ln = false → (fr = false → acc ≠ []) → accT s c b ln fr acc ≠ []) ∧ ∀ x ∈ accT s c b ln fr acc, ∀ m, 1 ≤ m → (∀ y ∈ acc, y.2.length ≤ m) → x.2.length ≤ m + 1 := by
  have hext : (extL acc c).length ≤ acc.length ∧ (acc ≠ [] → extL acc c ≠ []) ∧ ∀ x ∈ extL acc c, ∀ m, 1 ≤ m → (∀ y ∈ acc, y.2.length ≤ m) → x.2.length ≤ m + 1 := by
    by_cases h : acc = []
    · subst h; exact ⟨by simp [extL], fun e => absurd rfl e, fun x hx => by simp [extL] at hx⟩
    · obtain ⟨A, y, rfl⟩ : ∃ A x, acc = A ++ [x] := ⟨acc.dropLast, acc.getLast h, (List.dropLast_concat_getLast h).symm⟩
      obtain ⟨d, p⟩ := y
      rw [ext_snoc]
      refine ⟨by simp, fun _ => by simp, fun x hx m hm hy => ?_⟩
      rcases List.mem_append.mp hx with hx | hx
      · have := hy x (by simp [hx]); omega
      · simp at hx; subst hx
        have := hy (d, p) (by simp)
        simp at this ⊢; omega
  have hsn : ∀ z : Nat × List Nat, z.2.length = 1 → ∀ x ∈ acc ++ [z], ∀ m, 1 ≤ m → (∀ y ∈ acc, y.2.length ≤ m) → x.2.length ≤ m + 1 := fun z hz x hx m hm hy => by
    rcases List.mem_append.mp hx with hx | hx
    · have := hy x hx; omega
    · simp at hx; subst hx; omega
  have hid : ∀ x ∈ acc, ∀ m, 1 ≤ m → (∀ y ∈ acc, y.2.length ≤ m) → x.2.length ≤ m + 1 := fun x hx m _ hy => by have := hy x hx; omega
  unfold accT
  by_cases h1 : c = 91
  · simp only [h1, if_true]
    refine ⟨?_, fun e => by simp [frT] at e, ?_⟩
    · split <;> simp
    · split
      · exact hid
      · exact hsn _ rfl
  · simp only [h1, if_false]
    by_cases h2 : c = 93 ∧ depT s c b ln ≠ 0
    · rw [if_pos h2]
      exact ⟨by omega, fun e => by unfold frT at e; rw [decide_eq_true h2.1, decide_eq_true h2.2] at e; simp at e, hid⟩
    · rw [if_neg h2]
      cases fr with
      | true => exact ⟨by simp, fun _ _ => by simp, hsn _ rfl⟩
      | false => exact ⟨by have := hext.1; simp; omega, fun _ h => hext.2.1 (h rfl), hext.2.2⟩
theorem loop2 {s0 s1 : Slot} : ∀ (l : List Nat) (b ln : Nat) (fr : Bool) (acc : List (Nat × List Nat)) (m : Nat) (A2 A3 A8 : Slot), (fr = false → acc ≠ []) → (∀ y ∈ acc, y.2.length ≤ m) → 1 ≤ m → m + l.length ≤ 100000 → acc.length + l.length < 1000000 →
    ∃ B2 B3 B5 B6 B7 B8, loopS (tupA [3, 2]) b2 (asZip l (intsD (stL l))) [s0, s1, A2, A3, .own (acc.map lfD), .val (.bool fr), .val (.int (b : Nat)), .val (.int (ln : Nat)), A8] = some (.next, [s0, s1, B2, B3, .own ((goL b ln fr acc l).map lfD), B5, B6, B7, B8])
  | [], b, ln, fr, acc, m, A2, A3, A8, _, _, _, _, _ => ⟨A2, A3, _, _, _, A8, rfl⟩
  | c :: r, b, ln, fr, acc, m, A2, A3, A8, hne, hy, hm, hml, hal => by
    simp only [List.length_cons] at hml hal
    obtain ⟨B8, ht⟩ := turn2 (s0 := s0) (s1 := s1) (A8 := A8) (c := c) (s := stA (c :: r)) (b := b) (ln := ln) (fr := fr) (acc := acc) (st_le _) (by omega) hne (fun x hx => by have := hy x hx; omega)
    obtain ⟨a1, a2, a3⟩ := accT_len (stA (c :: r)) c b ln fr acc
    obtain ⟨C2, C3, C5, C6, C7, C8, ih⟩ := loop2 (s0 := s0) (s1 := s1) r (bT c b) (lnT c ln) (frT (stA (c :: r)) c b ln) (accT (stA (c :: r)) c b ln fr acc) (m + 1) (.val (.int (stA (c :: r) : Nat))) (.val (.str [c])) B8 (fun e => a2 e hne) (fun y hy' => a3 y hy' m hm hy) (by omega) (by omega) (by omega)
    exact ⟨C2, C3, C5, C6, C7, C8, (loopS_next (ρ1 := [s0, s1, .val (.int (stA (c :: r) : Nat)), .val (.str [c]), .own (acc.map lfD), .val (.bool fr), .val (.int (b : Nat)), .val (.int (ln : Nat)), A8]) rfl ht).trans ih⟩
theorem leaves_ok {l : List Nat} (hl : l.length ≤ 1000) : runF 1 8 p_law_leaves [.str l] = some (.list (((toks l).flatMap leafT).map lfD)) := by
  obtain ⟨B3, h1⟩ := loop1 (s0 := .val (.str l)) (s4 := .unb) (s5 := .unb) (s6 := .unb) (s7 := .unb) (s8 := .unb) l .unb (by omega)
  have hgo := go_text l.length l (Nat.le_refl _) 0 0 [] ⟨fun _ => rfl, fun _ => rfl⟩
  rw [List.nil_append] at hgo
  obtain ⟨C2, C3, C5, C6, C7, C8, h2⟩ := loop2 (s0 := .val (.str l)) (s1 := .val (.list (intsD (stL l)))) l 0 0 true [] 1 (.val (.int (stA l : Nat))) B3 .unb (fun e => by cases e) (by simp) (by omega) (by omega) (by simp; omega)
  rw [hgo] at h2
  have hrev : (intsD (stL l).reverse).reverse = intsD (stL l) := by simp [intsD]
  have hit : itE asRev (vE 0) [.val (.str l), .own [], .val (.int 0), .unb, .unb, .unb, .unb, .unb, .unb] = some (l.reverse.map fun c => .str [c]) := by
    show asRev (.str l) = _
    rw [asRev, if_pos (by omega)]
  have hzip : ∀ x5 x6 x7 : Slot, zipE (vE 0) (vE 1) [.val (.str l), .val (.list (intsD (stL l))), .val (.int (stA l : Nat)), B3, .own [], x5, x6, x7, .unb] = some (asZip l (intsD (stL l))) := fun x5 x6 x7 => by
    show (if l.length = (intsD (stL l)).length then some (asZip l (intsD (stL l))) else none) = _
    rw [if_pos (by simp [intsD, stL_len])]
  refine runF_ret rfl (Ret.next (ownS_of rfl rfl) ?_)
  refine Ret.next (setS_of (d := .int 0) rfl rfl) ?_
  refine Ret.next ((forS_of hit).trans h1) ?_
  refine Ret.next (ρ1 := [.val (.str l), .own (intsD (stL l)), .val (.int (stA l : Nat)), B3, .unb, .unb, .unb, .unb, .unb]) ?_ ?_
  · show (match some (Slot.own (intsD (stL l).reverse)) with | some (.own xs) => some (Out.next, _) | _ => none) = _
    dsimp only
    rw [hrev]; rfl
  refine Ret.next (ownS_of rfl rfl) ?_
  refine Ret.next (setS_of (d := .bool true) rfl rfl) ?_
  refine Ret.next (setS_of (d := .int (0 : Nat)) rfl rfl) ?_
  refine Ret.frz (xs := intsD (stL l)) rfl rfl ?_
  refine Ret.next ((forS_of (hzip _ _ _)).trans h2) ?_
  refine Ret.frz rfl rfl ?_
  exact Ret.stop (Ret.of rfl)
theorem flat_lfs (ts : List (Nat × List Nat)) : flatD (.list (ts.map lfD)) = true := by
  refine flat_of ?_ ?_
  · rw [pureD]
    refine pures_of _ fun d hd => ?_
    obtain ⟨x, _, rfl⟩ := List.mem_map.mp hd
    simp [lfD, pureD, pureDs]
  · rw [toPy, PyData.depth]
    have := depth_le (n := 1) (ts.map lfD) fun d hd => by
      obtain ⟨x, _, rfl⟩ := List.mem_map.mp hd
      simp [lfD, toPy, toPys, PyData.depth, PyData.depthAll]
    omega
noncomputable def bodyL : Rho → Option (Out × Rho) := seqS (ifS (cmpB opNe (callE (r_law_peel 100) (consF (vE 2) (consF (cE (.int 0)) (nilF)))) (callE (runF 1 8 p_law_leaves) (consF (vE 2) (nilF)))) (seqS (retS (cE (.bool false))) (skS)) (skS)) (skS)
theorem turnL {l : List Nat} {s0 s1 : Slot} (hl : l.length ≤ 90) : bodyL [s0, s1, .val (.str l)] = some (.next, [s0, s1, .val (.str l)]) :=
  (seqS_next ((ifS_f (cmpB_of (call2_of rfl rfl (peel_ok hl)) (call1_of rfl (leaves_ok (by omega))) (ne_self (flat_lfs _)))).trans rfl)).trans rfl
theorem pure03 : ∀ ns : List Int, ns.length ≤ 63 → runF 1 2 plaw [.list (ns.map .int)] = some (.bool true) := by
  intro ns hn
  obtain ⟨S, hS⟩ : ∃ S : Int → Nat, ∀ x, runF 1 2 p_law_sign [.int x] = some (.str [S x]) := ⟨fun x => (sign_ok x).choose, fun x => (sign_ok x).choose_spec⟩
  have hm : methE isStrD joinF (cE (.str [])) (consF (listF (compF ["number"] (itE asList (cutE (vE 0) noP (intP (cE (.int 64))))) (nameA 3) tt (emE (callE (runF 1 2 p_law_sign) (consF (vE 3) nilF))))) nilF) [.val (.list (ns.map .int)), .unb, .unb] = some (.str (ns.map S)) := by
    have hit : itE asList (cutE (vE 0) noP (intP (cE (.int 64)))) [.val (.list (ns.map .int)), .unb, .unb] = some (ns.map .int) := by
      have : cut (ns.map D.int) none (some (64 : Int)) = ns.map D.int := by
        rw [show (64 : Int) = ((64 : Nat) : Int) from rfl, cut_to, List.take_of_length_le (by simp; omega)]
      show (opCut none (some 64) (.list (ns.map .int))).bind asList = _
      rw [opCut, this]; rfl
    have hcomp : compF ["number"] (itE asList (cutE (vE 0) noP (intP (cE (.int 64))))) (nameA 3) tt (emE (callE (runF 1 2 p_law_sign) (consF (vE 3) nilF))) [.val (.list (ns.map .int)), .unb, .unb] = some (((ns.map S).map fun c => [c]).map D.str) := by
      rw [comp1 (ds := ns.map .int) (fun d => match d with | .int x => .str [S x] | _ => .none) (fun _ => true) rfl hit (fun _ _ => rfl) (fun d hd _ => ?_) (by simp; omega)]
      · simp [List.filter_eq_self.mpr]
      · obtain ⟨y, _, rfl⟩ := List.mem_map.mp hd
        exact call1_of rfl (hS y)
    simp only [methE, cE, consF, listF, nilF, hcomp, Option.bind_some, Option.map_some, isStrD, if_true]
    rw [join_strs (by rw [flat_ones]; simp; omega), flat_ones]
  have hl : (ns.map S).length ≤ 63 := by simpa using hn
  generalize ns.map S = l at *
  generalize D.list (ns.map .int) = s0 at *
  have hit : itE asTup (tupE (consF (vE 1) (consF (binE opAdd (binE opAdd (cE (.str [97, 91, 98, 91])) (vE 1)) (cE (.str [93, 99, 10, 93]))) nilF))) [.val s0, .val (.str l), .unb] = some [.str l, .str ([97, 91, 98, 91] ++ l ++ [93, 99, 10, 93])] := by
    rw [itE, tup2_of rfl (binE_of (binE_of rfl rfl (add_strs (by simp; omega))) rfl (add_strs (by simp; omega)))]; rfl
  refine runF_ret rfl (Ret.next (setS_of hm rfl) ?_)
  refine Ret.next (ρ1 := [.val s0, .val (.str l), .val (.str ([97, 91, 98, 91] ++ l ++ [93, 99, 10, 93]))]) ((forS_of hit).trans ?_) ?_
  · refine (loopS_next rfl (turnL (l := l) (by omega))).trans ?_
    refine (loopS_next rfl (turnL (l := [97, 91, 98, 91] ++ l ++ [93, 99, 10, 93]) (by simp; omega))).trans ?_
    rfl
  · exact Ret.stop (Ret.of rfl)
end Mine

end
section
open PySem PySem.W PyProof.Rows
set_option Elab.async false
set_option maxRecDepth 100000
set_option maxHeartbeats 8000000
namespace MineTop
theorem PySem.W.holds_open {r : OpenRow} {q : PySem.Program} {loose : List PySem.Str} {Xt : Shared → Bool} {XP : (PySem.Str → Option PySem.Value) → Heap → Prop} {α : Type} {Yf : Shared → α} {Ya : World → α} {YP : World → Heap → Prop} {d : DefRec} {kwd : List (PySem.Str × PySem.Expr)} {N : Nat}
    (left : LeftO r.prog q loose Xt Yf Ya N) (hY : ∀ w s, Yf s = Ya w → YP w s.heap) (hYk : ∀ w h h', YP w h → (∀ b o, h.get? b = some o → h'.get? b = some o) → YP w h')
    (hX : ∀ s, Xt s = true → XP (s.heap.nsMap mainGlobals) s.heap) (hXk : ∀ mg h h', XP mg h → (∀ b o, h.get? b = some o → h'.get? b = some o) → XP mg h')
    (hdef : defOf q r.name = some (d, kwd)) (hp : r.prog.theDef r.name = some (d.params, d.body, d.scope)) (hk : kwWritten? d.params.kwonlyargs d.params.kw_defaults = some kwd) (hRf : ∀ s, Xt s = true → RecFacts r.records s.heap) (hwr : (!r.writes || r.records.isEmpty) = true)
    (k1 : r.wellSaid = true) (ok : (chainsOk q && opensWell r.prog && (frees r.toRowW && r.within.isEmpty)) = true) (hb : r.prog.bare) (hw : r.toRowW.promised)
    (call : Mine.WalkG q loose XP YP r.toRowW d kwd) : r.Holds := Mine.holdsG left hY hYk hX hXk hdef hp hk hRf hwr k1 ok hb hw call
open_top hd for PySem.Challenge.rw_dn0312_03
end MineTop

end
section
open PySem PySem.W PySem.Calls PyProof.Rows
set_option Elab.async false
set_option maxRecDepth 100000
set_option maxHeartbeats 4000000
namespace Mine

theorem code_vals : (theCode.map fun w => (rawInt (w : Nat) : Value)) = #[.int 14 0, .int 4 0, .int 0 0, .int 1 0, .int 4294967295 0, .int 7 0, .int 14 0, .int 17 0, .int 0 0, .int 24 0, .int 6 0, .int 1 0, .int 4294967295 0, .int 20 0, .int 91 0, .int 1 0, .int 17 0, .int 1 0, .int 15 0, .int 37 0, .int 17 0, .int 17 0, .int 2 0, .int 16 0, .int 91 0, .int 26 0, .int 5 0, .int 0 0, .int 4294967295 0, .int 2 0, .int 1 0, .int 16 0, .int 93 0, .int 17 0, .int 3 0, .int 15 0, .int 20 0, .int 18 0, .int 17 0, .int 4 0, .int 16 0, .int 91 0, .int 24 0, .int 6 0, .int 0 0, .int 4294967295 0, .int 20 0, .int 93 0, .int 1 0, .int 6 0, .int 5 0, .int 17 0, .int 5 0, .int 15 0, .int 2 0, .int 0 0, .int 1 0] := by simp [theCode, rawInt]
theorem mg_of {h : Heap} {a : Addr} {m : Str → Option Value} {o : Obj} {es : Array DictEntry} {ep : Nat} (hn : h.Ns a m) (ho : h.get? a = some o) (hd : o.data = .dict es ep) (x : Str) : m x = nsFind es x := by
  obtain ⟨o', es', ep', h1, h2, _, h4⟩ := hn
  rw [ho] at h1
  cases h1
  rw [hd] at h2
  cases h2
  exact (h4 x).symm

theorem foo : PySem.Challenge.rw_dn0312_03.Holds := MineTop.hd (by
  intro w s₀ s₁ mg mb G Y a o pm cd doc dV kV h1 h2 h3 h4 h5 h6 htk args vals as p1 p2 p3 p4 p5
  have K := kIn_of Y
  have hmg := mg_of G.T.g (K 3 _ rfl) rfl
  let cx : Cx := ⟨Challenge.rw_dn0312_03.row.toRowW.prog, w, s₁.heap, mg, mb, G.T.g, G.T.b, G.T.nolimit, 36, fun _ _ _ _ => False, fun _ _ h => h⟩
  have h_chr : (cx.mg "chr").or (cx.mb "chr") = some (.builtin "chr") := by rw [show cx.mg "chr" = none from (hmg _).trans (by rfl), show cx.mb "chr" = some (.builtin "chr") from (G.T.builtins _ (by decide)).trans (by rfl)]; rfl
  have h_reversed : (cx.mg "reversed").or (cx.mb "reversed") = some (.type "reversed") := by rw [show cx.mg "reversed" = none from (hmg _).trans (by rfl), show cx.mb "reversed" = some (.type "reversed") from (G.T.builtins _ (by decide)).trans (by rfl)]; rfl
  have h_zip : (cx.mg "zip").or (cx.mb "zip") = some (.type "zip") := by rw [show cx.mg "zip" = none from (hmg _).trans (by rfl), show cx.mb "zip" = some (.type "zip") from (G.T.builtins _ (by decide)).trans (by rfl)]; rfl
  have hPat : PatAt cx.h₁ cx.pat 35 := ⟨⟨_, _, _, _, K 36 _ rfl⟩, ⟨0, by rw [code_vals]; exact K 35 _ rfl⟩⟩
  have hG : PatG cx := ⟨_, _, _, _, 33, _, _, K 36 _ rfl, K 33 _ rfl⟩
  have hkseparate : KeepOk (.ref 43) cx.h₁ := .inl ⟨_, _, _, rfl, K 43 _ rfl, rfl⟩
  have hmseparate : (cx.mg "separate").or (cx.mb "separate") = some (.ref 43) := by rw [show cx.mg "separate" = some (.ref 43) from (hmg _).trans (by rfl)]; rfl
  have hcsep : ConI cx 35 1 (.ref 43) := sep_con (k := 0) (K 43 _ rfl) rfl ⟨42, _, _, _, rfl, K 42 _ rfl, rfl, rfl⟩ (fun vs hv => by match vs, hv with | [v], _ => rfl) hPat (by rw [show cx.mg "_twin_re_1" = some (.ref 36) from (hmg _).trans (by rfl)]; rfl) rfl rfl rfl rfl rfl (by decide) rfl rfl rfl
  have hk_law_sign : KeepOk (.ref 50) cx.h₁ := .inl ⟨_, _, _, rfl, K 50 _ rfl, rfl⟩
  have hm_law_sign : (cx.mg "_law_sign").or (cx.mb "_law_sign") = some (.ref 50) := by rw [show cx.mg "_law_sign" = some (.ref 50) from (hmg _).trans (by rfl)]; rfl
  have c_law_sign : Con cx 1 (.ref 50) (runF 1 2 p_law_sign) := con_def (xs := ["number"]) (rest := ["kind", "code"]) (k := 0) (K 50 _ rfl) rfl ⟨49, _, _, _, rfl, K 49 _ rfl, rfl, rfl⟩
    (ss_cons (s1_assign (x_name 1) (se_bin bin_mod (x_var 0) se_int)) (ss_cons (s1_if (st_cmp cmp_lt (x_var 1) se_int) (ss_cons (s1_return (se_item (x_str [91, 91, 91, 91, 93, 93, 93, 93, 10, 10, 97, 42]) (x_var 1))) ss_nil) ss_nil) (ss_cons (s1_assign (x_name 2) (se_bin bin_mod (se_bin bin_div (x_var 0) se_int) se_int)) (ss_cons (s1_return (x_call (k := 0) con_chr h_chr (.inr (by intro a e; cases e)) (ses_cons (se_ifexp (st_cmp cmp_lt (x_var 2) se_int) (x_var 2) (se_bin bin_add (x_var 2) se_int)) ses_nil))) ss_nil))))
    (fun vs hv => by match vs, hv with | [v0], _ => rfl)
  have hk_law_peel : KeepOk (.ref 57) cx.h₁ := .inl ⟨_, _, _, rfl, K 57 _ rfl, rfl⟩
  have hm_law_peel : (cx.mg "_law_peel").or (cx.mb "_law_peel") = some (.ref 57) := by rw [show cx.mg "_law_peel" = some (.ref 57) from (hmg _).trans (by rfl)]; rfl
  have step_law_peel : ∀ n : Nat, Con cx (n + 2) (.ref 57) (r_law_peel n) → Con cx (n + 2 + 1) (.ref 57) (r_law_peel (n + 1)) := fun n ih => con_def (xs := ["text", "depth"]) (rest := ["leaves", "found", "piece", "held"]) (k := n + 2) (K 57 _ rfl) rfl ⟨56, _, _, _, rfl, K 56 _ rfl, rfl, rfl⟩
        (ss_cons (x_own 2 (x_listF ses_nil)) (ss_cons (s1_for (x_sep hcsep hPat hmseparate hkseparate (x_var 0)) (x_name 3) (ss_cons (s1_assign (x_name 4) (x_meth (get_mat slot_group type_group) (con_group hG) (x_var 3) (ses_cons se_int ses_nil))) (ss_cons (s1_assign (x_name 5) (x_meth (get_mat slot_group type_group) (con_group hG) (x_var 3) (ses_cons (x_str [115, 101, 116]) ses_nil))) (ss_cons (s1_if (st_and (st_cmp cmp_is (x_var 5) se_none) (st_cmp cmp_ne (se_item (x_var 4) se_int) (x_str [91]))) (ss_cons (s1_append 2 (se_tup (ses_cons (x_var 1) (ses_cons (x_var 4) ses_nil)))) ss_nil) (ss_cons (s1_append 2 (se_tup (ses_cons (x_var 1) (ses_cons (x_str [91]) ses_nil)))) (ss_cons (s1_ext 2 (x_call ih hm_law_peel hk_law_peel (ses_cons (se_ifexp (st_cmp cmp_is (x_var 5) se_none) (se_cut (x_var 4) (sp_some se_int) sp_none) (se_cut (x_var 5) (sp_some se_int) (sp_some (se_neg se_int)))) (ses_cons (se_bin bin_add (x_var 1) se_int) ses_nil)) (hk := ble_self _))) ss_nil))) ss_nil)))) (ss_freeze (ss_cons (s1_return (x_var 2)) ss_nil))))
        (fun vs hv => by match vs, hv with | [v0, v1], _ => rfl)
  have c_law_peel : ∀ n : Nat, Con cx (n + 2) (.ref 57) (r_law_peel n) := rec_con (fun _ => rfl) step_law_peel
  have hk_law_leaves : KeepOk (.ref 64) cx.h₁ := .inl ⟨_, _, _, rfl, K 64 _ rfl, rfl⟩
  have hm_law_leaves : (cx.mg "_law_leaves").or (cx.mb "_law_leaves") = some (.ref 64) := by rw [show cx.mg "_law_leaves" = some (.ref 64) from (hmg _).trans (by rfl)]; rfl
  have c_law_leaves : Con cx 1 (.ref 64) (runF 1 8 p_law_leaves) := con_def (xs := ["text"]) (rest := ["ahead", "state", "sign", "leaves", "fresh", "block", "line", "depth"]) (k := 0) (K 64 _ rfl) rfl ⟨63, _, _, _, rfl, K 63 _ rfl, rfl, rfl⟩
    (ss_cons (x_own 1 (x_listF ses_nil)) (ss_cons (s1_assign (x_name 2) se_int) (ss_cons (s1_for (si_rev (x_var 0) h_reversed) (x_name 3) (ss_cons (s1_if (st_cmp cmp_eq (x_var 3) (x_str [93])) (ss_cons (s1_assign (x_name 2) se_int) ss_nil) (ss_cons (s1_if (st_and (st_cmp cmp_eq (x_var 3) (x_str [10])) (st_cmp cmp_eq (x_var 2) se_int)) (ss_cons (s1_assign (x_name 2) se_int) ss_nil) ss_nil) ss_nil)) (ss_cons (s1_append 1 (x_var 2)) ss_nil))) (ss_cons (s1_reverse 1) (ss_cons (x_own 4 (x_listF ses_nil)) (ss_cons (s1_assign (x_name 5) se_bool) (ss_cons (s1_assign2 (x_name 6) (x_name 7) se_int) (ss_freeze (ss_cons (s1_for (si_zip (x_var 0) (x_var 1) h_zip) (sa_tup (.cons (by rfl) (ne_of_beqf (by rfl)) (.cons (by rfl) (ne_of_beqf (by rfl)) .nil))) (ss_cons (s1_if (st_cmp cmp_eq (x_var 3) (x_str [91])) (ss_cons (x_aug 6 aug_add se_int) (ss_cons (x_aug 7 aug_add se_int) ss_nil)) ss_nil) (ss_cons (s1_assign (x_name 8) (se_item (se_tup (ses_cons (x_var 6) (ses_cons (x_var 7) (ses_cons se_int ses_nil)))) (x_var 2))) (ss_cons (s1_if (st_and (st_cmp cmp_eq (x_var 3) (x_str [91])) (st_plain (x_var 8))) (ss_cons (s1_append 4 (se_tup (ses_cons (se_bin bin_sub (x_var 8) se_int) (ses_cons (x_str [91]) ses_nil)))) ss_nil) ss_nil) (ss_cons (s1_if (st_or (st_cmp cmp_eq (x_var 3) (x_str [91])) (st_and (st_cmp cmp_eq (x_var 3) (x_str [93])) (st_plain (x_var 8)))) (ss_cons (s1_assign (x_name 5) se_bool) ss_nil) (ss_cons (s1_if (st_plain (x_var 5)) (ss_cons (s1_append 4 (se_tup (ses_cons (x_var 8) (ses_cons (x_var 3) ses_nil)))) (ss_cons (s1_assign (x_name 5) se_bool) ss_nil)) (ss_cons (s1_last 4 (se_tup (ses_cons (se_item (se_ownItem 4 (se_neg se_int)) se_int) (ses_cons (se_bin bin_add (se_item (se_ownItem 4 (se_neg se_int)) se_int) (x_var 3)) ses_nil)))) ss_nil)) ss_nil)) (ss_cons (s1_if (st_cmp cmp_eq (x_var 3) (x_str [93])) (ss_cons (s1_assign2 (x_name 6) (x_name 7) se_int) ss_nil) (ss_cons (s1_if (st_cmp cmp_eq (x_var 3) (x_str [10])) (ss_cons (s1_assign (x_name 7) se_int) ss_nil) ss_nil) ss_nil)) ss_nil)))))) (ss_freeze (ss_cons (s1_return (x_var 4)) ss_nil)))))))))))
    (fun vs hv => by match vs, hv with | [v0], _ => rfl)
  have hklaw : KeepOk (.ref 69) cx.h₁ := .inl ⟨_, _, _, rfl, K 69 _ rfl, rfl⟩
  have hmlaw : (cx.mg "law").or (cx.mb "law") = some (.ref 69) := by rw [show cx.mg "law" = some (.ref 69) from (hmg _).trans (by rfl)]; rfl
  have claw : Con cx 105 (.ref 69) (runF 1 2 plaw) := con_def (xs := ["script"]) (rest := ["text", "asked"]) (k := 104) (K 69 _ rfl) rfl ⟨68, _, _, _, rfl, K 68 _ rfl, rfl, rfl⟩
    (ss_cons (s1_assign (x_name 1) (x_meth (get_str F.slot_str_join F.type_str_join) con_join (x_str []) (ses_cons (SEF.se (x_comp ["number"] x_cs (si_list (se_cut (x_var 0) sp_none (sp_some se_int))) (x_lname 3) ts_nil (x_call c_law_sign hm_law_sign hk_law_sign (ses_cons (x_var 3) ses_nil)))) ses_nil))) (ss_cons (s1_for (si_tup (se_tup (ses_cons (x_var 1) (ses_cons (se_bin bin_add (se_bin bin_add (x_str [97, 91, 98, 91]) (x_var 1)) (x_str [93, 99, 10, 93])) ses_nil)))) (x_name 2) (ss_cons (s1_if (st_cmp cmp_ne (x_call (c_law_peel 100) hm_law_peel hk_law_peel (ses_cons (x_var 2) (ses_cons se_int ses_nil))) (x_call c_law_leaves hm_law_leaves hk_law_leaves (ses_cons (x_var 2) ses_nil))) (ss_cons (s1_return se_bool) ss_nil) ss_nil) ss_nil)) (ss_cons (s1_return se_bool) ss_nil)))
    (fun vs hv => by match vs, hv with | [v0], _ => rfl)
  have ha : a = 69 := by
    have e := h5.symm.trans ((hmg _).trans (show _ = some (Value.ref 69) from rfl))
    exact Value.ref.inj (Option.some.inj e)
  subst ha
  exact law_end (l := Challenge.rw_dn0312_03) rfl rfl (cx := cx) rfl rfl claw (by decide) pure03 h6 htk p1 p4)
end Mine

end
theorem PySem.Challenge.cw_dn0312_03_holds : PySem.Challenge.rw_dn0312_03.Holds :=
  Mine.foo
