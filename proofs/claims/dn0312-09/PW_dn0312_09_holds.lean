import PyProof.Rows.All
import Wide.All
import OpenK.AllK
import Wide.FinOn
import Lean
import PySem.Challenge.RW_dn0312_09
set_option Elab.async false
set_option maxRecDepth 100000
set_option linter.unusedVariables false
set_option linter.unusedSimpArgs false
section
open PySem PySem.W PyProof.Rows
set_option Elab.async false
set_option maxRecDepth 100000
namespace Mine

/-- the one question to the collector that a scanner's step puts -/
noncomputable def isAsk : Code → Bool
  | .builtin "gc.ask" ⟨[.int 13 _], []⟩ => true
  | _ => false
theorem isAsk_shape {c : Code} (h : isAsk c = true) : ∃ t, c = .builtin "gc.ask" ⟨[.int 13 t], []⟩ := by
  unfold isAsk at h
  split at h
  · exact ⟨_, rfl⟩
  · cases h
noncomputable def denG (c : Code) : Sem Fin := cond (isAsk c) (ret (.bool false)) (denote table c)
noncomputable def Mg (prog : Program) (w : World) : Model := ⟨denG, prog, w⟩
theorem denG_of_not {c : Code} (h : isAsk c = false) : denG c = denote table c := by unfold denG; rw [h]; rfl

theorem entry_gc_ask : entryFor table "gc.ask" = some Builtin.«gc.ask» := entryFor_of_tree (by kernel_rfl)
theorem den_builtin (id : String) (args : Args) : denote table (.builtin id args) = (match entryFor table id with | some b => b args | none => unsupported ((withoutEnding? id "#data").getD id)) := rfl
theorem den_ask (t : Tok) : denote table (.builtin "gc.ask" ⟨[.int 13 t], []⟩) = .pure (.again (.builtin "lifetime.ask" ⟨[.int 13 t], []⟩)) := by
  rw [den_builtin, entry_gc_ask]; rfl
theorem loud_ask (t : Tok) : (Code.builtin "lifetime.ask" ⟨[.int 13 t], []⟩).quiet = false := by
  simp [Code.quiet, Thread.loud, Thread.atCollectorCode, Thread.atExit]

theorem not_runs_ask {M : Model} {Γ : Ctx} {p : Pos} {c' : Code} {fs : List Frame} {s s' : Shared} {e : End} (hq : c'.quiet = false) :
    ∀ t, t = Sem.pure (.again c') → ¬ Runs M Γ p t fs s e s' := by
  intro t ht h
  induction h <;> (try cases ht) <;> simp_all

theorem runs_den {prog : Program} {w : World} {Γ : Ctx} {p : Pos} {c : Code} {fs : List Frame} {s s' : Shared} {e : End}
    (h : Runs (model prog w) Γ p ((model prog w).den c) fs s e s') : (Mg prog w).den c = (model prog w).den c := by
  cases hc : isAsk c with
  | false => exact denG_of_not hc
  | true =>
    obtain ⟨t, rfl⟩ := isAsk_shape hc
    exact absurd h (not_runs_ask (loud_ask t) _ (den_ask t))

theorem runs_mono {prog : Program} {w : World} {Γ : Ctx} {p : Pos} {t : Sem Fin} {fs : List Frame} {s s' : Shared} {e : End}
    (h : Runs (model prog w) Γ p t fs s e s') : Runs (Mg prog w) Γ p t fs s e s' := by
  induction h with
  | done => exact .done
  | raise => exact .raise
  | again hq hr ih => exact .again hq (by rw [runs_den hr]; exact ih)
  | rule _ ih => exact .rule ih
  | «at» _ ih => exact .at ih
  | load ho _ ih => exact .load ho ih
  | update ho _ ih => exact .update ho ih
  | loadIfAlive _ ih => exact .loadIfAlive ih
  | point _ ih => exact .point ih
  | alloc _ ih => exact .alloc ih
  | fresh _ ih => exact .fresh ih
  | ask _ ih => exact .ask ih
  | choose hn _ ih => exact .choose hn ih
  | os _ ih => exact .os ih
  | handled _ ih => exact .handled ih
  | genState hg _ ih => exact .genState hg ih
  | stack _ ih => exact .stack ih
  | thread _ ih => exact .thread ih
  | newGen _ ih => exact .newGen ih
  | call h1 h2 ih1 ih2 => exact .call (by rw [runs_den h1]; exact ih1) ih2
  | callSusp h1 ih1 => exact .callSusp (by rw [runs_den h1]; exact ih1)
  | yield => exact .yield
  | resumeFresh hg h1 hq h2 ih1 ih2 => exact .resumeFresh hg (by rw [runs_den h1]; exact ih1) hq ih2
  | resumeSuspended hg h1 hq h2 ih1 ih2 => exact .resumeSuspended hg ih1 hq ih2
  | resumeJustStarted hg hv _ ih => exact .resumeJustStarted hg hv ih
  | resumeThrowFresh hg _ ih => exact .resumeThrowFresh hg ih
  | resumeRunning hg _ ih => exact .resumeRunning hg ih
  | resumeFinished hg _ ih => exact .resumeFinished hg ih
  | segRet _ _ ih1 ih2 => exact .segRet ih1 ih2
  | segGen _ _ ih1 ih2 => exact .segGen ih1 ih2
  | segSuspOut hs _ ih => exact .segSuspOut hs ih
  | segSuspGen hs _ hq _ ih1 ih2 => exact .segSuspGen hs ih1 hq ih2

theorem wpCode_mono_model {prog : Program} {w : World} {Γ : Ctx} {R R' : Result → Shared → Prop} {p : Pos} {s : Shared} (hR : ∀ r s', R r s' → R' r s')
    (h : wpCode (model prog w) Γ R p s) : wpCode (Mg prog w) Γ R' p s := by
  obtain ⟨r, s', hr, hx⟩ := h
  refine ⟨r, s', ?_, hR _ _ hx⟩
  show Runs (Mg prog w) Γ p ((Mg prog w).den Γ.code) [] s (.ret r) s'
  have hr' : Runs (model prog w) Γ p ((model prog w).den Γ.code) [] s (.ret r) s' := hr
  rw [runs_den hr']; exact runs_mono hr'

theorem wakes_mono {prog : Program} {w : World} {Γ : Ctx} {p : Pos} {g : Nat} {r : Resume} {s : Shared} {res : GenResult} {s' : Shared}
    (h : Wakes (model prog w) Γ p g r s res s') : Wakes (Mg prog w) Γ p g r s res s' := by
  unfold Wakes at h ⊢
  split at h
  · exact h
  · split at h
    · obtain ⟨e₁, s₁, h1, h2⟩ := h; exact ⟨e₁, s₁, by rw [runs_den h1]; exact runs_mono h1, h2⟩
    · exact h
    · exact h
  · obtain ⟨e₁, s₁, h1, h2⟩ := h; exact ⟨e₁, s₁, runs_mono h1, h2⟩
  · exact h
  · exact h

theorem wp_mono_model {α : Type} {prog : Program} {w : World} {Γ : Ctx} (t : Sem α) : ∀ {Q : α → Pos → Shared → Prop} {E : Value → Pos → Shared → Prop} {p : Pos} {s : Shared},
    Sem.wp (model prog w) Γ t Q E p s → Sem.wp (Mg prog w) Γ t Q E p s := by
  induction t with
  | pure a => intro Q E p s h; simpa only [Sem.wp] using h
  | raise a => intro Q E p s h; simpa only [Sem.wp] using h
  | unsupported a => intro Q E p s h; simp only [Sem.wp] at h
  | finish a => intro Q E p s h; simp only [Sem.wp] at h
  | rule _ k ih => intro Q E p s h; simp only [Sem.wp] at h ⊢; exact ih _ h
  | «at» _ k ih => intro Q E p s h; simp only [Sem.wp] at h ⊢; exact ih _ h
  | load _ _ k ih => intro Q E p s h; simp only [Sem.wp] at h ⊢; obtain ⟨o, ho, h⟩ := h; exact ⟨o, ho, ih _ h⟩
  | update _ _ _ k ih => intro Q E p s h; simp only [Sem.wp] at h ⊢; exact ⟨h.1, ih _ h.2⟩
  | alloc _ k ih => intro Q E p s h; simp only [Sem.wp] at h ⊢; exact ih _ h
  | loadIfAlive _ k ih => intro Q E p s h; simp only [Sem.wp] at h ⊢; exact ih _ h
  | point _ k ih => intro Q E p s h; simp only [Sem.wp] at h ⊢; exact ih _ h
  | register _ k ih => intro Q E p s h; simp only [Sem.wp] at h
  | fresh k ih => intro Q E p s h; simp only [Sem.wp] at h ⊢; exact ih _ h
  | ask k ih => intro Q E p s h; simp only [Sem.wp] at h ⊢; exact ih _ h
  | choose _ _ k ih => intro Q E p s h; simp only [Sem.wp] at h ⊢; exact ⟨h.1, ih _ h.2⟩
  | os _ _ k ih => intro Q E p s h; simp only [Sem.wp] at h ⊢; exact ih _ h
  | call c hd g l k ih => intro Q E p s h; simp only [Sem.wp] at h ⊢; exact wpCode_mono_model (fun r s' h' => ih _ h') h
  | handled _ k ih => intro Q E p s h; simp only [Sem.wp] at h ⊢; exact ih _ h
  | newGen _ k ih => intro Q E p s h; simp only [Sem.wp] at h ⊢; exact ih _ h
  | genState _ k ih => intro Q E p s h; simp only [Sem.wp] at h ⊢; obtain ⟨o, ho, h⟩ := h; exact ⟨o, ho, ih _ h⟩
  | resume _ _ _ k ih => intro Q E p s h; simp only [Sem.wp] at h ⊢; obtain ⟨res, s', hw, h⟩ := h; exact ⟨res, s', wakes_mono hw, ih _ h⟩
  | yield _ _ _ k ih => intro Q E p s h; simp only [Sem.wp] at h
  | stack k ih => intro Q E p s h; simp only [Sem.wp] at h ⊢; exact ih _ h
  | fork _ k ih => intro Q E p s h; simp only [Sem.wp] at h
  | thread k ih => intro Q E p s h; simp only [Sem.wp] at h ⊢; exact ih _ h
  | await _ _ _ _ k ih => intro Q E p s h; simp only [Sem.wp] at h

theorem any_mono_model {α : Type} {prog : Program} {w : World} {A : Around} {t : Sem α} {Q : α → Shared → Prop} {E : Value → Shared → Prop} {s : Shared}
    (h : wpAny (model prog w) A t Q E s) : wpAny (Mg prog w) A t Q E s := fun Γ p hΓ => wp_mono_model t (h Γ p hΓ)
end Mine

end
section
open PySem PySem.W PyProof.Rows
set_option Elab.async false
set_option maxRecDepth 100000
namespace Mine

theorem step_denG (prog : Program) (w : World) (s : Shared) (t : Thread) :
    step denG prog w s t = step (denote table) prog w s t ∨
      ∃ c s₁ pos stk, isAsk c = true ∧ step (denote table) prog w s t = .go s₁ ⟨denote table c, c, pos, stk⟩ ∧ step denG prog w s t = .go s₁ ⟨denG c, c, pos, stk⟩ := by
  obtain ⟨heap, gens, drawn, toks, os⟩ := s
  obtain ⟨cur, code, pos, stack⟩ := t
  cases cur with
  | pure a =>
    cases a with
    | done f => exact .inl rfl
    | again c =>
      cases hc : isAsk c with
      | false => left; simp only [step, denG_of_not hc]
      | true => right; exact ⟨c, _, _, _, hc, rfl, rfl⟩
  | call c h g l k =>
    cases hc : isAsk c with
    | false => left; simp only [step, denG_of_not hc]
    | true => right; exact ⟨c, _, _, _, hc, rfl, rfl⟩
  | resume g r l k =>
    simp only [step]
    cases hg : gens[g]? with
    | none => exact .inl rfl
    | some x =>
      cases x with
      | fresh c =>
        cases r with
        | throw e => exact .inl rfl
        | send v =>
          cases v with
          | none =>
            cases hc : isAsk c with
            | false => left; simp only [denG_of_not hc]
            | true => right; exact ⟨c, _, _, _, hc, rfl, rfl⟩
          | _ => exact .inl rfl
      | _ => exact .inl rfl
  | _ => exact .inl rfl

theorem watching_asleep {s : Shared} (hz : s.asleep) : s.watching = false := by
  unfold Shared.watching; rw [hz.1]; rfl

theorem ask_turn (prog : Program) (w : World) (s : Shared) (hz : s.asleep) (t : Tok) (code : Code) (pos : Pos) (stk : List Frame) :
    sstep (denote table) prog w (.single s ⟨.pure (.again (.builtin "lifetime.ask" ⟨[.int 13 t], []⟩)), code, pos, stk⟩) = .go (.single s ⟨ret (.bool false), code, pos, stk⟩) := by
  obtain ⟨hr, hc⟩ := hz
  have hw := watching_asleep ⟨hr, hc⟩
  have h1 : (Config.single s ⟨.pure (.again (.builtin "lifetime.ask" ⟨[.int 13 t], []⟩)), code, pos, stk⟩).collect? w.params = none := by
    simp [Config.collect?, Config.single, (nothing_to_collect _ _ _ s _ hr).1]
  have h2 : (Config.single s ⟨.pure (.again (.builtin "lifetime.ask" ⟨[.int 13 t], []⟩)), code, pos, stk⟩).collectable = [] := by
    simp [Config.collectable, Config.single, (nothing_to_collect w.params _ _ s _ hr).2]
  have hm : (Config.single s ⟨.pure (.again (.builtin "lifetime.ask" ⟨[.int 13 t], []⟩)), code, pos, stk⟩).moves w.params.profile = [.run 0] := by
    simp [Config.moves, Config.single, movesFrom, Thread.moves, Thread.atomic, Thread.rests, Thread.tells]
  have hp : (Config.single s ⟨.pure (.again (.builtin "lifetime.ask" ⟨[.int 13 t], []⟩)), code, pos, stk⟩).pick w = .ok (.run 0, .single s ⟨.pure (.again (.builtin "lifetime.ask" ⟨[.int 13 t], []⟩)), code, pos, stk⟩) := by
    simp only [Config.pick, h1, h2, Config.pickThread, hm]
    cases w.params.lifetimes <;> simp
  have hl : ∀ others, lifeStep (denote table) prog w others s ⟨.pure (.again (.builtin "lifetime.ask" ⟨[.int 13 t], []⟩)), code, pos, stk⟩ = .go s ⟨ret (.bool false), code, pos, stk⟩ := by
    intro others
    have e1 : collectorTurn? w.params others s ⟨.pure (.again (.builtin "lifetime.ask" ⟨[.int 13 t], []⟩)), code, pos, stk⟩ = some (askTurn w.params others s ⟨.pure (.again (.builtin "lifetime.ask" ⟨[.int 13 t], []⟩)), code, pos, stk⟩ [.int 13 t]) := rfl
    have e2 : askTurn w.params others s ⟨.pure (.again (.builtin "lifetime.ask" ⟨[.int 13 t], []⟩)), code, pos, stk⟩ [.int 13 t] = (s, ⟨ret (.bool false), code, pos, stk⟩) :=
      if_pos (c := ((!s.heap.life.gcEnabled || s.heap.life.thresholds.head? == some 0 || s.heap.life.collecting || !s.watching) = true)) (by rw [hw]; simp)
    unfold lifeStep
    rw [if_pos (by simp [Thread.special, Thread.atCollectorCode])]
    dsimp only
    rw [e1, e2]
    simp only [hc, Bool.false_and, Bool.false_eq_true, if_false]
  unfold sstep
  rw [hp]
  simp only [Config.move, Config.run, Config.single]
  simp [hl, others_single, frozenBadly, ThreadState.insideWrite, Thread.finalizes, Thread.special, Thread.atCollectorCode]

theorem sim (prog : Program) (w : World) : ∀ (n : Nat) (s : Shared) (t : Thread) (o : Outcome) (s' : Shared), s.asleep → o.ends = true → runN denG prog w n s t = .halted o s' →
    (∀ k s₁ t₁, runN denG prog w k s t = .running s₁ t₁ → t₁.calm = true) → ∃ m, schedN (denote table) prog w m (.single s t) = .halted o s' := by
  intro n
  induction n with
  | zero => intro s t o s' _ _ h; cases h
  | succ n ih =>
    intro s t o s' hz ho h hc
    have hcalm := hc 0 s t rfl
    have life : ∀ s₂ t₂, step denG prog w s t = .go s₂ t₂ → s₂.asleep := fun s₂ t₂ e => by
      simp only [Shared.asleep, step_life denG prog w s s₂ t t₂ e]; exact hz
    have later : ∀ s₂ t₂, step denG prog w s t = .go s₂ t₂ → ∀ k s₁ t₁, runN denG prog w k s₂ t₂ = .running s₁ t₁ → t₁.calm = true := fun s₂ t₂ e k s₁ t₁ hk =>
      hc (k + 1) s₁ t₁ (by simp only [runN, e]; exact hk)
    rcases step_denG prog w s t with e | ⟨c, s₁, pos, stk, hask, e1, e2⟩
    · rcases sstep_single (denote table) prog w s t hcalm hz with e' | e'
      · cases hs : step denG prog w s t with
        | go s₂ t₂ =>
          simp only [runN, hs] at h
          obtain ⟨m, hm⟩ := ih s₂ t₂ o s' (life _ _ hs) ho h (later _ _ hs)
          refine ⟨m + 1, ?_⟩
          simp only [schedN, e', ← e, hs, Step.lift]; exact hm
        | halt o₂ s₂ =>
          simp only [runN, hs] at h
          injection h with h1 h2
          subst h1 h2
          refine ⟨1, ?_⟩
          simp only [schedN, e', ← e, hs, Step.lift]
      · rw [← e] at e'
        simp only [runN, e'] at h
        injection h with h1 h2
        subst h1
        cases ho
    · simp only [runN, e2] at h
      obtain ⟨m, hm⟩ := ih _ _ o s' (life _ _ e2) ho h (later _ _ e2)
      obtain ⟨tk, rfl⟩ := isAsk_shape hask
      rcases sstep_single (denote table) prog w s t hcalm hz with e' | e'
      · refine ⟨m + 1 + 1, ?_⟩
        simp only [schedN, e', e1, Step.lift]
        rw [den_ask, ask_turn prog w s₁ (life _ _ e2)]
        exact hm
      · rw [e1] at e'; cases e'

/-- a run of the altered model, to its end, is a run of the scheduler with the real table -/
theorem halts {prog : Program} {w : World} {c : Code} {t : Sem Fin} {R : Result → Shared → Prop} {p : Pos} {s : Shared} (hreg : s.asleep)
    (h : Sem.wp (Mg prog w) ⟨c, none, none, [], none⟩ t (Sem.finPost (Mg prog w) ⟨c, none, none, [], none⟩ fun r s' => R r s' ∧ leftWithCleanup s'.gens = false)
      (fun e _ s' => R (.error e) s' ∧ leftWithCleanup s'.gens = false) p s) :
    ∃ n r s' s'', schedN (denote table) prog w n (.single s ⟨t, c, p, []⟩) = .halted (outcomeOf r) s'' ∧ s''.heap.life = s.heap.life ∧ s''.forget = s'.forget ∧ R r s' := by
  obtain ⟨n, r, s', hn, hR⟩ := (wp_iff_halts (M := Mg prog w) t R p s).mp h
  obtain ⟨s'', hr, hf, hcalm⟩ := runNI_real (Mg prog w).den (Mg prog w).prog (Mg prog w).w hn (outcomeOf_ends r)
  obtain ⟨m, hm⟩ := sim prog w n s ⟨t, c, p, []⟩ _ _ hreg (outcomeOf_ends r) hr hcalm
  exact ⟨m, r, s', s'', hm, runN_life _ _ _ hr, hf, hR⟩
end Mine

end
section
open PySem PySem.W PySem.Calls PyProof.Rows
set_option Elab.async false
set_option maxRecDepth 100000
namespace Mine

/-- the caller's own context: nothing stands below it -/
noncomputable abbrev callerG : Ctx := ⟨.builtin "claim.caller" {}, none, none, [], none⟩

theorem callFromG {c : ClaimW} {tree : List Value → Sem Fin} {w : World} {s : Shared} {free : Addr → Prop} {gens : Prop} {kept : Heap → Prop} (hz : s.asleep) (hgens : s.gens = #[])
    (hspec : ∀ args, c.pre args = true → WData.layableAll args = true → ∀ ord : List DictEntry → List DictEntry, (∀ l, (ord l).Perm l) →
      ∃ vs s₁, layAllW c.records (classAt s.heap) w.params ord args s = some (vs, s₁) ∧
        Sem.wp (Mg c.prog w) callerG (tree vs) (fun fin _ s' => ∃ f, fin = .done f ∧ (c.Ends s args vs s₁ (.ok f) s' ∧ s'.os = s.os ∧ AllBare s'.gens ∧ kept s'.heap)) (fun _ _ _ => False) default s₁) :
    c.CallFrom (fun vs => ⟨tree vs, .builtin "claim.caller" {}, default, []⟩) w free gens kept s := by
  intro args hpre hlay ord hord
  obtain ⟨vs, s₁, hlaid, hcode⟩ := hspec args hpre hlay ord hord
  have hal := layAllW_rest _ _ _ hlaid
  obtain ⟨k, r, s', s'', hsched, hlf, hfo, hcase, hos, hkp⟩ := halts (prog := c.prog) (w := w) (t := tree vs) (s := s₁)
    (R := fun r s' => c.Ends s args vs s₁ r s' ∧ s'.os = s.os ∧ kept s'.heap) (Shared.asleep_of_life hal.2.2.2 hz)
    (Sem.wp_mono _ _ _ (fun fin p' s' h' => by
      obtain ⟨f, rfl, h1, h2, h3, h4⟩ := h'
      exact ⟨⟨h1, h2, h4⟩, leftWithCleanup_false_of_bare h3⟩) (fun _ _ _ h' => h'.elim) _ _ hcode)
  obtain ⟨eh, _, _, eo, _⟩ := Shared.forget_eq hfo
  have hcase := hcase.congr eh
  rw [← eh] at hkp
  rw [← eo] at hos
  have hlife : s''.heap.life = s.heap.life := hlf.trans hal.2.2.2
  refine ⟨vs, s₁, hlaid, k, _, s'', hsched, ?_, (fun _ i x hx => by rw [hgens] at hx; simp at hx), hkp, by rw [hlife], Shared.rest_eq hos⟩
  rcases hcase with ⟨v, rfl, d1, d2, d3, d4, d5⟩ | ⟨e, ob, cls, rfl, d1, d2, d3, d4, d5⟩
  · exact .inl ⟨v, rfl, d1, d2, d3, fun b o y _ => d4 b o y, d5⟩
  · exact .inr ⟨e, ob, cls, rfl, d1, d2, d3, d4, fun b o y _ => d5 b o y⟩

/-! there is a token before the law is called -/
section
variable {R : WRecords} {cl : Str → Option Addr} {P : Params} {ord : List DictEntry → List DictEntry}
mutual
theorem layW_toks : ∀ (d : WData) (s : Shared) (r : Value × Shared), layW R cl P ord d s = some r → s.toks ≤ r.2.toks
  | .none, s, r, h => by rw [layW] at h; cases h; exact Nat.le_refl _
  | .bool b, s, r, h => by rw [layW] at h; cases h; exact Nat.le_refl _
  | .int i, s, r, h => by rw [layW] at h; cases h; exact Nat.le_succ _
  | .str i, s, r, h => by rw [layW] at h; cases h; exact Nat.le_succ _
  | .float i, s, r, h => by rw [layW] at h; cases h; exact Nat.le_succ _
  | .bytes i, s, r, h => by rw [layW] at h; cases h; exact Nat.le_succ _
  | .bytearray i, s, r, h => by rw [layW] at h; cases h; exact Nat.le_refl _
  | .list xs, s, r, h => by
    rw [layW] at h
    split at h
    · rename_i q hq; cases h; exact layAllW_toks xs s q hq
    · cases h
  | .tuple xs, s, r, h => by
    rw [layW] at h
    split at h
    · rename_i q hq; cases h; exact layAllW_toks xs s q hq
    · cases h
  | .dict xs, s, r, h => by
    rw [layW] at h
    split at h
    · rename_i q hq; cases h; exact layKvW_toks xs s q hq
    · cases h
  | .set xs, s, r, h => by
    rw [layW] at h
    split at h
    · rename_i q hq; cases h; exact layElemsW_toks xs s q hq
    · cases h
  | .frozenset xs, s, r, h => by
    rw [layW] at h
    split at h
    · rename_i q hq; cases h; exact layElemsW_toks xs s q hq
    · cases h
  | .obj c kvs, s, r, h => by
    rw [layW] at h
    split at h
    · split at h
      · split at h
        · split at h
          · rename_i q hq; cases h; exact layFieldsW_toks kvs s q hq
          · cases h
        · cases h
      · cases h
    · cases h
theorem layAllW_toks : ∀ (ds : List WData) (s : Shared) (r : List Value × Shared), layAllW R cl P ord ds s = some r → s.toks ≤ r.2.toks
  | [], s, r, h => by rw [layAllW] at h; cases h; exact Nat.le_refl _
  | x :: xs, s, r, h => by
    rw [layAllW] at h
    split at h
    · rename_i q hq
      split at h
      · rename_i q2 hq2; cases h; exact Nat.le_trans (layW_toks x s q hq) (layAllW_toks xs _ q2 hq2)
      · cases h
    · cases h
theorem layKvW_toks : ∀ (ds : List (WData × WData)) (s : Shared) (r : List DictEntry × Shared), layKvW R cl P ord ds s = some r → s.toks ≤ r.2.toks
  | [], s, r, h => by rw [layKvW] at h; cases h; exact Nat.le_refl _
  | (k, v) :: xs, s, r, h => by
    rw [layKvW] at h
    split at h
    · rename_i q hq
      split at h
      · rename_i q2 hq2
        split at h
        · rename_i q3 hq3; cases h; exact Nat.le_trans (Nat.le_trans (layW_toks k s q hq) (layW_toks v _ q2 hq2)) (layKvW_toks xs _ q3 hq3)
        · cases h
      · cases h
    · cases h
theorem layElemsW_toks : ∀ (ds : List WData) (s : Shared) (r : List DictEntry × Shared), layElemsW R cl P ord ds s = some r → s.toks ≤ r.2.toks
  | [], s, r, h => by rw [layElemsW] at h; cases h; exact Nat.le_refl _
  | x :: xs, s, r, h => by
    rw [layElemsW] at h
    split at h
    · rename_i q hq
      split at h
      · rename_i q2 hq2; cases h; exact Nat.le_trans (layW_toks x s q hq) (layElemsW_toks xs _ q2 hq2)
      · cases h
    · cases h
theorem layFieldsW_toks : ∀ (ds : List (Str × WData)) (s : Shared) (r : List DictEntry × Shared), layFieldsW R cl P ord ds s = some r → s.toks ≤ r.2.toks
  | [], s, r, h => by rw [layFieldsW] at h; cases h; exact Nat.le_refl _
  | (f, v) :: xs, s, r, h => by
    rw [layFieldsW] at h
    split at h
    · rename_i q hq
      split at h
      · rename_i q2 hq2; cases h; exact Nat.le_trans (Nat.le_trans (Nat.le_succ _) (layW_toks v _ q hq)) (layFieldsW_toks xs _ q2 hq2)
      · cases h
    · cases h
end
end
theorem importEnds_toks {tb : String → Option Builtin} {p : Program} {w : World} : ∀ (N : Nat) (s : Shared) (t : Thread) (s1 : Shared), importEnds tb p w N s t = some s1 → s.toks ≤ s1.toks
  | 0, _, _, _, h => by simp [importEnds] at h
  | N + 1, s, t, s1, h => by
    unfold importEnds at h
    split at h
    · cases h; exact Nat.le_refl _
    · cases h
    · split at h
      · rename_i s' t' hs
        exact Nat.le_trans (step_toks_le _ p w s s' t t' hs) (importEnds_toks N s' t' s1 h)
      · cases h
theorem topRun_toks {tb : String → Option Builtin} {p : Program} {w : World} {n₀ : Nat} {ann : Option Value} : ∀ (N : Nat) (s : Shared) (t : Thread) (s1 : Shared), topRun tb p w n₀ ann N s t = some s1 → s.toks ≤ s1.toks
  | 0, _, _, _, h => by simp [topRun] at h
  | N + 1, s, t, s1, h => by
    unfold topRun at h
    split at h
    · cases h; exact Nat.le_refl _
    · split at h
      · cases h
      · split at h
        · rename_i s' t' hs
          exact Nat.le_trans (step_toks_le _ p w s s' t t' hs) (topRun_toks N s' t' s1 h)
        · cases h
theorem fenceModule_toks {m : Str} {s s1 : Shared} (h : fenceModule? m s = some s1) : s1.toks = s.toks := by
  unfold fenceModule? at h
  repeat' split at h
  all_goals first | (cases h; done) | skip
  rw [Option.map_eq_some_iff] at h
  obtain ⟨o, _, rfl⟩ := h
  rfl
theorem fenceAll_toks : ∀ {ms : List Str} {s s1 : Shared}, fenceAll? ms s = some s1 → s1.toks = s.toks
  | [], s, s1, h => by cases h; rfl
  | m :: ms, s, s1, h => by
    rw [fenceAll?, Option.bind_eq_some_iff] at h
    obtain ⟨s2, h1, h2⟩ := h
    rw [fenceAll_toks h2, fenceModule_toks h1]
theorem copies_toks : ∀ {ms : List Str} {s s1 : Shared}, copiesAnew? ms s = some s1 → s1.toks = s.toks
  | [], s, s1, h => by cases h; rfl
  | m :: ms, s, s1, h => by
    rw [copiesAnew?, Option.bind_eq_some_iff] at h
    obtain ⟨s2, h1, h2⟩ := h
    rw [copyAnew?, Option.map_eq_some_iff] at h1
    obtain ⟨o, _, rfl⟩ := h1
    rw [copies_toks h2]
theorem openEnds_toks {tb : String → Option Builtin} {p : Program} {w : World} {N : Nat} {s : Shared} (h : openEnds tb p w N = some s) : 0 < s.toks := by
  unfold openEnds fencedOpening at h
  rw [Option.bind_eq_some_iff] at h
  obtain ⟨s0, h0, h⟩ := h
  rw [Option.bind_eq_some_iff] at h0
  obtain ⟨s', h1, h0⟩ := h0
  have t1 : 0 < s'.toks := Nat.lt_of_lt_of_le (show 0 < (start (opening p)).1.toks from Nat.one_pos) (importEnds_toks _ _ _ _ h1)
  have t2 : s0.toks = s'.toks := by
    unfold fenceModules? at h0
    rw [Option.bind_eq_some_iff] at h0
    obtain ⟨s2, h2, h0⟩ := h0
    split at h0
    · rw [copies_toks h0, fenceAll_toks h2]
    · cases h0; exact fenceAll_toks h2
  unfold topFrom at h
  split at h
  · rw [Option.bind_eq_some_iff] at h
    obtain ⟨s3, h3, h⟩ := h
    split at h
    · cases h; exact Nat.lt_of_lt_of_le (t2 ▸ t1) (topRun_toks _ _ _ _ h3)
    · cases h
  · cases h
theorem leftT {p q : Program} {loose : List Str} {Xt : Shared → Bool} {α : Type} {Yf : Shared → α} {Ya : World → α} {N : Nat} (left : LeftO p q loose Xt Yf Ya N) : LeftO p q loose Xt (fun s => (Yf s, decide (0 < s.toks))) (fun w => (Ya w, true)) N := fun w => by
  have h := left w
  rw [Option.map_eq_some_iff] at h ⊢
  obtain ⟨s, h1, h2⟩ := h
  refine ⟨s, h1, ?_⟩
  rw [Prod.mk.injEq] at h2
  rw [h2.1]
  show (_, (Yf s, decide (0 < s.toks))) = (_, (Ya w, true))
  rw [h2.2, decide_eq_true (openEnds_toks h1)]

/-- what is left to show of the law's call -/
noncomputable abbrev WalkG (q : Program) (loose : List Str) (XP : (Str → Option Value) → Heap → Prop) (YP : World → Heap → Prop) (r : RowW) (d : DefRec) (kwd : List (Str × PySem.Expr)) : Prop :=
  ∀ (w : World) (s₀ s₁ : Shared) (mg mb : Str → Option Value), Ground q loose r.records XP w s₀ mg mb s₁.heap → YP w s₁.heap → ∀ (a : Addr) (o : Obj) (pm cd doc dV kV : Value), s₁.heap.get? a = some o →
    o.data = .func { docDef d.name d.params d.body d.scope pm cd doc with defaults := dV, kwdefaults := kV } → s₁.heap.CodeRec cd d.name → Dflts mg s₁.heap d.params kwd dV kV → mg d.name = some (.ref a) → s₁.gens = #[] → 0 < s₁.toks →
    ∀ (args : List WData) (vals : List Value) (as : List Addr), r.claim.pre args = true → WData.layableAll args = true → ReadsAllW r.records (classAt s₀.heap) s₁.heap vals args as → WellAll w.params s₁.heap vals args → (∀ a ∈ as, (a == sysModules) = false) →
      Sem.wp (Mg r.prog w) callerG (PySem.call (.ref a) vals) (fun v _ s' => GoodWG r.claim (classAt s₀.heap) (ExcName.means s₀.heap) args s₁ (.ok (.ret v)) s') (fun _ _ _ => False) default s₁

theorem holdsG {r : OpenRow} {q : Program} {loose : List Str} {Xt : Shared → Bool} {XP : (Str → Option Value) → Heap → Prop} {α : Type} {Yf : Shared → α} {Ya : World → α} {YP : World → Heap → Prop} {d : DefRec} {kwd : List (Str × PySem.Expr)} {N : Nat}
    (left : LeftO r.prog q loose Xt Yf Ya N) (hY : ∀ w s, Yf s = Ya w → YP w s.heap) (hYk : ∀ w h h', YP w h → (∀ b o, h.get? b = some o → h'.get? b = some o) → YP w h')
    (hX : ∀ s, Xt s = true → XP (s.heap.nsMap mainGlobals) s.heap) (hXk : ∀ mg h h', XP mg h → (∀ b o, h.get? b = some o → h'.get? b = some o) → XP mg h')
    (hdef : defOf q r.name = some (d, kwd)) (hp : r.prog.theDef r.name = some (d.params, d.body, d.scope)) (hk : kwWritten? d.params.kwonlyargs d.params.kw_defaults = some kwd) (hRf : ∀ s, Xt s = true → RecFacts r.records s.heap) (hwr : (!r.writes || r.records.isEmpty) = true)
    (k1 : r.wellSaid = true) (ok : (chainsOk q && opensWell r.prog && (frees r.toRowW && r.within.isEmpty)) = true) (hb : r.prog.bare) (hw : r.toRowW.promised)
    (call : WalkG q loose XP YP r.toRowW d kwd) : r.Holds := by
  obtain ⟨ok, k5⟩ := Bool.and_eq_true_iff.mp ok
  obtain ⟨hch, o1⟩ := Bool.and_eq_true_iff.mp ok
  obtain ⟨k5, k6⟩ := Bool.and_eq_true_iff.mp k5
  obtain ⟨hsame, hu, ha, hap, hm⟩ := frees_parts k5
  refine ⟨k1, hw, ⟨hb, o1, by show r.makers.map _ = []; rw [hm]; rfl⟩, hw.witness, fun w => ⟨(left.behind hX hch w).1, fun s' hs' => ?_⟩⟩
  obtain ⟨s₀, hf, hg0, s, hT, hz, hgens, hg, G00, y0⟩ := ((leftT left).behind (XP := fun mg h => XP mg h ∧ RecFacts r.records h) (fun s hs => ⟨hX s hs, hRf s hs⟩) hch w).2 s' hs'
  obtain ⟨y, htk⟩ := Prod.mk.inj y0
  have htk : 0 < s.toks := of_decide_eq_true htk
  have G0 : Ground q loose [] XP w s (s.heap.nsMap mainGlobals) (s.heap.nsMap builtinsNs) s.heap := ⟨G00.T, G00.B, G00.D, G00.TE, G00.TD, G00.W, G00.X.1, G00.cls, G00.has, G00.apart, G00.once, G00.K⟩
  have RF := G00.X.2
  have hT' := hT
  refine ⟨s₀, hf, hg0, s, hT, fun n hn => ?_, RF.1, RF.2.1, ?_⟩
  · obtain rfl : n = r.name := by split at hn <;> simp_all
    exact pinned_of_view hg G0 hdef hp hk
  have hgens : s.gens = #[] := Array.eq_empty_of_size_eq_zero (beq_iff_eq.mp hgens)
  have G : Ground q loose r.records XP w s _ _ s.heap := RF.ground G0
  refine callFromG (c := r.toRowW.claim) (tree := fun vs => do match ← nsGet mainNs r.name with
      | some f => do ret (← PySem.call f vs)
      | none => unsupported "claim.caller:no-such-global") hz hgens fun args hpre hlay ord hord => ?_
  obtain ⟨⟨vs, s₁⟩, hlaid⟩ := Option.isSome_iff_exists.mp (layAllW_isSome (P := w.params) (ord := ord) G.has args r.args s (pre_splitW hpre).1)
  have keeps := layAllW_keeps _ _ _ hlaid
  have hal := layAllW_rest _ _ _ hlaid
  obtain ⟨as, hrd, hin, hold⟩ := reads_layAllW hord _ _ _ hlaid hlay s₁.heap (fun _ _ e => e)
  have L : Laid r.records w s s₁ args vs as := ⟨⟨ord, hord, hlaid⟩, hrd, hin, hold, keeps, hal.1.trans hgens, hal.2.2.1⟩
  have G₁ := G.keeps hXk keeps
  obtain ⟨a, o, pm, cd, doc, dV, kV, h1, h2, h3, h4, h5⟩ := G₁.fn hdef
  have h := call w s s₁ _ _ G₁ (hYk _ _ _ (hY w s y) keeps) a o pm cd doc dV kV h2 h3 h4 h5 (defOf_name hdef ▸ h1) L.gens (Nat.lt_of_lt_of_le htk (layAllW_toks _ _ _ hlaid)) args vs as hpre hlay L.reads L.well (L.low G.low)
  have hi := ident_freeW hu ha hap
  have hwi : r.claim.within = [] := List.isEmpty_iff.mp k6
  refine ⟨vs, s₁, hlaid, ?_⟩
  rw [Sem.wp_bind']
  have hns : s₁.heap.Ns mainNs (s.heap.nsMap mainGlobals) := G₁.T.g
  refine (Sem.wp_nsGet _ _ _ _ _ hns _ _).mpr ?_
  rw [h1]
  show Sem.wp _ _ (PySem.call (.ref a) vs >>= fun v => ret v) _ _ _ _
  rw [Sem.wp_bind']
  refine Sem.wp_mono _ _ _ (fun v p' s' g => ?_) (fun _ _ _ x => x) _ _ h
  have z := g.laid (c := r.claim) hsame hwi hi L
  exact ⟨_, rfl, z.1, z.2.1, z.2.2, fun q => ⟨namesKept_of hT' hg _ keeps g.2.1.old, noTable hwr q⟩⟩
end Mine

end
section
open PySem PySem.W PySem.Calls PyProof.Rows
set_option Elab.async false
set_option maxRecDepth 100000
namespace Mine

noncomputable def notCI : Code → Bool
  | .builtin id _ => !(id == "callable_iterator.__next__")
  | _ => true
noncomputable def CleanB (Γ : Ctx) : Prop := ∀ x ∈ Γ.below, notCI x.1 = true
noncomputable def Clean (Γ : Ctx) : Prop := notCI Γ.code = true ∧ CleanB Γ

theorem clean_enter {Γ : Ctx} (h : Clean Γ) (c : Code) (hd : Option Value) (p : Pos) : CleanB (Γ.enter c hd p) := by
  intro x hx
  rcases List.mem_cons.mp hx with rfl | hx
  · exact h.1
  · exact h.2 x hx
theorem clean_caller : Clean callerG := ⟨rfl, fun _ hx => nomatch hx⟩

/-! the count of tokens only grows -/
theorem runs_toks {M : Model} {Γ : Ctx} {p : Pos} {t : Sem Fin} {fs : List Frame} {s s' : Shared} {e : End} (h : Runs M Γ p t fs s e s') : s.toks ≤ s'.toks := by
  induction h <;> (try simp only [Shared.setGen] at *) <;> omega
theorem wakes_toks {M : Model} {Γ : Ctx} {p : Pos} {g : Nat} {r : Resume} {s s' : Shared} {res : GenResult} (h : Wakes M Γ p g r s res s') : s.toks ≤ s'.toks := by
  unfold Wakes at h
  split at h
  · exact h.elim
  · split at h
    · obtain ⟨e₁, s₁, hr, _, _, rfl⟩ := h; exact (runs_toks hr : (s.setGen g .running).toks ≤ s₁.toks)
    · rw [h.2]; exact Nat.le_refl _
    · rw [h.2]; exact Nat.le_refl _
  · obtain ⟨e₁, s₁, hr, _, _, rfl⟩ := h; exact (runs_toks hr : (s.setGen g .running).toks ≤ s₁.toks)
  · rw [h.2]; exact Nat.le_refl _
  · rw [h.2]; exact Nat.le_refl _
theorem wp_toks {α : Type} (M : Model) (Γ : Ctx) (n : Nat) (t : Sem α) : ∀ (Q : α → Pos → Shared → Prop) (E : Value → Pos → Shared → Prop) (p : Pos) (s : Shared), n ≤ s.toks → Sem.wp M Γ t Q E p s →
    Sem.wp M Γ t (fun a p' s' => n ≤ s'.toks ∧ Q a p' s') E p s := by
  induction t with
  | pure a => intro Q E p s hn h; exact ⟨hn, h⟩
  | raise e => intro Q E p s hn h; exact h
  | unsupported _ => intro Q E p s _ h; exact h
  | finish _ => intro Q E p s _ h; exact h
  | rule _ k ih => intro Q E p s hn h; exact ih () Q E p s hn h
  | «at» p' k ih => intro Q E p s hn h; exact ih () Q E p' s hn h
  | load a _ k ih => intro Q E p s hn h; obtain ⟨o, ho, h⟩ := h; exact ⟨o, ho, ih o Q E p s hn h⟩
  | update a _ f k ih => intro Q E p s hn h; exact ⟨h.1, ih () Q E p _ hn h.2⟩
  | loadIfAlive a k ih => intro Q E p s hn h; exact ih _ Q E p s hn h
  | point _ k ih => intro Q E p s hn h; exact ih () Q E p s hn h
  | register _ _ => intro Q E p s _ h; exact h
  | alloc o k ih => intro Q E p s hn h; exact ih _ Q E p _ hn h
  | fresh k ih => intro Q E p s hn h; exact ih _ Q E p { s with toks := s.toks + 1 } (Nat.le_succ_of_le hn) h
  | ask k ih => intro Q E p s hn h; exact ih _ Q E p s hn h
  | choose src m k ih => intro Q E p s hn h; exact ⟨h.1, ih _ Q E p _ hn h.2⟩
  | os q _ k ih => intro Q E p s hn h; exact ih _ Q E p _ hn h
  | call c hd _ _ k ih => intro Q E p s hn h; obtain ⟨r, s', hr, h⟩ := h; exact ⟨r, s', hr, ih r Q E p s' (Nat.le_trans hn (runs_toks hr)) h⟩
  | handled own k ih => intro Q E p s hn h; exact ih _ Q E p s hn h
  | genState g k ih => intro Q E p s hn h; obtain ⟨st, hs, h⟩ := h; exact ⟨st, hs, ih _ Q E p s hn h⟩
  | newGen c k ih => intro Q E p s hn h; exact ih _ Q E p _ hn h
  | resume g r _ k ih => intro Q E p s hn h; obtain ⟨res, s', hw, h⟩ := h; exact ⟨res, s', hw, ih res Q E p s' (Nat.le_trans hn (wakes_toks hw)) h⟩
  | yield _ _ _ _ => intro Q E p s _ h; exact h
  | stack k ih => intro Q E p s hn h; exact ih _ Q E p s hn h
  | fork _ _ => intro Q E p s _ h; exact h
  | thread k ih => intro Q E p s hn h; exact ih _ Q E p s hn h
  | await _ _ _ _ _ => intro Q E p s _ h; exact h

/-- from s the tree comes to its end without an exception, in every context that runs no callable iterator's step -/
noncomputable def W {α : Type} (prog : Program) (w : World) (A : Around) (t : Sem α) (Q : α → Shared → Prop) (s : Shared) : Prop :=
  0 < s.toks → ∀ Γ p, Γ.In A → Clean Γ → Sem.wp (Mg prog w) Γ t (fun a _ s' => Q a s') (fun _ _ _ => False) p s
noncomputable def C (prog : Program) (w : World) (A : Around) (c : Code) (R : Flow → Shared → Prop) (s : Shared) : Prop :=
  0 < s.toks → ∀ Γ p, Γ.code = c → Γ.Below A → CleanB Γ → wpCode (Mg prog w) Γ (fun r s' => match r with | .ok f => R f s' | .error _ => False) p s

section
variable {α β : Type} {prog : Program} {w : World} {A : Around} {s : Shared}

theorem W.of_any {t : Sem α} {Q : α → Shared → Prop} (h : wpAny (model prog w) A t Q (fun _ _ => False) s) : W prog w A t Q s :=
  fun _ Γ p hΓ _ => any_mono_model h Γ p hΓ
theorem W.mono {t : Sem α} {Q Q' : α → Shared → Prop} (h : W prog w A t Q s) (hQ : ∀ a s', Q a s' → Q' a s') : W prog w A t Q' s :=
  fun ht Γ p hΓ hc => Sem.wp_mono _ Γ t (fun a _ s => hQ a s) (fun _ _ _ x => x) p s (h ht Γ p hΓ hc)
/-- there is a token ahead of each -/
theorem W.tok {t : Sem α} {Q : α → Shared → Prop} (h : 0 < s.toks → W prog w A t Q s) : W prog w A t Q s := fun ht => h ht ht
theorem W.pure {a : α} {Q : α → Shared → Prop} (h : Q a s) : W prog w A (Pure.pure a) Q s := fun _ _ _ _ _ => h
theorem W.bind {m : Sem α} {f : α → Sem β} {Q : β → Shared → Prop} (h : W prog w A m (fun a s' => W prog w A (f a) Q s') s) : W prog w A (m >>= f) Q s := fun ht Γ p hΓ hc => by
  rw [Sem.wp_bind']
  exact Sem.wp_mono _ Γ m (fun a p' s' h' => h'.2 h'.1 Γ p' hΓ hc) (fun _ _ _ h' => h') p s (wp_toks _ Γ 1 m _ _ p s ht (h ht Γ p hΓ hc))
theorem W.holding {vs : List Value} {m : Sem α} {Q : α → Shared → Prop} (h : W prog w A m Q s) : W prog w A (PySem.holding vs m) Q s :=
  fun ht Γ p hΓ hc => by rw [Sem.wp_holding]; exact h ht Γ p hΓ hc
theorem W.keep {vs : List Value} {m : Sem α} {Q : α → Shared → Prop} (h : W prog w A m Q s) : W prog w A (m.keep vs) Q s :=
  fun ht Γ p hΓ hc => by rw [Sem.wp_keep]; exact h ht Γ p hΓ hc
theorem W.standAt {pos : Pos} {Q : Unit → Shared → Prop} (h : Q () s) : W prog w A (PySem.standAt pos) Q s := fun _ _ _ _ _ => h
theorem W.rule {tag : String} {Q : Unit → Shared → Prop} (h : Q () s) : W prog w A (PySem.rule tag) Q s := fun _ _ _ _ _ => h
theorem W.point {Q : Unit → Shared → Prop} (h : Q () s) : W prog w A PySem.point Q s := fun _ _ _ _ _ => h
theorem W.onRaise {m : Sem α} {k : Value → Sem Unit} {Q : α → Shared → Prop} (h : W prog w A m Q s) : W prog w A (m.onRaise k) Q s := fun ht Γ p hΓ hc => by
  rw [Sem.wp_onRaise]
  exact Sem.wp_mono _ Γ m (fun _ _ _ h' => h') (fun _ _ _ h' => h'.elim) p s (h ht Γ p hΓ hc)
theorem W.attempt {m : Sem α} {Q : Except Value α → Shared → Prop} (h : W prog w A m (fun a => Q (.ok a)) s) : W prog w A m.attempt Q s := fun ht Γ p hΓ hc => by
  rw [Sem.wp_attempt]
  exact Sem.wp_mono _ Γ m (fun _ _ _ h' => h') (fun _ _ _ h' => h'.elim) p s (h ht Γ p hΓ hc)
theorem W.operate {vs : List Value} {m : Sem Value} {Q : Value → Shared → Prop} (h : W prog w A m Q s) : W prog w A (PySem.operate vs m) Q s := fun ht Γ p hΓ hc => by
  rw [Sem.wp_operate]; exact h ht Γ p hΓ hc
theorem W.of_eq {t t' : Sem α} {Q : α → Shared → Prop} (e : t = t') (h : W prog w A t' Q s) : W prog w A t Q s := e ▸ h
theorem W.pureQ {a : α} {Q : α → Shared → Prop} (h : Q a s) : W prog w A (Sem.pure a) Q s := fun _ _ _ _ _ => h

theorem C.mono {c : Code} {R R' : Flow → Shared → Prop} (h : C prog w A c R s) (hR : ∀ f s', R f s' → R' f s') : C prog w A c R' s :=
  fun ht Γ p hc hΓ hb => wpCode_mono (fun r s' h' => by cases r with | ok f => exact hR f s' h' | error e => exact h') (h ht Γ p hc hΓ hb)
theorem C.of_any {c : Code} {R : Flow → Shared → Prop} (h : codeAny (model prog w) A c (fun r s' => match r with | .ok f => R f s' | .error _ => False) s) : C prog w A c R s :=
  fun _ Γ p hc hΓ _ => wpCode_mono_model (fun _ _ x => x) (h Γ p hc hΓ)
theorem W.run {c : Code} {Q : Flow → Shared → Prop} (hc : C prog w A c Q s) : W prog w A (PySem.run c) Q s := fun ht Γ p hΓ hcl => by
  rw [Sem.wp_run]
  refine wpCode_mono (fun r s' h' => ?_) (hc ht _ p rfl (by have := hΓ.enter c none p (by intro x; cases x); exact this) (clean_enter hcl c none p))
  cases r with
  | ok f => exact h'
  | error e => exact h'
theorem W.runValue {c : Code} {Q : Value → Shared → Prop} (hc : C prog w A c (fun f s' => ∃ v, f = .ret v ∧ Q v s') s) : W prog w A (PySem.runValue c) Q s := by
  unfold PySem.runValue
  refine W.bind (W.mono (W.run hc) fun f s' h' => ?_)
  obtain ⟨v, rfl, hv⟩ := h'
  exact W.pure hv
theorem W.call {f : Value} {pos : List Value} {kw : List (Str × Value)} {Q : Value → Shared → Prop} (hc : C prog w A (.call f ⟨pos, kw⟩) (fun f s' => ∃ v, f = .ret v ∧ Q v s') s) :
    W prog w A (PySem.call f pos kw) Q s := W.runValue hc
theorem W.runOwn {c : Code} {env : Env} {Q : Flow → Shared → Prop} (hc : C prog w A c Q s) : W prog w A (PySem.runOwn c env) Q s := by
  unfold PySem.runOwn
  exact W.onRaise (W.run hc)

theorem C.of_tree {c : Code} {R : Flow → Shared → Prop} (hci : notCI c = true) (hask : isAsk c = false)
    (h : W prog w (A.under c) (denote table c) (fun fin s' => match fin with | .done f => R f s' | .again c' => c'.quiet = true ∧ C prog w A c' R s') s) : C prog w A c R s := fun ht Γ p hc hΓ hb => by
  rw [wpCode_iff_wp, hc]
  show Sem.wp (Mg prog w) Γ (denG c) _ _ p s
  rw [denG_of_not hask]
  refine Sem.wp_mono _ Γ _ (fun fin p' s' h' => ?_) (fun _ _ _ h' => h'.elim) p s (wp_toks _ Γ 1 _ _ _ p s ht (h ht Γ p (hc ▸ hΓ.in) ⟨by rw [hc]; exact hci, hb⟩))
  obtain ⟨ht', h'⟩ := h'
  cases fin with
  | done f => exact h'
  | again c' => exact ⟨h'.1, h'.2 ht' (Γ.goto c') p' rfl (hΓ.goto c') hb⟩

theorem C.loop {c : Code} {R : Flow → Shared → Prop} (hci : notCI c = true) (hask : isAsk c = false) (hq : c.quiet = true) (I : Nat → Shared → Prop)
    (turn : ∀ n s, I n s → W prog w (A.under c) (denote table c)
      (fun fin s' => match fin with | .done f => R f s' | .again c' => (c' = c ∧ ∃ m, m < n ∧ I m s') ∨ (c'.quiet = true ∧ C prog w A c' R s')) s)
    (n : Nat) (h : I n s) : C prog w A c R s := by
  induction n using Nat.strongRecOn generalizing s with
  | ind n ih =>
    refine C.of_tree hci hask (W.mono (turn n s h) (fun fin s' hf => ?_))
    cases fin with
    | done f => exact hf
    | again c' =>
      rcases hf with ⟨rfl, m, hm, hI⟩ | hf
      · exact ⟨hq, ih m hm hI⟩
      · exact hf

/-! the codes of the text -/
theorem C.block {stmts : List Stmt} {env : Env} {R : Flow → Shared → Prop} (h : W prog w A (execs stmts env) R s) : C prog w A (.block stmts env) R s := by
  refine C.of_tree rfl rfl ?_
  show W _ _ A (do return Fin.done (← (execs stmts env).onRaise (fun x => do noteFrame x env; theTreesLotGoes x))) _ s
  exact W.bind (W.mono (W.onRaise h) fun f s' h' => W.pure h')

theorem C.func {body : List Stmt} {env : Env} {R : Flow → Shared → Prop} (h : W prog w (A.deeper env) (execs body env) (fun f s' => R (.ret (match f with | .ret v => v | _ => .none)) s') s) : C prog w A (.func body env) R s := by
  refine C.of_tree rfl rfl ?_
  show W _ _ (A.deeper env) (do point; match ← (execs body env).onRaise (leaving env) with | .ret v => ret v | _ => ret .none) _ s
  refine W.bind (W.point (W.bind (W.mono (W.onRaise h) fun f s' h' => ?_)))
  cases f <;> exact W.pure h'

theorem C.whileLoop {test : PySem.Expr} {body : List Stmt} {env : Env} {R : Flow → Shared → Prop} (I : Nat → Shared → Prop)
    (turn : ∀ n s, I n s → W prog w A (isTrue test env (eval test env)) (fun b s₂ =>
        if b then W prog w A (execs body env) (fun f s₃ => match f with
            | .next | .cont => ∃ m, m < n ∧ I m s₃
            | .brk => R .next s₃
            | .ret v => R (.ret v) s₃) s₂
        else R .next s₂) s)
    (n : Nat) (h : I n s) : C prog w A (.whileLoop test body [] env) R s := by
  refine C.loop rfl rfl rfl I (fun n s hI => ?_) n h
  show W _ _ A ((whileTurn test body [] env).onRaise (fun x => do noteFrame x env; theTreesLotGoes x)) _ s
  refine W.onRaise ?_
  simp only [whileTurn]
  refine W.bind (W.mono (turn n s hI) fun b s₂ h₂ => ?_)
  cases b with
  | false => simp only [Bool.false_eq_true, if_false] at h₂ ⊢; exact W.bind (W.pure (W.pure h₂))
  | true =>
    simp only [if_true] at h₂ ⊢
    refine W.bind (W.mono h₂ fun f s₃ h₃ => ?_)
    cases f with
    | next => exact W.pure (Or.inl ⟨rfl, h₃⟩)
    | cont => exact W.pure (Or.inl ⟨rfl, h₃⟩)
    | brk => exact W.pure h₃
    | ret v => exact W.pure h₃

theorem C.forLoop {target : PySem.Expr} {it : Value} {body : List Stmt} {env : Env} {R : Flow → Shared → Prop} (I : Nat → Shared → Prop)
    (turn : ∀ n s, I n s → W prog w A (pyNext it) (fun r s₁ => match r with
        | none => R .next s₁
        | some v => W prog w A (letOwnedTupleGo target it v) (fun _ s₂ => W prog w A (assign target env v) (fun _ s₃ => W prog w A (execs body env) (fun f s₄ => match f with
            | .next | .cont => ∃ m, m < n ∧ I m s₄
            | .brk => R .next s₄
            | .ret v => R (.ret v) s₄) s₃) s₂) s₁) s)
    (n : Nat) (h : I n s) : C prog w A (.forLoop target it body [] env) R s := by
  refine C.loop rfl rfl rfl I (fun n s hI => ?_) n h
  show W _ _ A ((forTurn target it body [] env).onRaise (fun x => do noteFrame x env; theTreesLotGoes x)) _ s
  refine W.onRaise ?_
  simp only [forTurn]
  refine W.bind (W.standAt (W.bind (W.onRaise (W.mono (turn n s hI) fun r s₁ h₁ => ?_))))
  cases r with
  | none => exact W.pure (Or.inr ⟨rfl, C.block (W.pure h₁)⟩)
  | some v =>
    refine W.bind (W.mono h₁ fun _ s₂ h₂ => W.bind (W.mono h₂ fun _ s₃ h₃ => W.bind (W.mono h₃ fun f s₄ h₄ => ?_)))
    cases f with
    | next => exact W.pure (Or.inl ⟨rfl, h₄⟩)
    | cont => exact W.pure (Or.inl ⟨rfl, h₄⟩)
    | brk => exact W.pure h₄
    | ret v => exact W.pure h₄
end
end Mine

end
section
open PySem PySem.W PySem.Calls PyProof.Rows
set_option Elab.async false
set_option maxRecDepth 100000
namespace Mine

/-- plain data -/
inductive D where
  | none
  | bool (b : Bool)
  | int (i : Int)
  | str (l : List Nat)
  | list (xs : List D)
  | tup (xs : List D)
  | mat (t : List Nat) (b e g : Nat)
  | inst (q : List Nat)

noncomputable abbrev Avd := Addr → Prop

structure Cx where
  prog : Program
  w : World
  h₁ : Heap
  mg : Str → Option Value
  mb : Str → Option Value
  hg : h₁.Ns mainGlobals mg
  hb : h₁.Ns builtinsNs mb
  lim : h₁.NoLimit
  pat : Addr
  inst : Heap → Avd → List Nat → Value → Prop
  instMono : ∀ {h h' : Heap} {Av Av' : Avd} {q : List Nat} {v : Value}, (∀ a o, ¬ Av a → h.get? a = some o → h'.get? a = some o) → (∀ a, Av' a → Av a ∨ h.get? a = Option.none) → inst h Av q v → inst h' Av' q v

noncomputable def matSpans (b e g : Nat) : List Value :=
  [rawInt b, rawInt e] ++ (List.range 3).flatMap fun k => if k + 1 = g then [rawInt b, rawInt e] else [rawInt (-1), rawInt (-1)]

structure MatAt (cx : Cx) (h : Heap) (Av : Avd) (t : List Nat) (b e g : Nat) (v : Value) (a sp : Addr) : Prop where
  val : v = .ref a
  obj : ∃ tk : Tok, h.get? a = some { cls := .type "re.Match", data := .fields #[.str ⟨t.toArray⟩ tk, .ref cx.pat, rawInt 0, rawInt t.length, rawInt g, .ref sp] }
  spans : ∃ n, h.get? sp = some { cls := .type "tuple", data := .seq (matSpans b e g).toArray n }
  ok : (∀ c ∈ t, c < 0x110000) ∧ t.length ≤ sizeLine ∧ b ≤ e ∧ e ≤ t.length ∧ 1 ≤ g ∧ g ≤ 3
  av : ¬ Av a ∧ ¬ Av sp

mutual
/-- the value v reads as the datum in the heap, and no object on the way is one of Av -/
noncomputable def Rd (cx : Cx) (h : Heap) (Av : Avd) : D → Value → Prop
  | .none, v => v = .none
  | .bool b, v => v = .bool b
  | .int i, v => ∃ t, v = .int i t
  | .str l, v => ∃ t, v = .str ⟨l.toArray⟩ t ∧ (∀ c ∈ l, c < 0x110000) ∧ l.length ≤ sizeLine
  | .list ds, v => ∃ a vs n, v = .ref a ∧ h.get? a = some { cls := .type "list", data := .seq vs n } ∧ ¬ Av a ∧ vs.size ≤ sizeLine ∧ RdAll cx h Av ds vs.toList
  | .tup ds, v => ∃ a vs n, v = .ref a ∧ h.get? a = some { cls := .type "tuple", data := .seq vs n } ∧ ¬ Av a ∧ vs.size ≤ sizeLine ∧ RdAll cx h Av ds vs.toList
  | .mat t b e g, v => ∃ a sp, MatAt cx h Av t b e g v a sp
  | .inst q, v => cx.inst h Av q v
noncomputable def RdAll (cx : Cx) (h : Heap) (Av : Avd) : List D → List Value → Prop
  | [], vs => vs = []
  | d :: ds, vs => ∃ v r, vs = v :: r ∧ Rd cx h Av d v ∧ RdAll cx h Av ds r
end

section
variable {cx : Cx} {h h' : Heap} {Av Av' : Avd}
theorem not_av {a : Addr} {o : Obj} (ha : ∀ a, Av' a → Av a ∨ h.get? a = Option.none) (hv : ¬ Av a) (ho : h.get? a = some o) : ¬ Av' a := fun x =>
  (ha a x).elim hv fun y => by rw [y] at ho; cases ho
mutual
theorem Rd.mono (hk : ∀ a o, ¬ Av a → h.get? a = some o → h'.get? a = some o) (ha : ∀ a, Av' a → Av a ∨ h.get? a = Option.none) : ∀ {d : D} {v : Value}, Rd cx h Av d v → Rd cx h' Av' d v
  | .none, _, r => by rw [Rd] at r ⊢; exact r
  | .bool _, _, r => by rw [Rd] at r ⊢; exact r
  | .int _, _, r => by rw [Rd] at r ⊢; exact r
  | .str _, _, r => by rw [Rd] at r ⊢; exact r
  | .list ds, v, r => by
    rw [Rd] at r ⊢
    obtain ⟨a, vs, n, e, ho, hv, hz, hr⟩ := r
    exact ⟨a, vs, n, e, hk a _ hv ho, not_av ha hv ho, hz, RdAll.mono hk ha hr⟩
  | .tup ds, v, r => by
    rw [Rd] at r ⊢
    obtain ⟨a, vs, n, e, ho, hv, hz, hr⟩ := r
    exact ⟨a, vs, n, e, hk a _ hv ho, not_av ha hv ho, hz, RdAll.mono hk ha hr⟩
  | .mat t b e g, v, r => by
    rw [Rd] at r ⊢
    obtain ⟨a, sp, r⟩ := r
    obtain ⟨tk, ho⟩ := r.obj
    obtain ⟨n, hs⟩ := r.spans
    exact ⟨a, sp, r.val, ⟨tk, hk _ _ r.av.1 ho⟩, ⟨n, hk _ _ r.av.2 hs⟩, r.ok, ⟨not_av ha r.av.1 ho, not_av ha r.av.2 hs⟩⟩
  | .inst q, v, r => by rw [Rd] at r ⊢; exact cx.instMono hk ha r
theorem RdAll.mono (hk : ∀ a o, ¬ Av a → h.get? a = some o → h'.get? a = some o) (ha : ∀ a, Av' a → Av a ∨ h.get? a = Option.none) : ∀ {ds : List D} {vs : List Value}, RdAll cx h Av ds vs → RdAll cx h' Av' ds vs
  | [], _, r => by rw [RdAll] at r ⊢; exact r
  | d :: ds, _, r => by
    rw [RdAll] at r ⊢
    obtain ⟨v, l, e, r1, r2⟩ := r
    exact ⟨v, l, e, Rd.mono hk ha r1, RdAll.mono hk ha r2⟩
end
theorem Rd.keep {d : D} {v : Value} (r : Rd cx h Av d v) (hk : ∀ a o, h.get? a = some o → h'.get? a = some o) : Rd cx h' Av d v := r.mono (fun a o _ e => hk a o e) fun _ x => .inl x
theorem RdAll.keep {d : List D} {v : List Value} (r : RdAll cx h Av d v) (hk : ∀ a o, h.get? a = some o → h'.get? a = some o) : RdAll cx h' Av d v := r.mono (fun a o _ e => hk a o e) fun _ x => .inl x
theorem Rd.weak {d : D} {v : Value} (r : Rd cx h Av d v) (ha : ∀ a, Av' a → Av a) : Rd cx h Av' d v := r.mono (fun _ _ _ e => e) fun a x => .inl (ha a x)
theorem RdAll.weak {d : List D} {v : List Value} (r : RdAll cx h Av d v) (ha : ∀ a, Av' a → Av a) : RdAll cx h Av' d v := r.mono (fun _ _ _ e => e) fun a x => .inl (ha a x)

theorem RdAll.length : ∀ {ds : List D} {vs : List Value}, RdAll cx h Av ds vs → vs.length = ds.length
  | [], _, r => by rw [RdAll] at r; subst r; rfl
  | d :: ds, _, r => by
    rw [RdAll] at r
    obtain ⟨v, l, rfl, r1, r2⟩ := r
    simp [RdAll.length r2]
theorem RdAll.cons {d : D} {ds : List D} {v : Value} {vs : List Value} (h1 : Rd cx h Av d v) (h2 : RdAll cx h Av ds vs) : RdAll cx h Av (d :: ds) (v :: vs) := by rw [RdAll]; exact ⟨v, vs, rfl, h1, h2⟩
theorem RdAll.nil : RdAll cx h Av [] [] := by rw [RdAll]
theorem RdAll.append : ∀ {ds es : List D} {vs us : List Value}, RdAll cx h Av ds vs → RdAll cx h Av es us → RdAll cx h Av (ds ++ es) (vs ++ us)
  | [], _, _, _, r, q => by rw [RdAll] at r; subst r; exact q
  | d :: ds, es, _, us, r, q => by
    rw [RdAll] at r
    obtain ⟨v, l, rfl, r1, r2⟩ := r
    exact RdAll.cons r1 (RdAll.append r2 q)
theorem RdAll.get : ∀ {ds : List D} {vs : List Value}, RdAll cx h Av ds vs → ∀ {i : Nat} {d : D}, ds[i]? = some d → ∃ v, vs[i]? = some v ∧ Rd cx h Av d v
  | [], _, _, _, _, e => by simp at e
  | d :: ds, _, r, i, d', e => by
    rw [RdAll] at r
    obtain ⟨v, l, rfl, r1, r2⟩ := r
    cases i with
    | zero => simp at e; subst e; exact ⟨v, rfl, r1⟩
    | succ i => simp at e; exact RdAll.get r2 e
theorem RdAll.of_get : ∀ {ds : List D} {vs : List Value}, vs.length = ds.length → (∀ (i : Nat) (d : D) (v : Value), ds[i]? = some d → vs[i]? = some v → Rd cx h Av d v) → RdAll cx h Av ds vs
  | [], vs, hl, _ => by
    cases vs with
    | nil => exact RdAll.nil
    | cons _ _ => simp at hl
  | d :: ds, vs, hl, hg => by
    cases vs with
    | nil => simp at hl
    | cons v vs => exact RdAll.cons (hg 0 d v rfl rfl) (RdAll.of_get (by simpa using hl) fun i d' v' e1 e2 => hg (i + 1) d' v' (by simpa using e1) (by simpa using e2))
theorem RdAll.take {ds : List D} {vs : List Value} (r : RdAll cx h Av ds vs) (n : Nat) : RdAll cx h Av (ds.take n) (vs.take n) := by
  refine RdAll.of_get (by simp [r.length]) fun i d v e1 e2 => ?_
  rw [List.getElem?_take] at e1 e2
  split at e1
  · rename_i hlt
    rw [if_pos hlt] at e2
    obtain ⟨v', e, q⟩ := r.get e1
    rw [e] at e2; cases e2; exact q
  · cases e1
theorem RdAll.drop {ds : List D} {vs : List Value} (r : RdAll cx h Av ds vs) (n : Nat) : RdAll cx h Av (ds.drop n) (vs.drop n) := by
  refine RdAll.of_get (by simp [r.length]) fun i d v e1 e2 => ?_
  rw [List.getElem?_drop] at e1 e2
  obtain ⟨v', e, q⟩ := r.get e1
  rw [e] at e2; cases e2; exact q
end
end Mine

end
section
open PySem PySem.W PySem.Calls PyProof.Rows
set_option Elab.async false
set_option maxRecDepth 100000
namespace Mine

inductive Slot where
  | unb
  | val (d : D)
  | own (xs : List D)

/-- nothing that stood is changed -/
structure Ext (s s' : Shared) : Prop where
  gens : s'.gens = s.gens
  os : s'.os = s.os
  size : s.heap.objs.size ≤ s'.heap.objs.size
  keep : ∀ a o, s.heap.get? a = some o → s'.heap.get? a = some o
theorem Ext.refl (s : Shared) : Ext s s := ⟨rfl, rfl, Nat.le_refl _, fun _ _ e => e⟩
theorem Ext.trans {a b c : Shared} (x : Ext a b) (y : Ext b c) : Ext a c := ⟨y.gens.trans x.gens, y.os.trans x.os, Nat.le_trans x.size y.size, fun p o e => y.keep p o (x.keep p o e)⟩
theorem Ext.toks {s : Shared} (t : Nat) : Ext s { s with toks := t } := ⟨rfl, rfl, Nat.le_refl _, fun _ _ e => e⟩
theorem Ext.push {s : Shared} (o : Obj) (t : Nat) : Ext s { s with heap := s.heap.push o, toks := t } :=
  ⟨rfl, rfl, by show _ ≤ (s.heap.push o).objs.size; rw [Heap.size_push]; exact Nat.le_succ _, fun _ _ e => Heap.get?_push_of_some _ e⟩

noncomputable def muts (env : Env) (O : Nat → Option Addr) : Avd := fun a => (∃ j, O j = some a) ∨ a = env.locals ∨ ∃ x, env.cells.lookup x = some a
noncomputable def Av (env : Env) (P : Avd) (O : Nat → Option Addr) : Avd := fun a => P a ∨ muts env O a

/-- of what stood only the frame's own names and lists are changed -/
structure Tr (env : Env) (O : Nat → Option Addr) (s : Shared) (O' : Nat → Option Addr) (s' : Shared) : Prop where
  gens : s'.gens = s.gens
  os : s'.os = s.os
  size : s.heap.objs.size ≤ s'.heap.objs.size
  keep : ∀ a o, ¬ muts env O a → s.heap.get? a = some o → s'.heap.get? a = some o
  own : ∀ j a, O' j = some a → (∃ i, O i = some a) ∨ s.heap.objs.size ≤ a

theorem get_none {h : Heap} {a : Addr} (ha : h.objs.size ≤ a) : h.get? a = none := by
  cases e : h.get? a with
  | none => rfl
  | some o => exact absurd (Heap.lt_size e) (Nat.not_lt.mpr ha)

theorem Tr.refl (env : Env) (O : Nat → Option Addr) (s : Shared) : Tr env O s O s := ⟨rfl, rfl, Nat.le_refl _, fun _ _ _ e => e, fun j _ e => .inl ⟨j, e⟩⟩
theorem Tr.trans {env : Env} {O O' O'' : Nat → Option Addr} {s s' s'' : Shared} (x : Tr env O s O' s') (y : Tr env O' s' O'' s'') : Tr env O s O'' s'' where
  gens := y.gens.trans x.gens
  os := y.os.trans x.os
  size := Nat.le_trans x.size y.size
  keep := fun a o hn e => y.keep a o (fun m => by
    rcases m with ⟨j, hj⟩ | m
    · rcases x.own j a hj with ⟨i, hi⟩ | hge
      · exact hn (.inl ⟨i, hi⟩)
      · exact absurd (Heap.lt_size e) (Nat.not_lt.mpr hge)
    · exact hn (.inr m)) (x.keep a o hn e)
  own := fun j a hj => by
    rcases y.own j a hj with ⟨i, hi⟩ | hge
    · exact x.own i a hi
    · exact .inr (Nat.le_trans x.size hge)
theorem Ext.tr {env : Env} {O : Nat → Option Addr} {s s' : Shared} (x : Ext s s') : Tr env O s O s' := ⟨x.gens, x.os, x.size, fun a o _ e => x.keep a o e, fun j _ e => .inl ⟨j, e⟩⟩

noncomputable def SlotOk (cx : Cx) (h : Heap) (V : Avd) (O : Nat → Option Addr) (i : Nat) (v? : Option Value) : Slot → Prop
  | .unb => True
  | .val d => ∃ v, v? = some v ∧ Rd cx h V d v
  | .own xs => ∃ a vs n, O i = some a ∧ v? = some (.ref a) ∧ h.get? a = some { cls := .type "list", data := .seq vs n } ∧ vs.size ≤ sizeLine ∧ RdAll cx h V xs vs.toList

structure FrV (cx : Cx) (sc : Scope) (tab : List (Option Str)) (env : Env) (P : Avd) (O : Nat → Option Addr) (vm : Str → Option Value) (s : Shared) (ρ : List Slot) : Prop where
  scope : env.scope = sc
  kind : sc.kind = .function
  glob : env.globals = mainGlobals
  blt : env.builtins = builtinsNs
  base : ∀ a o, cx.h₁.get? a = some o → s.heap.get? a = some o
  ns : ∃ m, s.heap.Ns env.locals m ∧ ∀ x, sc.names.lookup x = some .local → m x = vm x
  cell : ∀ x c, env.cells.lookup x = some c → s.heap.IsCell c (vm x)
  apart : env.cells.Pairwise fun x y => x.2 ≠ y.2
  fresh : ∀ a, muts env O a → cx.h₁.objs.size ≤ a ∧ a < s.heap.objs.size
  nsCell : ∀ x, env.cells.lookup x ≠ some env.locals
  av : ∀ a, P a → a < s.heap.objs.size
  len : ρ.length = tab.length
  tabInj : ∀ (i j : Nat) (x : Str), tab[i]? = some (some x) → tab[j]? = some (some x) → i = j
  cellNL : ∀ x c, env.cells.lookup x = some c → sc.names.lookup x ≠ some .local
  known : ∀ (i : Nat) (x : Str), tab[i]? = some (some x) → sc.names.lookup x = some .local ∨ ((sc.names.lookup x = some .cell ∨ sc.names.lookup x = some .free) ∧ (env.cells.lookup x).isSome = true)
  slots : ∀ (i : Nat) (x : Str) (sl : Slot), tab[i]? = some (some x) → ρ[i]? = some sl → SlotOk cx s.heap (Av env P O) O i (vm x) sl
  ownInj : ∀ (i j : Nat) (a : Addr), O i = some a → O j = some a → i = j
  ownSlot : ∀ (i : Nat) (a : Addr), O i = some a → ∃ x xs, tab[i]? = some (some x) ∧ ρ[i]? = some (.own xs)
  ownApart : ∀ (j : Nat) (a : Addr), O j = some a → a ≠ env.locals ∧ ∀ x, env.cells.lookup x ≠ some a
  ownNP : ∀ (j : Nat) (a : Addr), O j = some a → ¬ P a

section
variable {cx : Cx} {sc : Scope} {tab : List (Option Str)} {env : Env} {P : Avd} {O : Nat → Option Addr} {vm : Str → Option Value} {s s' : Shared} {ρ : List Slot}

theorem FrV.avLt (F : FrV cx sc tab env P O vm s ρ) {a : Addr} (h : Av env P O a) : a < s.heap.objs.size := h.elim (F.av a) fun m => (F.fresh a m).2
theorem FrV.new (F : FrV cx sc tab env P O vm s ρ) {a : Addr} (h : s.heap.objs.size ≤ a) : ¬ Av env P O a := fun x => Nat.lt_irrefl _ (Nat.lt_of_lt_of_le (F.avLt x) h)

theorem SlotOk.keep {h h' : Heap} {V : Avd} {i : Nat} {v? : Option Value} {sl : Slot} (x : SlotOk cx h V O i v? sl) (hk : ∀ a o, h.get? a = some o → h'.get? a = some o) : SlotOk cx h' V O i v? sl := by
  cases sl with
  | unb => trivial
  | val d => obtain ⟨v, e, r⟩ := x; exact ⟨v, e, r.keep hk⟩
  | own xs => obtain ⟨a, vs, n, e1, e2, e3, e4, r⟩ := x; exact ⟨a, vs, n, e1, e2, hk _ _ e3, e4, r.keep hk⟩

theorem FrV.ext (F : FrV cx sc tab env P O vm s ρ) (x : Ext s s') : FrV cx sc tab env P O vm s' ρ where
  scope := F.scope
  kind := F.kind
  glob := F.glob
  blt := F.blt
  base := fun a o e => x.keep a o (F.base a o e)
  ns := let ⟨m, h1, h2⟩ := F.ns; ⟨m, h1.keeps x.keep, h2⟩
  cell := fun y c e => (F.cell y c e).keeps x.keep
  apart := F.apart
  fresh := fun a m => ⟨(F.fresh a m).1, Nat.lt_of_lt_of_le (F.fresh a m).2 x.size⟩
  nsCell := F.nsCell
  av := fun a h => Nat.lt_of_lt_of_le (F.av a h) x.size
  len := F.len
  tabInj := F.tabInj
  cellNL := F.cellNL
  known := F.known
  slots := fun i y sl h1 h2 => (F.slots i y sl h1 h2).keep x.keep
  ownInj := F.ownInj
  ownSlot := F.ownSlot
  ownApart := F.ownApart
  ownNP := F.ownNP

/-- a change of the avoided objects: fewer -/
theorem FrV.lessP {P' : Avd} (F : FrV cx sc tab env P O vm s ρ) (hP : ∀ a, P' a → P a) : FrV cx sc tab env P' O vm s ρ :=
  { F with
    av := fun a h => F.av a (hP a h)
    ownNP := fun j a e h => F.ownNP j a e (hP a h)
    slots := fun i y sl h1 h2 => by
      have hs := F.slots i y sl h1 h2
      have hA : ∀ a, Av env P' O a → Av env P O a := fun a h => h.imp (hP a) id
      cases sl with
      | unb => trivial
      | val d => obtain ⟨v, e, r⟩ := hs; exact ⟨v, e, r.weak hA⟩
      | own xs => obtain ⟨a, vs, n, e1, e2, e3, e4, r⟩ := hs; exact ⟨a, vs, n, e1, e2, e3, e4, r.weak hA⟩ }

theorem rd_moreP {V V' : Avd} {h : Heap} {N : Nat} (hV : ∀ a, V' a → V a ∨ N ≤ a) {h' : Heap} (hk : ∀ a o, h.get? a = some o → h'.get? a = some o) (hN : h.objs.size ≤ N) {d : D} {v : Value} (r : Rd cx h V d v) : Rd cx h' V' d v :=
  r.mono (fun a o _ e => hk a o e) fun a x => (hV a x).imp id fun y => get_none (Nat.le_trans hN y)
theorem rdAll_moreP {V V' : Avd} {h : Heap} {N : Nat} (hV : ∀ a, V' a → V a ∨ N ≤ a) {h' : Heap} (hk : ∀ a o, h.get? a = some o → h'.get? a = some o) (hN : h.objs.size ≤ N) {d : List D} {v : List Value} (r : RdAll cx h V d v) : RdAll cx h' V' d v :=
  r.mono (fun a o _ e => hk a o e) fun a x => (hV a x).imp id fun y => get_none (Nat.le_trans hN y)

/-- a change of the avoided objects: more, all of them new -/
theorem FrV.moreP {P' : Avd} (F : FrV cx sc tab env P O vm s ρ) (x : Ext s s') (hP : ∀ a, P' a → P a ∨ (s.heap.objs.size ≤ a ∧ a < s'.heap.objs.size)) : FrV cx sc tab env P' O vm s' ρ :=
  { F.ext x with
    av := fun a h => (hP a h).elim (fun y => Nat.lt_of_lt_of_le (F.av a y) x.size) fun y => y.2
    ownNP := fun j a e h => (hP a h).elim (F.ownNP j a e) fun y => Nat.lt_irrefl _ (Nat.lt_of_lt_of_le (F.fresh a (.inl ⟨j, e⟩)).2 y.1)
    slots := fun i y sl h1 h2 => by
      have hs := F.slots i y sl h1 h2
      have hA : ∀ a, Av env P' O a → Av env P O a ∨ s.heap.objs.size ≤ a := fun a h => h.elim (fun y => (hP a y).imp .inl And.left) fun y => .inl (.inr y)
      cases sl with
      | unb => trivial
      | val d => obtain ⟨v, e, r⟩ := hs; exact ⟨v, e, rd_moreP hA x.keep (Nat.le_refl _) r⟩
      | own xs => obtain ⟨a, vs, n, e1, e2, e3, e4, r⟩ := hs; exact ⟨a, vs, n, e1, e2, x.keep _ _ e3, e4, rdAll_moreP hA x.keep (Nat.le_refl _) r⟩ }

/-- a read of a datum goes on behind a statement -/
theorem FrV.rdTr {O' : Nat → Option Addr} (F : FrV cx sc tab env P O vm s ρ) (x : Tr env O s O' s') {d : D} {v : Value} (r : Rd cx s.heap (Av env P O) d v) : Rd cx s'.heap (Av env P O') d v := by
  refine r.mono (fun a o hn e => x.keep a o (fun m => hn (.inr m)) e) fun a h => ?_
  rcases h with h | ⟨j, hj⟩ | h
  · exact .inl (.inl h)
  · rcases x.own j a hj with ⟨i, hi⟩ | hge
    · exact .inl (.inr (.inl ⟨i, hi⟩))
    · exact .inr (get_none hge)
  · exact .inl (.inr (.inr h))
end

noncomputable def upd (vm : Str → Option Value) (x : Str) (v : Value) : Str → Option Value := fun y => if y = x then some v else vm y
noncomputable def off (O : Nat → Option Addr) (i : Nat) : Nat → Option Addr := fun j => if j = i then none else O j
noncomputable def onO (O : Nat → Option Addr) (i : Nat) (a : Addr) : Nat → Option Addr := fun j => if j = i then some a else O j
theorem off_some {O : Nat → Option Addr} {i j : Nat} {a : Addr} (h : off O i j = some a) : j ≠ i ∧ O j = some a := by
  unfold off at h
  split at h
  · cases h
  · exact ⟨by assumption, h⟩
theorem onO_some {O : Nat → Option Addr} {i j : Nat} {a b : Addr} (h : onO O i a j = some b) : (j = i ∧ b = a) ∨ (j ≠ i ∧ O j = some b) := by
  unfold onO at h
  split at h
  · cases h; exact .inl ⟨by assumption, rfl⟩
  · exact .inr ⟨by assumption, h⟩

section
variable {cx : Cx} {sc : Scope} {tab : List (Option Str)} {env : Env} {P : Avd} {O : Nat → Option Addr} {vm : Str → Option Value} {s : Shared} {ρ : List Slot} {prog : Program} {w : World} {A : Around}

theorem FrV.load (F : FrV cx sc tab env P O vm s ρ) {i : Nat} {x : Str} {v : Value} {Q : Value → Shared → Prop} (ht : tab[i]? = some (some x)) (hv : vm x = some v) (hQ : Q v s) (hcd : (x == ("__classdict__" : Str)) = false) : W prog w A (loadName env x) Q s := by
  have hk : env.scope.kind = .function := by rw [F.scope]; exact F.kind
  rcases F.known i x ht with hl | ⟨hl, hc⟩
  · obtain ⟨m, hn, hm⟩ := F.ns
    exact W.of_any (wpAny_loadName_local hk (by show env.scope.names.lookup x = _; rw [F.scope]; exact hl) hn ((hm x hl).trans hv) hQ)
  · obtain ⟨c, hc⟩ := Option.isSome_iff_exists.mp hc
    rcases hl with hl | hl
    · exact W.of_any (wpAny_loadName_cell hk (by show env.scope.names.lookup x = _; rw [F.scope]; exact hl) hc (hv ▸ F.cell x c hc) hQ)
    · exact W.of_any (wpAny_loadName_free hk (by show env.scope.names.lookup x = _; rw [F.scope]; exact hl) hc (hv ▸ F.cell x c hc) hQ hcd)

/-- the store of a name, told of the heap alone -/
theorem FrV.storeRaw (F : FrV cx sc tab env P O vm s ρ) {i : Nat} {x : Str} {v : Value} {Q : Unit → Shared → Prop} (ht : tab[i]? = some (some x))
    (hnf : sc.names.lookup x = some .free → False)
    (hQ : ∀ s' : Shared, s'.gens = s.gens → s'.os = s.os → s'.heap.objs.size = s.heap.objs.size → (∀ a o, a ≠ env.locals → (∀ y, env.cells.lookup y ≠ some a) → s.heap.get? a = some o → s'.heap.get? a = some o) →
      (∃ m, s'.heap.Ns env.locals m ∧ ∀ y, sc.names.lookup y = some .local → m y = upd vm x v y) → (∀ y c, env.cells.lookup y = some c → s'.heap.IsCell c (upd vm x v y)) → Q () s') : W prog w A (storeName env x v) Q s := by
  have hk : env.scope.kind = .function := by rw [F.scope]; exact F.kind
  obtain ⟨m, hn, hm⟩ := F.ns
  rcases F.known i x ht with hl | ⟨hl, hc⟩
  · refine W.of_any (wpAny_storeName_local (by show env.scope.names.lookup x = _; rw [F.scope]; exact hl) hn (fun h' hn' hs' => hQ _ rfl rfl hs'.1 (fun a o ha _ e => hs'.extBut a o ha e) ⟨_, hn', fun y hy => ?_⟩ fun y c hc => ?_) (by rw [hk]; rfl))
    · unfold upd
      split
      · rfl
      · exact hm y hy
    · have hne : y ≠ x := fun e => by
        subst e
        exact F.cellNL y c hc hl
      have : upd vm x v y = vm y := by unfold upd; rw [if_neg hne]
      rw [this]
      exact (F.cell y c hc).sameBut hs' fun e => F.nsCell y (e ▸ hc)
  · obtain ⟨c, hc⟩ := Option.isSome_iff_exists.mp hc
    rcases hl with hl | hl
    · refine W.of_any (wpAny_storeName_cell hk (by show env.scope.names.lookup x = _; rw [F.scope]; exact hl) hc (F.cell x c hc) fun h' hc' hs' => hQ _ rfl rfl hs'.1 (fun a o _ ha e => hs'.extBut a o (fun e' => ha x (e' ▸ hc)) e) ⟨m, hn.sameBut hs' fun e => F.nsCell x (e ▸ hc), fun y hy => ?_⟩ fun y c' hy => ?_)
      · have hne : y ≠ x := fun e => by subst e; rw [hl] at hy; cases hy
        rw [hm y hy]; unfold upd; rw [if_neg hne]
      · by_cases hyx : y = x
        · subst hyx
          rw [hc] at hy; cases hy
          unfold upd; rw [if_pos rfl]; exact hc'
        · unfold upd; rw [if_neg hyx]
          exact (F.cell y c' hy).sameBut hs' fun e => hyx (name_of_addr F.apart (mem_of_lookup hy) (e ▸ mem_of_lookup hc))
    · exact (hnf hl).elim

theorem FrV.low (F : FrV cx sc tab env P O vm s ρ) {a : Addr} (h : a < cx.h₁.objs.size) : a ≠ env.locals ∧ (∀ y, env.cells.lookup y ≠ some a) ∧ ∀ j, O j ≠ some a :=
  ⟨fun e => Nat.lt_irrefl _ (Nat.lt_of_lt_of_le h (F.fresh a (.inr (.inl e))).1), fun y e => Nat.lt_irrefl _ (Nat.lt_of_lt_of_le h (F.fresh a (.inr (.inr ⟨y, e⟩))).1),
    fun j e => Nat.lt_irrefl _ (Nat.lt_of_lt_of_le h (F.fresh a (.inl ⟨j, e⟩)).1)⟩

theorem FrV.put (F : FrV cx sc tab env P O vm s ρ) {i : Nat} {x : Str} {v : Value} {s' : Shared} {O' : Nat → Option Addr} {sl' : Slot} (ht : tab[i]? = some (some x))
    (hsz : s'.heap.objs.size = s.heap.objs.size) (hk : ∀ a o, a ≠ env.locals → (∀ y, env.cells.lookup y ≠ some a) → s.heap.get? a = some o → s'.heap.get? a = some o)
    (hns : ∃ m, s'.heap.Ns env.locals m ∧ ∀ y, sc.names.lookup y = some .local → m y = upd vm x v y) (hcell : ∀ y c, env.cells.lookup y = some c → s'.heap.IsCell c (upd vm x v y))
    (hO : ∀ j, j ≠ i → O' j = O j)
    (hOi : ∀ a, O' i = some a → (cx.h₁.objs.size ≤ a ∧ a < s.heap.objs.size) ∧ (a ≠ env.locals ∧ ∀ y, env.cells.lookup y ≠ some a) ∧ (∀ j, j ≠ i → O j ≠ some a) ∧ ¬ P a ∧ ∃ xs, sl' = .own xs)
    (hoth : ∀ (j : Nat) (y : Str) (sl : Slot), j ≠ i → tab[j]? = some (some y) → ρ[j]? = some sl → SlotOk cx s'.heap (Av env P O') O' j (vm y) sl)
    (hme : SlotOk cx s'.heap (Av env P O') O' i (some v) sl') : FrV cx sc tab env P O' (upd vm x v) s' (ρ.set i sl') where
  scope := F.scope
  kind := F.kind
  glob := F.glob
  blt := F.blt
  base := fun a o e => hk a o (F.low (Heap.lt_size e)).1 (F.low (Heap.lt_size e)).2.1 (F.base a o e)
  ns := hns
  cell := hcell
  apart := F.apart
  fresh := fun a m => by
    rw [hsz]
    rcases m with ⟨j, hj⟩ | m
    · by_cases hji : j = i
      · subst hji; exact (hOi a hj).1
      · exact F.fresh a (.inl ⟨j, (hO j hji) ▸ hj⟩)
    · exact F.fresh a (.inr m)
  nsCell := F.nsCell
  av := fun a h => by rw [hsz]; exact F.av a h
  len := by rw [List.length_set]; exact F.len
  tabInj := F.tabInj
  cellNL := F.cellNL
  known := F.known
  slots := fun j y sl h1 h2 => by
    by_cases hji : j = i
    · subst hji
      rw [ht] at h1; cases h1
      rw [List.getElem?_set_self'] at h2
      cases hr : ρ[j]? with
      | none => rw [hr] at h2; cases h2
      | some z =>
        rw [hr] at h2
        cases h2
        have : upd vm x v x = some v := by unfold upd; rw [if_pos rfl]
        rw [this]; exact hme
    · rw [List.getElem?_set_ne (Ne.symm hji)] at h2
      have hyx : y ≠ x := fun e => hji (F.tabInj j i x (e ▸ h1) ht)
      have : upd vm x v y = vm y := by unfold upd; rw [if_neg hyx]
      rw [this]
      exact hoth j y sl hji h1 h2
  ownInj := fun j k a h1 h2 => by
    by_cases hj : j = i <;> by_cases hk' : k = i
    · rw [hj, hk']
    · subst hj; exact absurd (hO k hk' ▸ h2) ((hOi a h1).2.2.1 k hk')
    · subst hk'; exact absurd (hO j hj ▸ h1) ((hOi a h2).2.2.1 j hj)
    · exact F.ownInj j k a (hO j hj ▸ h1) (hO k hk' ▸ h2)
  ownSlot := fun j a h1 => by
    by_cases hj : j = i
    · subst hj
      obtain ⟨_, _, _, _, xs, rfl⟩ := hOi a h1
      refine ⟨x, xs, ht, ?_⟩
      have hlt : j < ρ.length := by
        rw [F.len]
        rcases Nat.lt_or_ge j tab.length with h | h
        · exact h
        · rw [List.getElem?_eq_none h] at ht; cases ht
      rw [List.getElem?_set_self hlt]
    · obtain ⟨y, xs, e1, e2⟩ := F.ownSlot j a (hO j hj ▸ h1)
      exact ⟨y, xs, e1, by rw [List.getElem?_set_ne (Ne.symm hj)]; exact e2⟩
  ownApart := fun j a h1 => by
    by_cases hj : j = i
    · subst hj; exact (hOi a h1).2.1
    · exact F.ownApart j a (hO j hj ▸ h1)
  ownNP := fun j a h1 => by
    by_cases hj : j = i
    · subst hj; exact (hOi a h1).2.2.2.1
    · exact F.ownNP j a (hO j hj ▸ h1)

theorem slot_tr {h h' : Heap} {V V' : Avd} {O O' : Nat → Option Addr} {j : Nat} {v? : Option Value} {sl : Slot} (x : SlotOk cx h V O j v? sl)
    (hk : ∀ a o, ¬ V a → h.get? a = some o → h'.get? a = some o) (ha : ∀ a, V' a → V a ∨ h.get? a = none) (hO : O' j = O j) (hown : ∀ a o, O j = some a → h.get? a = some o → h'.get? a = some o) : SlotOk cx h' V' O' j v? sl := by
  cases sl with
  | unb => trivial
  | val d => obtain ⟨v, e, r⟩ := x; exact ⟨v, e, r.mono hk ha⟩
  | own xs => obtain ⟨a, vs, n, e1, e2, e3, e4, r⟩ := x; exact ⟨a, vs, n, hO.trans e1, e2, hown a _ e1 e3, e4, r.mono hk ha⟩

/-- a name is bound to a datum -/
theorem FrV.store (F : FrV cx sc tab env P O vm s ρ) {i : Nat} {x : Str} {v : Value} {d : D} {Q : Unit → Shared → Prop} (ht : tab[i]? = some (some x)) (hnf : sc.names.lookup x = some .free → False)
    (r : Rd cx s.heap (Av env P O) d v)
    (hQ : ∀ s', FrV cx sc tab env P (off O i) (upd vm x v) s' (ρ.set i (.val d)) → Tr env O s (off O i) s' → Q () s') : W prog w A (storeName env x v) Q s := by
  refine F.storeRaw ht hnf fun s' hg ho hsz hk hns hcell => ?_
  have hA : ∀ a, Av env P (off O i) a → Av env P O a := fun a h => h.imp id fun m => m.imp (fun ⟨j, hj⟩ => ⟨j, (off_some hj).2⟩) id
  have hk' : ∀ a o, ¬ Av env P O a → s.heap.get? a = some o → s'.heap.get? a = some o := fun a o hn e => hk a o (fun e' => hn (.inr (.inr (.inl e')))) (fun y e' => hn (.inr (.inr (.inr ⟨y, e'⟩)))) e
  refine hQ s' (F.put ht hsz hk hns hcell (fun j hj => by unfold off; rw [if_neg hj]) (fun a h => absurd rfl (off_some h).1) (fun j y sl hj h1 h2 => ?_) ⟨v, rfl, r.mono hk' fun a h => .inl (hA a h)⟩) ?_
  · exact slot_tr (F.slots j y sl h1 h2) hk' (fun a h => .inl (hA a h)) (by unfold off; rw [if_neg hj]) fun a o e e' => hk a o (F.ownApart j a e).1 (F.ownApart j a e).2 e'
  · exact ⟨hg, ho, Nat.le_of_eq hsz.symm, fun a o hn e => hk a o (fun e' => hn (.inr (.inl e'))) (fun y e' => hn (.inr (.inr ⟨y, e'⟩))) e, fun j a h => .inl ⟨j, (off_some h).2⟩⟩

/-- a name is bound to a new list, which the frame will own -/
theorem FrV.storeOwn {s₀ : Shared} (F₀ : FrV cx sc tab env P O vm s₀ ρ) (X : Ext s₀ s) {i : Nat} {x : Str} {a : Addr} {vs : Array Value} {n : Nat} {xs : List D} {Q : Unit → Shared → Prop} (ht : tab[i]? = some (some x)) (hnf : sc.names.lookup x = some .free → False)
    (hnew : s₀.heap.objs.size ≤ a) (hobj : s.heap.get? a = some { cls := .type "list", data := .seq vs n }) (hz : vs.size ≤ sizeLine) (r : RdAll cx s.heap (fun b => Av env P O b ∨ b = a) xs vs.toList)
    (hQ : ∀ s', FrV cx sc tab env P (onO O i a) (upd vm x (.ref a)) s' (ρ.set i (.own xs)) → Tr env O s₀ (onO O i a) s' → Q () s') : W prog w A (storeName env x (.ref a)) Q s := by
  have F := F₀.ext X
  refine F.storeRaw ht hnf fun s' hg ho hsz hk hns hcell => ?_
  have hlt := Heap.lt_size hobj
  have hnl : a ≠ env.locals := fun e => F₀.new hnew (.inr (.inr (.inl e)))
  have hnc : ∀ y, env.cells.lookup y ≠ some a := fun y e => F₀.new hnew (.inr (.inr (.inr ⟨y, e⟩)))
  have hno : ∀ j, O j ≠ some a := fun j e => F₀.new hnew (.inr (.inl ⟨j, e⟩))
  have hA : ∀ b, Av env P (onO O i a) b → Av env P O b ∨ b = a := fun b h => by
    rcases h with h | ⟨j, hj⟩ | h
    · exact .inl (.inl h)
    · rcases onO_some hj with ⟨_, e⟩ | ⟨_, e⟩
      · exact .inr e
      · exact .inl (.inr (.inl ⟨j, e⟩))
    · exact .inl (.inr (.inr h))
  have hk' : ∀ b o, ¬ Av env P O b → s.heap.get? b = some o → s'.heap.get? b = some o := fun b o hn e => hk b o (fun e' => hn (.inr (.inr (.inl e')))) (fun y e' => hn (.inr (.inr (.inr ⟨y, e'⟩)))) e
  refine hQ s' (F.put ht hsz hk hns hcell (fun j hj => by unfold onO; rw [if_neg hj]) (fun b h => ?_) (fun j y sl hj h1 h2 => ?_) ⟨a, vs, n, by unfold onO; rw [if_pos rfl], rfl, hk a _ hnl hnc hobj, hz, r.mono (fun b o hn e => hk' b o (fun m => hn (.inl m)) e) fun b h => .inl (hA b h)⟩) ?_
  · rcases onO_some h with ⟨_, rfl⟩ | ⟨h', _⟩
    · exact ⟨⟨Nat.le_trans (Nat.le_of_lt_succ (Nat.lt_succ_of_le (by
        obtain ⟨m, hm, _⟩ := F₀.ns
        exact Nat.le_trans (F₀.fresh env.locals (.inr (.inl rfl))).1 (Nat.le_of_lt hm.lt)))) hnew, hlt⟩, ⟨hnl, hnc⟩, fun j _ => hno j, fun h => F₀.new hnew (.inl h), xs, rfl⟩
    · exact absurd rfl h'
  · refine slot_tr ((F₀.slots j y sl h1 h2)) (fun b o hn e => hk' b o hn (X.keep b o e)) (fun b h => (hA b h).imp id fun e => get_none (by rw [e]; exact hnew)) (by unfold onO; rw [if_neg hj]) fun b o e e' => hk b o (F.ownApart j b e).1 (F.ownApart j b e).2 (X.keep b o e')
  · exact ⟨hg.trans X.gens, ho.trans X.os, by rw [hsz]; exact X.size, fun b o hn e => hk b o (fun e' => hn (.inr (.inl e'))) (fun y e' => hn (.inr (.inr ⟨y, e'⟩))) (X.keep b o e), fun j b h => by
      rcases onO_some h with ⟨_, rfl⟩ | ⟨_, e⟩
      · exact .inr hnew
      · exact .inl ⟨j, e⟩⟩

/-- an owned list is given up: from now on it is a datum like any other -/
theorem FrV.freeze (F : FrV cx sc tab env P O vm s ρ) {i : Nat} {xs : List D} (hi : ρ[i]? = some (.own xs)) : FrV cx sc tab env P (off O i) vm s (ρ.set i (.val (.list xs))) := by
  have hA : ∀ a, Av env P (off O i) a → Av env P O a := fun a h => h.imp id fun m => m.imp (fun ⟨j, hj⟩ => ⟨j, (off_some hj).2⟩) id
  have hlt : i < ρ.length := by
    rcases Nat.lt_or_ge i ρ.length with h | h
    · exact h
    · rw [List.getElem?_eq_none h] at hi; cases hi
  exact { F with
    fresh := fun a m => F.fresh a (m.imp (fun ⟨j, hj⟩ => ⟨j, (off_some hj).2⟩) id)
    len := by rw [List.length_set]; exact F.len
    slots := fun j y sl h1 h2 => by
      by_cases hji : j = i
      · subst hji
        rw [List.getElem?_set_self hlt] at h2
        cases h2
        obtain ⟨a, vs, n, e1, e2, e3, e4, r⟩ := F.slots j y _ h1 hi
        refine ⟨.ref a, e2, ?_⟩
        rw [Rd]
        refine ⟨a, vs, n, rfl, e3, fun h => ?_, e4, r.weak hA⟩
        rcases h with h | ⟨k, hk⟩ | h
        · exact F.ownNP j a e1 h
        · exact (off_some hk).1 (F.ownInj k j a (off_some hk).2 e1)
        · rcases h with h | ⟨y', h⟩
          · exact (F.ownApart j a e1).1 h
          · exact (F.ownApart j a e1).2 y' h
      · rw [List.getElem?_set_ne (Ne.symm hji)] at h2
        exact slot_tr (F.slots j y sl h1 h2) (fun _ _ _ e => e) (fun a h => .inl (hA a h)) (by unfold off; rw [if_neg hji]) fun _ _ _ e => e
    ownInj := fun j k a h1 h2 => F.ownInj j k a (off_some h1).2 (off_some h2).2
    ownSlot := fun j a h1 => by
      obtain ⟨y, zs, e1, e2⟩ := F.ownSlot j a (off_some h1).2
      exact ⟨y, zs, e1, by rw [List.getElem?_set_ne (Ne.symm (off_some h1).1)]; exact e2⟩
    ownApart := fun j a h1 => F.ownApart j a (off_some h1).2
    ownNP := fun j a h1 => F.ownNP j a (off_some h1).2 }

/-- an owned list is changed in its place -/
theorem FrV.mutate (F : FrV cx sc tab env P O vm s ρ) {i : Nat} {x : Str} {xs ds : List D} {a : Addr} {s' : Shared} {vs : Array Value} {n : Nat} (ht : tab[i]? = some (some x)) (hi : ρ[i]? = some (.own xs)) (hO : O i = some a)
    (hg : s'.gens = s.gens) (ho : s'.os = s.os) (hs : Heap.SameBut a s.heap s'.heap) (hobj : s'.heap.get? a = some { cls := .type "list", data := .seq vs n }) (hz : vs.size ≤ sizeLine)
    (r : RdAll cx s.heap (Av env P O) ds vs.toList) : FrV cx sc tab env P O vm s' (ρ.set i (.own ds)) ∧ Tr env O s O s' := by
  have hma : muts env O a := .inl ⟨i, hO⟩
  have hk : ∀ b o, b ≠ a → s.heap.get? b = some o → s'.heap.get? b = some o := fun b o hb e => hs.extBut b o hb e
  have hk' : ∀ b o, ¬ Av env P O b → s.heap.get? b = some o → s'.heap.get? b = some o := fun b o hn e => hk b o (fun e' => hn (.inr (e' ▸ hma))) e
  have hap := F.ownApart i a hO
  have hlt : i < ρ.length := by
    rcases Nat.lt_or_ge i ρ.length with h | h
    · exact h
    · rw [List.getElem?_eq_none h] at hi; cases hi
  refine ⟨?_, ⟨hg, ho, Nat.le_of_eq hs.1.symm, fun b o hn e => hk b o (fun e' => hn (e' ▸ hma)) e, fun j b e => .inl ⟨j, e⟩⟩⟩
  exact {
    scope := F.scope, kind := F.kind, glob := F.glob, blt := F.blt
    base := fun b o e => hk b o (fun e' => (F.low (Heap.lt_size e)).2.2 i (e' ▸ hO)) (F.base b o e)
    ns := let ⟨m, h1, h2⟩ := F.ns; ⟨m, h1.sameBut hs (Ne.symm hap.1), h2⟩
    cell := fun y c e => (F.cell y c e).sameBut hs fun e' => hap.2 y (e' ▸ e)
    apart := F.apart
    fresh := fun b m => by rw [hs.1]; exact F.fresh b m
    nsCell := F.nsCell
    av := fun b h => by rw [hs.1]; exact F.av b h
    len := by rw [List.length_set]; exact F.len
    tabInj := F.tabInj, cellNL := F.cellNL, known := F.known
    slots := fun j y sl h1 h2 => by
      by_cases hji : j = i
      · subst hji
        rw [List.getElem?_set_self hlt] at h2
        cases h2
        obtain ⟨a', vs', n', e1, e2, e3, e4, _⟩ := F.slots j y _ h1 hi
        rw [hO] at e1; cases e1
        exact ⟨a, vs, n, hO, e2, hobj, hz, r.mono hk' fun _ h => .inl h⟩
      · rw [List.getElem?_set_ne (Ne.symm hji)] at h2
        exact slot_tr (F.slots j y sl h1 h2) hk' (fun _ h => .inl h) rfl fun b o e e' => hk b o (fun e'' => hji (F.ownInj j i a (e'' ▸ e) hO)) e'
    ownInj := F.ownInj
    ownSlot := fun j b h1 => by
      by_cases hji : j = i
      · subst hji
        exact ⟨x, ds, ht, by rw [List.getElem?_set_self hlt]⟩
      · obtain ⟨y, zs, e1, e2⟩ := F.ownSlot j b h1
        exact ⟨y, zs, e1, by rw [List.getElem?_set_ne (Ne.symm hji)]; exact e2⟩
    ownApart := F.ownApart
    ownNP := F.ownNP }

theorem FrV.glob_ (F : FrV cx sc tab env P O vm s ρ) {x : Str} {v : Value} {Q : Value → Shared → Prop} (hl : sc.names.lookup x = some .globalImplicit) (hv : (cx.mg x).or (cx.mb x) = some v) (hQ : Q v s) : W prog w A (loadName env x) Q s := by
  have hg : s.heap.Ns mainGlobals cx.mg := cx.hg.keeps F.base
  have hb : s.heap.Ns builtinsNs cx.mb := cx.hb.keeps F.base
  refine W.of_any ?_
  unfold loadName
  have hk : env.scope.kind = .function := by rw [F.scope]; exact F.kind
  have hkx : env.kindOf x = some .globalImplicit := by show env.scope.names.lookup x = _; rw [F.scope]; exact hl
  simp only [Env.blockKind, hk, hkx, ScopeKind.isAnnotationScope, Bool.false_and, Bool.false_eq_true, if_false]
  unfold loadGlobal
  rw [F.glob, F.blt]
  refine wpAny_bind (wpAny_nsGet hg ?_)
  cases hm : cx.mg x with
  | some v' =>
    rw [hm] at hv
    cases hv
    exact wpAny_pure hQ
  | none =>
    rw [hm] at hv
    refine wpAny_bind (wpAny_nsGet hb ?_)
    have hv' : cx.mb x = some v := hv
    rw [hv']
    exact wpAny_pure hQ
end
end Mine

end
section
open PySem PySem.W PySem.Calls PyProof.Rows
set_option Elab.async false
set_option maxRecDepth 100000
namespace Mine

noncomputable def Room (A : Around) (k : Nat) : Prop := A.handled = none ∧ A.depth + k < recursionLimit ∧ A.units + 8 * k + 200 < cLine
theorem Room.units {A : Around} {k : Nat} (h : Room A k) : A.units + 100 < cLine := by have := h.2.2; omega

structure Jd where
  cx : Cx
  sc : Scope
  tab : List (Option Str)
  k : Nat

noncomputable abbrev Rho := List Slot

/-- the expression's value is f of the frame's names -/
noncomputable def SE (J : Jd) (e : PySem.Expr) (f : Rho → Option D) : Prop :=
  ∀ (A : Around) (env : Env) (P : Avd) (O : Nat → Option Addr) (vm : Str → Option Value) (s : Shared) (ρ : Rho) (d : D), Room A J.k → FrV J.cx J.sc J.tab env P O vm s ρ → f ρ = some d →
    W J.cx.prog J.cx.w A (eval e env) (fun v s' => Ext s s' ∧ Rd J.cx s'.heap (Av env P O) d v) s
/-- the expression as a test -/
noncomputable def ST (J : Jd) (e : PySem.Expr) (f : Rho → Option Bool) : Prop :=
  ∀ (A : Around) (env : Env) (P : Avd) (O : Nat → Option Addr) (vm : Str → Option Value) (s : Shared) (ρ : Rho) (b : Bool), Room A J.k → FrV J.cx J.sc J.tab env P O vm s ρ → f ρ = some b →
    W J.cx.prog J.cx.w A (isTrue e env (eval e env)) (fun v s' => Ext s s' ∧ v = b) s

/-! equality -/
mutual
noncomputable def toPy : D → PyData
  | .none => .none
  | .bool b => .bool b
  | .int i => .int i
  | .str l => .str ⟨l.toArray⟩
  | .list ds => .list (toPys ds)
  | .tup ds => .tuple (toPys ds)
  | .mat .. => .none
  | .inst _ => .none
noncomputable def toPys : List D → List PyData
  | [] => []
  | d :: ds => toPy d :: toPys ds
end
mutual
noncomputable def pureD : D → Bool
  | .list ds => pureDs ds
  | .tup ds => pureDs ds
  | .mat .. => false
  | .inst _ => false
  | _ => true
noncomputable def pureDs : List D → Bool
  | [] => true
  | d :: ds => pureD d && pureDs ds
end
section
variable {cx : Cx} {h : Heap} {V : Avd}
mutual
theorem Rd.reads : ∀ {d : D} {v : Value}, Rd cx h V d v → pureD d = true → ∃ as, Reads h v (toPy d) as
  | .none, _, r, _ => by rw [Rd] at r; subst r; exact ⟨_, .none⟩
  | .bool _, _, r, _ => by rw [Rd] at r; subst r; exact ⟨_, .bool _⟩
  | .int _, _, r, _ => by rw [Rd] at r; obtain ⟨t, rfl⟩ := r; exact ⟨_, .int _ _⟩
  | .str _, _, r, _ => by rw [Rd] at r; obtain ⟨t, rfl, _⟩ := r; exact ⟨_, .str _ _⟩
  | .list ds, _, r, hp => by
    rw [Rd] at r; obtain ⟨a, vs, n, rfl, ho, _, _, r⟩ := r
    rw [pureD] at hp
    obtain ⟨as, q⟩ := RdAll.reads r hp
    rw [toPy]; exact ⟨_, .list ho rfl rfl q⟩
  | .tup ds, _, r, hp => by
    rw [Rd] at r; obtain ⟨a, vs, n, rfl, ho, _, _, r⟩ := r
    rw [pureD] at hp
    obtain ⟨as, q⟩ := RdAll.reads r hp
    rw [toPy]; exact ⟨_, .tuple ho rfl rfl q⟩
  | .mat .., _, _, hp => by rw [pureD] at hp; cases hp
  | .inst _, _, _, hp => by rw [pureD] at hp; cases hp
theorem RdAll.reads : ∀ {ds : List D} {vs : List Value}, RdAll cx h V ds vs → pureDs ds = true → ∃ as, ReadsAll h vs (toPys ds) as
  | [], _, r, _ => by rw [RdAll] at r; subst r; exact ⟨_, .nil⟩
  | d :: ds, _, r, hp => by
    rw [RdAll] at r; obtain ⟨v, l, rfl, r1, r2⟩ := r
    rw [pureDs, Bool.and_eq_true] at hp
    obtain ⟨as, q1⟩ := Rd.reads r1 hp.1
    obtain ⟨bs, q2⟩ := RdAll.reads r2 hp.2
    rw [toPys]; exact ⟨_, .cons q1 q2⟩
end
mutual
theorem Rd.lay : ∀ {d : D} {v : Value}, Rd cx h V d v → pureD d = true → (toPy d).canLay0 = true
  | .none, _, _, _ => by simp [toPy, PyData.canLay0]
  | .bool _, _, _, _ => by simp [toPy, PyData.canLay0]
  | .int _, _, _, _ => by simp [toPy, PyData.canLay0]
  | .str l, _, r, _ => by
    rw [Rd] at r; obtain ⟨t, rfl, h1, _⟩ := r
    simp only [toPy, PyData.canLay0, PyData.strOk]
    rw [Array.all_eq_true']
    intro c hc
    exact decide_eq_true (h1 c (by simpa using hc))
  | .list ds, _, r, hp => by
    rw [Rd] at r; obtain ⟨a, vs, n, rfl, ho, _, _, r⟩ := r
    rw [pureD] at hp
    simp only [toPy, PyData.canLay0]; exact RdAll.lay r hp
  | .tup ds, _, r, hp => by
    rw [Rd] at r; obtain ⟨a, vs, n, rfl, ho, _, _, r⟩ := r
    rw [pureD] at hp
    simp only [toPy, PyData.canLay0]; exact RdAll.lay r hp
  | .mat .., _, _, hp => by rw [pureD] at hp; cases hp
  | .inst _, _, _, hp => by rw [pureD] at hp; cases hp
theorem RdAll.lay : ∀ {ds : List D} {vs : List Value}, RdAll cx h V ds vs → pureDs ds = true → PyData.canLayAll0 (toPys ds) = true
  | [], _, _, _ => by simp [toPys, PyData.canLayAll0]
  | d :: ds, _, r, hp => by
    rw [RdAll] at r; obtain ⟨v, l, rfl, r1, r2⟩ := r
    rw [pureDs, Bool.and_eq_true] at hp
    simp only [toPys, PyData.canLayAll0, Rd.lay r1 hp.1, RdAll.lay r2 hp.2, Bool.and_self]
end
end

noncomputable def flatD (d : D) : Bool := pureD d && decide ((toPy d).depth ≤ 60)
noncomputable def deq (a b : D) : Bool := PyData.eqv (toPy a) (toPy b)

/-- a comparison of two data -/
noncomputable def opEq (a b : D) : Option Bool := if flatD a && flatD b then some (deq a b) else none
noncomputable def opNe (a b : D) : Option Bool := (opEq a b).map not
noncomputable def opLt : D → D → Option Bool | .int a, .int b => some (decide (a < b)) | _, _ => none
noncomputable def isNone : D → Option Bool | .none => some true | .str _ => some false | .int _ => some false | _ => none
noncomputable def opIs (a b : D) : Option Bool := match b with | .none => isNone a | _ => none
/-- the comparison op gives F -/
noncomputable def CmpOk (op : CmpOp) (F : D → D → Option Bool) : Prop :=
  ∀ (cx : Cx) (A : Around) (V : Avd) (s : Shared) (a b : D) (x y : Value) (r : Bool), A.units + 100 < cLine → Rd cx s.heap V a x → Rd cx s.heap V b y → F a b = some r →
    W cx.prog cx.w A (compareOp op x y) (fun v s' => Ext s s' ∧ v = .bool r) s

theorem shaped_of {cx : Cx} {h : Heap} {V : Avd} {d : D} {v : Value} (r : Rd cx h V d v) (hf : flatD d = true) : SeqAt.shaped (toPy d) = true := by
  unfold flatD at hf
  rw [Bool.and_eq_true] at hf
  unfold SeqAt.shaped
  rw [Rd.lay r hf.1, Bool.true_and]
  exact decide_eq_true (Nat.le_trans (of_decide_eq_true hf.2) (by decide))

theorem cmp_eq : CmpOk .Eq opEq := fun cx A V s a b x y r hu ra rb h => by
  unfold opEq at h
  split at h
  · rename_i hf
    rw [Bool.and_eq_true] at hf
    cases h
    obtain ⟨as, qa⟩ := ra.reads (Bool.and_eq_true _ _ ▸ hf.1 : pureD a = true ∧ _).1
    obtain ⟨bs, qb⟩ := rb.reads (Bool.and_eq_true _ _ ▸ hf.2 : pureD b = true ∧ _).1
    exact W.of_any (eq_dataH qa qb (shaped_of ra hf.1) (shaped_of rb hf.2) (by omega) ⟨Ext.refl _, rfl⟩)
  · cases h
theorem cmp_ne : CmpOk .NotEq opNe := fun cx A V s a b x y r hu ra rb h => by
  unfold opNe opEq at h
  split at h
  · rename_i hf
    rw [Bool.and_eq_true] at hf
    cases h
    obtain ⟨as, qa⟩ := ra.reads (Bool.and_eq_true _ _ ▸ hf.1 : pureD a = true ∧ _).1
    obtain ⟨bs, qb⟩ := rb.reads (Bool.and_eq_true _ _ ▸ hf.2 : pureD b = true ∧ _).1
    exact W.of_any (ne_dataH qa qb (shaped_of ra hf.1) (shaped_of rb hf.2) (by omega) ⟨Ext.refl _, rfl⟩)
  · cases h
theorem cmp_lt : CmpOk .Lt opLt := fun cx A V s a b x y r hu ra rb h => by
  unfold opLt at h
  split at h
  · cases h; rw [Rd] at ra rb; obtain ⟨t, rfl⟩ := ra; obtain ⟨u, rfl⟩ := rb
    exact W.of_any (lt_int ⟨Ext.refl _, rfl⟩)
  · cases h
theorem cmp_is : CmpOk .Is opIs := fun cx A V s a b x y r hu ra rb h => by
  unfold opIs at h
  split at h
  · rw [Rd] at rb; subst rb
    unfold isNone at h
    split at h
    · cases h; rw [Rd] at ra; subst ra; exact W.of_any (wpAny_is_self rfl ⟨Ext.refl _, rfl⟩)
    · cases h; rw [Rd] at ra; obtain ⟨t, rfl, _⟩ := ra; exact W.of_any (wpAny_is_other rfl (by intro x; cases x) ⟨Ext.refl _, rfl⟩)
    · cases h; rw [Rd] at ra; obtain ⟨t, rfl⟩ := ra; exact W.of_any (wpAny_is_other rfl (by intro x; cases x) ⟨Ext.refl _, rfl⟩)
    · cases h
  · cases h
end Mine

end
section
open PySem PySem.W PySem.Calls PyProof.Rows
set_option Elab.async false
set_option maxRecDepth 100000
namespace Mine

/-! in, not in -/
noncomputable def opIn : D → D → Option Bool
  | .str [c], .str l => some (decide (c ∈ l))
  | d, .list xs => if flatD d && pureDs xs then some (xs.any fun y => deq y d) else none
  | _, _ => none
theorem any_toPys (d : D) : ∀ xs : List D, (toPys xs).any (fun y => PyData.eqv y (toPy d)) = xs.any fun y => deq y d
  | [] => rfl
  | x :: xs => by rw [toPys, List.any_cons, List.any_cons, any_toPys d xs]; rfl

theorem opIn_cases {a b : D} {r : Bool} (h : opIn a b = some r) :
    (∃ c l, a = .str [c] ∧ b = .str l ∧ r = decide (c ∈ l)) ∨ (∃ xs, b = .list xs ∧ flatD a = true ∧ pureDs xs = true ∧ r = xs.any fun y => deq y a) := by
  unfold opIn at h
  split at h
  · cases h; exact .inl ⟨_, _, rfl, rfl, rfl⟩
  · split at h
    · rename_i hf
      rw [Bool.and_eq_true] at hf
      cases h; exact .inr ⟨_, rfl, hf.1, hf.2, rfl⟩
    · cases h
  · cases h

theorem cmp_in : CmpOk .In opIn := fun cx A V s a b x y r hu ra rb h => by
  rcases opIn_cases h with ⟨c, l, rfl, rfl, rfl⟩ | ⟨xs, rfl, hf, hp, rfl⟩
  · rw [Rd] at ra rb
    obtain ⟨t, rfl, _⟩ := ra
    obtain ⟨u, rfl, _⟩ := rb
    refine W.of_any (in_str ⟨Ext.refl _, ?_⟩)
    rw [show (⟨[c].toArray⟩ : Str) = ⟨#[c]⟩ from rfl, StrLaws.found_one]
  · obtain ⟨as, qa⟩ := ra.reads (Bool.and_eq_true _ _ ▸ hf : pureD a = true ∧ _).1
    have hp' : pureD (.list xs) = true := by rw [pureD]; exact hp
    obtain ⟨bs, qb⟩ := rb.reads hp'
    have hl := rb.lay hp'
    rw [toPy] at qb hl
    have hd : (toPy a).depth ≤ 60 := of_decide_eq_true (Bool.and_eq_true _ _ ▸ hf : _ ∧ decide _ = true).2
    refine W.of_any (SeqAt.in_list_reads qb qa (by simpa [PyData.canLay0] using hl) (ra.lay (Bool.and_eq_true _ _ ▸ hf : pureD a = true ∧ _).1) (by have := Nat.min_le_right (PyData.depthAll (toPys xs)) (toPy a).depth; omega) ⟨Ext.refl _, ?_⟩)
    rw [any_toPys]
/-! two-place operations -/
noncomputable def opAdd : D → D → Option D
  | .int a, .int b => some (.int (a + b))
  | .str a, .str b => if a.length + b.length ≤ sizeLine then some (.str (a ++ b)) else none
  | .list a, .list b => if a.length + b.length ≤ sizeLine then some (.list (a ++ b)) else none
  | _, _ => none
noncomputable def opDiv : D → D → Option D
  | .int a, .int b => if b = 0 ∨ 1073741824 ≤ b.natAbs then none else some (.int (a.fdiv b))
  | _, _ => none
noncomputable def opMod : D → D → Option D
  | .int a, .int b => if b = 0 then none else some (.int (a.fmod b))
  | _, _ => none

noncomputable def BinOk (op : Operator) (F : D → D → Option D) : Prop :=
  ∀ (cx : Cx) (A : Around) (V : Avd) (s : Shared) (a b : D) (x y : Value) (r : D), A.units + 100 < cLine → (∀ p, V p → p < s.heap.objs.size) → Rd cx s.heap V a x → Rd cx s.heap V b y → F a b = some r →
    W cx.prog cx.w A (binaryOp op x y) (fun v s' => Ext s s' ∧ Rd cx s'.heap V r v) s

theorem str_append (a b : List Nat) : (⟨a.toArray⟩ : Str) ++ ⟨b.toArray⟩ = ⟨(a ++ b).toArray⟩ := by
  show Str.append _ _ = _
  simp [Str.append]
theorem rd_str {cx : Cx} {h : Heap} {V : Avd} {l : List Nat} {t : Tok} (h1 : ∀ c ∈ l, c < 0x110000) (h2 : l.length ≤ sizeLine) : Rd cx h V (.str l) (.str ⟨l.toArray⟩ t) := by rw [Rd]; exact ⟨t, rfl, h1, h2⟩
theorem str_len (l : List Nat) : (⟨l.toArray⟩ : Str).length = l.length := by simp [Str.length]

theorem bin_add : BinOk .Add opAdd := fun cx A V s a b x y r hu hV ra rb h => by
  unfold opAdd at h
  split at h
  · cases h; rw [Rd] at ra rb; obtain ⟨t, rfl⟩ := ra; obtain ⟨u, rfl⟩ := rb
    exact W.of_any (add_int ⟨Ext.toks _, by rw [Rd]; exact ⟨_, rfl⟩⟩)
  · split at h
    · rename_i hz
      cases h; rw [Rd] at ra rb; obtain ⟨t, rfl, h1, _⟩ := ra; obtain ⟨u, rfl, h2, _⟩ := rb
      refine W.of_any (add_str (fun t' tk => ⟨Ext.toks _, ?_⟩) (by rw [str_len, str_len]; exact hz))
      rw [str_append]
      exact rd_str (fun c hc => (List.mem_append.mp hc).elim (h1 c) (h2 c)) (by rw [List.length_append]; exact hz)
    · cases h
  · split at h
    · rename_i hz
      cases h; rw [Rd] at ra rb
      obtain ⟨p, vs, n, rfl, h1, _, _, r1⟩ := ra
      obtain ⟨q, us, m, rfl, h2, _, _, r2⟩ := rb
      have l1 := r1.length
      have l2 := r2.length
      have hz' : vs.size + us.size ≤ sizeLine := by
        rw [← Array.length_toList, ← Array.length_toList, l1, l2]; exact hz
      refine W.of_any (P.add_list h1 h2 ⟨Ext.push _ _, ?_⟩ hz')
      rw [Rd]
      refine ⟨_, vs ++ us, 0, rfl, Heap.get?_push_size _ rfl, fun hp => Nat.lt_irrefl _ (hV _ hp), by rw [Array.size_append]; exact hz', ?_⟩
      rw [Array.toList_append]
      exact (r1.append r2).keep fun _ _ e => Heap.get?_push_of_some _ e
    · cases h
  · cases h
theorem bin_mod : BinOk .Mod opMod := fun cx A V s a b x y r hu hV ra rb h => by
  unfold opMod at h
  split at h
  · split at h
    · cases h
    · rename_i hb
      cases h; rw [Rd] at ra rb; obtain ⟨t, rfl⟩ := ra; obtain ⟨u, rfl⟩ := rb
      exact W.of_any (mod_int' hb ⟨Ext.toks _, by rw [Rd]; exact ⟨_, rfl⟩⟩)
  · cases h
theorem bin_div : BinOk .FloorDiv opDiv := fun cx A V s a b x y r hu hV ra rb h => by
  unfold opDiv at h
  split at h
  · split at h
    · cases h
    · rename_i hb
      cases h; rw [Rd] at ra rb; obtain ⟨t, rfl⟩ := ra; obtain ⟨u, rfl⟩ := rb
      exact W.of_any (floordiv_int (fun e => hb (.inl e)) ⟨Ext.toks _, by rw [Rd]; exact ⟨_, rfl⟩⟩ (.inl (PyProof.noPylong_small (by omega))))
  · cases h

/-! expressions -/
noncomputable def cE (d : D) : Rho → Option D := fun _ => some d
noncomputable def vE (i : Nat) : Rho → Option D := fun ρ => match ρ[i]? with | some (.val d) => some d | _ => none
noncomputable def binE (F : D → D → Option D) (f g : Rho → Option D) : Rho → Option D := fun ρ => (f ρ).bind fun a => (g ρ).bind fun b => F a b
noncomputable def cmpB (F : D → D → Option Bool) (f g : Rho → Option D) : Rho → Option Bool := fun ρ => (f ρ).bind fun a => (g ρ).bind fun b => F a b
noncomputable def andB (f g : Rho → Option Bool) : Rho → Option Bool := fun ρ => (f ρ).bind fun a => if a then g ρ else some false
noncomputable def orB (f g : Rho → Option Bool) : Rho → Option Bool := fun ρ => (f ρ).bind fun a => if a then some true else g ρ
noncomputable def ifE {α : Type} (t : Rho → Option Bool) (f g : Rho → Option α) : Rho → Option α := fun ρ => (t ρ).bind fun b => if b then f ρ else g ρ
noncomputable def truth : D → Option Bool
  | .none => some false
  | .bool b => some b
  | .int i => some (i != 0)
  | .str l => some (!l.isEmpty)
  | .list xs => some (!xs.isEmpty)
  | _ => none
noncomputable def truB (f : Rho → Option D) : Rho → Option Bool := fun ρ => (f ρ).bind truth

section
variable {J : Jd}

theorem se_none {k pos} : SE J (.Constant .none k pos) (cE .none) := fun A env P O vm s ρ d hA F h => by
  cases h; exact W.pureQ ⟨Ext.refl _, by rw [Rd]⟩
theorem se_bool {b k pos} : SE J (.Constant (.bool b) k pos) (cE (.bool b)) := fun A env P O vm s ρ d hA F h => by
  cases h; exact W.pureQ ⟨Ext.refl _, by rw [Rd]⟩
theorem se_int {i k pos} : SE J (.Constant (.int i) k pos) (cE (.int i)) := fun A env P O vm s ρ d hA F h => by
  cases h; exact W.of_any (wpAny_mkInt ⟨Ext.toks _, by rw [Rd]; exact ⟨_, rfl⟩⟩)
theorem se_str {x : Str} {l : List Nat} {k pos} (e : x = ⟨l.toArray⟩ := by decide) (h1 : (l.all (· < 0x110000) && decide (l.length ≤ 1000)) = true := by decide) : SE J (.Constant (.str x) k pos) (cE (.str l)) := fun A env P O vm s ρ d hA F h => by
  cases h
  subst e
  rw [Bool.and_eq_true] at h1
  refine W.of_any (wpAny_mkText ⟨Ext.toks _, rd_str (fun c hc => ?_) (Nat.le_trans (of_decide_eq_true h1.2) (by decide))⟩)
  have := List.all_eq_true.mp h1.1 c hc
  exact of_decide_eq_true this

theorem se_var {i : Nat} {x : Str} {pos : Pos} (ht : J.tab[i]? = some (some x) := by rfl) (hd : (x == ("__debug__" : Str) || x == ("__classdict__" : Str)) = false := by decide) : SE J (.Name x pos) (vE i) := fun A env P O vm s ρ d hA F h => by
  rw [Bool.or_eq_false_iff] at hd
  rw [eval_Name env x pos hd.1]
  refine W.bind (W.standAt ?_)
  unfold vE at h
  split at h
  · rename_i d' hr
    cases h
    obtain ⟨v, hv, r⟩ := F.slots i x _ ht hr
    exact F.load ht hv ⟨Ext.refl _, r⟩ hd.2
  · cases h

theorem se_bin {l r : PySem.Expr} {op : Operator} {pos : Pos} {f g : Rho → Option D} {G : D → D → Option D} (hG : BinOk op G) (hl : SE J l f) (hr : SE J r g) : SE J (.BinOp l op r pos) (binE G f g) := fun A env P O vm s ρ d hA F h => by
  unfold binE at h
  rw [Option.bind_eq_some_iff] at h
  obtain ⟨a, ha, h⟩ := h
  rw [Option.bind_eq_some_iff] at h
  obtain ⟨b, hb, h⟩ := h
  rw [eval_BinOp]
  refine W.bind (W.mono (hl A env P O vm s ρ a hA F ha) fun x s₁ ⟨X1, r1⟩ => W.bind (W.holding (W.mono (hr A env P O vm s₁ ρ b hA (F.ext X1) hb) fun y s₂ ⟨X2, r2⟩ => W.bind (W.standAt (W.operate ?_)))))
  exact W.mono (hG J.cx A (Av env P O) s₂ a b x y d hA.units (fun p hp => ((F.ext X1).ext X2).avLt hp) (r1.keep X2.keep) r2 h) fun v s₃ ⟨X3, r3⟩ => ⟨X1.trans (X2.trans X3), r3⟩

theorem st_cmp {l r : PySem.Expr} {op : CmpOp} {pos : Pos} {f g : Rho → Option D} {G : D → D → Option Bool} (hG : CmpOk op G) (hl : SE J l f) (hr : SE J r g) (hm : behindInMarks op r = false := by rfl) : ST J (.Compare l [op] [r] pos) (cmpB G f g) := fun A env P O vm s ρ t hA F h => by
  unfold cmpB at h
  rw [Option.bind_eq_some_iff] at h
  obtain ⟨a, ha, h⟩ := h
  rw [Option.bind_eq_some_iff] at h
  obtain ⟨b, hb, h⟩ := h
  rw [isTrue_Compare1, markedBehindIn_of_false hm]
  refine W.bind (W.mono (hl A env P O vm s ρ a hA F ha) fun x s₁ ⟨X1, r1⟩ => W.bind (W.holding (W.mono (hr A env P O vm s₁ ρ b hA (F.ext X1) hb) fun y s₂ ⟨X2, r2⟩ => W.bind (W.standAt (W.bind (W.operate ?_))))))
  refine W.mono (hG J.cx A (Av env P O) s₂ a b x y t hA.units (r1.keep X2.keep) r2 h) fun v s₃ ⟨X3, e⟩ => ?_
  subst e
  exact W.holding (W.of_any (wpAny_truthy_bool ⟨X1.trans (X2.trans X3), rfl⟩))
end
end Mine

end
section
open PySem PySem.W PySem.Calls PyProof.Rows
set_option Elab.async false
set_option maxRecDepth 100000
namespace Mine

theorem szl : sizeLine = 16777216 := by decide

theorem truthy_ok {cx : Cx} {A : Around} {V : Avd} {s : Shared} {d : D} {v : Value} {b : Bool} (r : Rd cx s.heap V d v) (h : truth d = some b) :
    W cx.prog cx.w A (truthy v) (fun x s' => Ext s s' ∧ x = b) s := by
  unfold truth at h
  split at h
  · cases h; rw [Rd] at r; subst r; exact W.of_any (truthy_none ⟨Ext.refl _, rfl⟩)
  · cases h; rw [Rd] at r; subst r; exact W.of_any (wpAny_truthy_bool ⟨Ext.refl _, rfl⟩)
  · cases h; rw [Rd] at r; obtain ⟨t, rfl⟩ := r; exact W.of_any (truthy_int ⟨Ext.refl _, rfl⟩)
  · rename_i l
    cases h; rw [Rd] at r; obtain ⟨t, rfl, _, hz⟩ := r
    refine W.of_any (P.truthy_str (by have := szl; rw [str_len]; omega) ⟨Ext.toks _, ?_⟩)
    rw [str_len]
    cases l with
    | nil => rfl
    | cons c l => simp; omega
  · rename_i xs
    cases h; rw [Rd] at r; obtain ⟨a, vs, n, rfl, ho, _, hz, r⟩ := r
    have hl := r.length
    refine W.of_any (wpAny_truthy_list ⟨_, ho, rfl, n, rfl⟩ (by have := szl; omega) ⟨Ext.toks _, ?_⟩)
    cases xs with
    | nil => simp at hl; simp [hl]
    | cons x xs =>
      cases hv : vs.toList with
      | nil => rw [hv] at hl; simp at hl
      | cons y ys =>
        have : vs.size ≠ 0 := by rw [← Array.length_toList, hv]; simp
        simp [Array.isEmpty, this]
  · cases h

noncomputable def plainTest : PySem.Expr → Bool
  | .UnaryOp .Not _ _ => false
  | .BoolOp .. => false
  | .IfExp .. => false
  | .Compare .. => false
  | _ => true
noncomputable def orE (f g : Rho → Option D) : Rho → Option D := fun ρ => (f ρ).bind fun a => (truth a).bind fun t => if t then some a else g ρ
noncomputable def negE (f : Rho → Option D) : Rho → Option D := fun ρ => (f ρ).bind fun a => match a with | .int i => some (.int (-i)) | _ => none

section
variable {J : Jd}

theorem st_plain {e : PySem.Expr} {f : Rho → Option D} (he : SE J e f) (hp : plainTest e = true := by rfl) : ST J e (truB f) := fun A env P O vm s ρ b hA F h => by
  unfold truB at h
  rw [Option.bind_eq_some_iff] at h
  obtain ⟨d, hd, h⟩ := h
  have hi : isTrue e env (eval e env) = (do let v ← eval e env; standAt e.pos; holding [v] (truthy v)) := by
    cases e <;> first | rfl | cases hp | skip
    case UnaryOp op x pos => cases op <;> first | rfl | cases hp
  rw [hi]
  refine W.bind (W.mono (he A env P O vm s ρ d hA F hd) fun v s₁ ⟨X1, r1⟩ => W.bind (W.standAt (W.holding ?_)))
  exact W.mono (truthy_ok r1 h) fun x s₂ ⟨X2, e⟩ => ⟨X1.trans X2, e⟩

theorem st_and {l r : PySem.Expr} {pos : Pos} {f g : Rho → Option Bool} (hl : ST J l f) (hr : ST J r g) : ST J (.BoolOp .And [l, r] pos) (andB f g) := fun A env P O vm s ρ b hA F h => by
  unfold andB at h
  rw [Option.bind_eq_some_iff] at h
  obtain ⟨a, ha, h⟩ := h
  show W _ _ A (allTrue .And [l, r] env) _ s
  unfold allTrue
  refine W.bind (W.mono (hl A env P O vm s ρ a hA F ha) fun x s₁ ⟨X1, e⟩ => ?_)
  subst e
  cases x with
  | false => simp only [Bool.false_eq_true, if_false] at h; cases h; exact W.pure ⟨X1, rfl⟩
  | true =>
    simp only [if_true] at h
    show W _ _ A (allTrue .And [r] env) _ s₁
    unfold allTrue
    refine W.bind (W.mono (hr A env P O vm s₁ ρ b hA (F.ext X1) h) fun y s₂ ⟨X2, e⟩ => ?_)
    subst e
    cases y with
    | false => exact W.pure ⟨X1.trans X2, rfl⟩
    | true => show W _ _ A (allTrue .And [] env) _ s₂; unfold allTrue; exact W.pure ⟨X1.trans X2, rfl⟩
theorem st_or {l r : PySem.Expr} {pos : Pos} {f g : Rho → Option Bool} (hl : ST J l f) (hr : ST J r g) : ST J (.BoolOp .Or [l, r] pos) (orB f g) := fun A env P O vm s ρ b hA F h => by
  unfold orB at h
  rw [Option.bind_eq_some_iff] at h
  obtain ⟨a, ha, h⟩ := h
  show W _ _ A (allTrue .Or [l, r] env) _ s
  unfold allTrue
  refine W.bind (W.mono (hl A env P O vm s ρ a hA F ha) fun x s₁ ⟨X1, e⟩ => ?_)
  subst e
  cases x with
  | true => simp only [if_true] at h; cases h; exact W.pure ⟨X1, rfl⟩
  | false =>
    simp only [Bool.false_eq_true, if_false] at h
    show W _ _ A (allTrue .Or [r] env) _ s₁
    unfold allTrue
    refine W.bind (W.mono (hr A env P O vm s₁ ρ b hA (F.ext X1) h) fun y s₂ ⟨X2, e⟩ => ?_)
    subst e
    cases y with
    | true => exact W.pure ⟨X1.trans X2, rfl⟩
    | false => show W _ _ A (allTrue .Or [] env) _ s₂; unfold allTrue; exact W.pure ⟨X1.trans X2, rfl⟩
theorem se_ifexp {t l r : PySem.Expr} {pos : Pos} {c : Rho → Option Bool} {f g : Rho → Option D} (ht : ST J t c) (hl : SE J l f) (hr : SE J r g) : SE J (.IfExp t l r pos) (ifE c f g) := fun A env P O vm s ρ b hA F h => by
  unfold ifE at h
  rw [Option.bind_eq_some_iff] at h
  obtain ⟨a, ha, h⟩ := h
  show W _ _ A (do if ← isTrue t env (eval t env) then eval l env else eval r env) _ s
  refine W.bind (W.mono (ht A env P O vm s ρ a hA F ha) fun x s₁ ⟨X1, e⟩ => ?_)
  subst e
  cases x with
  | true => simp only [if_true] at h ⊢; exact W.mono (hl A env P O vm s₁ ρ b hA (F.ext X1) h) fun y s₂ ⟨X2, e⟩ => ⟨X1.trans X2, e⟩
  | false => simp only [Bool.false_eq_true, if_false] at h ⊢; exact W.mono (hr A env P O vm s₁ ρ b hA (F.ext X1) h) fun y s₂ ⟨X2, e⟩ => ⟨X1.trans X2, e⟩

theorem se_or {l r : PySem.Expr} {pos : Pos} {f g : Rho → Option D} (hl : SE J l f) (hr : SE J r g) : SE J (.BoolOp .Or [l, r] pos) (orE f g) := fun A env P O vm s ρ d hA F h => by
  unfold orE at h
  rw [Option.bind_eq_some_iff] at h
  obtain ⟨a, ha, h⟩ := h
  rw [Option.bind_eq_some_iff] at h
  obtain ⟨t, ht, h⟩ := h
  show W _ _ A (boolOp pos .Or [eval l env, eval r env]) _ s
  rw [boolOp.eq_3 _ _ _ _ (by simp)]
  refine W.bind (W.mono (hl A env P O vm s ρ a hA F ha) fun x s₁ ⟨X1, r1⟩ => W.bind (W.standAt (W.bind (W.holding (W.mono (truthy_ok r1 ht) fun y s₂ ⟨X2, e⟩ => ?_)))))
  subst e
  cases y with
  | true => simp only [if_true] at h; cases h; exact W.pure ⟨X1.trans X2, r1.keep X2.keep⟩
  | false =>
    simp only [Bool.false_eq_true, if_false] at h
    show W _ _ A (boolOp pos .Or [eval r env]) _ s₂
    rw [boolOp.eq_2]
    exact W.mono (hr A env P O vm s₂ ρ d hA (F.ext (X1.trans X2)) h) fun v s₃ ⟨X3, r3⟩ => ⟨(X1.trans X2).trans X3, r3⟩

theorem se_neg {e : PySem.Expr} {pos : Pos} {f : Rho → Option D} (he : SE J e f) : SE J (.UnaryOp .USub e pos) (negE f) := fun A env P O vm s ρ d hA F h => by
  unfold negE at h
  rw [Option.bind_eq_some_iff] at h
  obtain ⟨a, ha, h⟩ := h
  split at h
  · cases h
    show W _ _ A (do let v ← eval e env; standAt pos; holding [v] (unaryOp .USub v)) _ s
    refine W.bind (W.mono (he A env P O vm s ρ _ hA F ha) fun v s₁ ⟨X1, r1⟩ => W.bind (W.standAt (W.holding ?_)))
    rw [Rd] at r1; obtain ⟨t, rfl⟩ := r1
    exact W.of_any (PyProof.Rows.neg_int ⟨X1.trans (Ext.toks _), by rw [Rd]; exact ⟨_, rfl⟩⟩)
  · cases h

end
end Mine

end
section
open PySem PySem.W PySem.Calls PyProof.Rows
set_option Elab.async false
set_option maxRecDepth 100000
namespace Mine

/-! displays -/
noncomputable def SEs (J : Jd) (es : List PySem.Expr) (f : Rho → Option (List D)) : Prop :=
  ∀ (A : Around) (env : Env) (P : Avd) (O : Nat → Option Addr) (vm : Str → Option Value) (s : Shared) (ρ : Rho) (ds : List D) (pos : Pos), Room A J.k → FrV J.cx J.sc J.tab env P O vm s ρ → f ρ = some ds →
    W J.cx.prog J.cx.w A (spliced (backTo pos (starEach es env))) (fun vs s' => Ext s s' ∧ RdAll J.cx s'.heap (Av env P O) ds vs) s
noncomputable def nilF : Rho → Option (List D) := fun _ => some []
noncomputable def consF (f : Rho → Option D) (g : Rho → Option (List D)) : Rho → Option (List D) := fun ρ => (f ρ).bind fun d => (g ρ).map fun ds => d :: ds
noncomputable def listE (f : Rho → Option (List D)) : Rho → Option D := fun ρ => (f ρ).bind fun ds => if ds.length ≤ 1000 then some (.list ds) else none
/-- the expression makes a new list -/
noncomputable def SEF (J : Jd) (e : PySem.Expr) (f : Rho → Option (List D)) : Prop :=
  ∀ (A : Around) (env : Env) (P : Avd) (O : Nat → Option Addr) (vm : Str → Option Value) (s : Shared) (ρ : Rho) (ds : List D), Room A J.k → FrV J.cx J.sc J.tab env P O vm s ρ → f ρ = some ds →
    W J.cx.prog J.cx.w A (eval e env) (fun v s' => Ext s s' ∧ ∃ a vs n, v = .ref a ∧ s.heap.objs.size ≤ a ∧ s'.heap.get? a = some { cls := .type "list", data := .seq vs n } ∧ vs.size ≤ sizeLine ∧
      RdAll J.cx s'.heap (fun b => Av env P O b ∨ b = a) ds vs.toList) s

section
variable {J : Jd}
theorem ses_nil : SEs J [] nilF := fun A env P O vm s ρ ds pos hA F h => by
  cases h
  exact W.of_any (Calls.spliced_nil ⟨Ext.refl _, RdAll.nil⟩)
theorem ses_cons {e : PySem.Expr} {es : List PySem.Expr} {f : Rho → Option D} {g : Rho → Option (List D)} (he : SE J e f) (hes : SEs J es g) (hs : isStarred e = false := by rfl) : SEs J (e :: es) (consF f g) := fun A env P O vm s ρ ds pos hA F h => by
  unfold consF at h
  rw [Option.bind_eq_some_iff] at h
  obtain ⟨d, hd, h⟩ := h
  rw [Option.map_eq_some_iff] at h
  obtain ⟨ds', hds, rfl⟩ := h
  have e1 : backTo pos (starEach (e :: es) env) = (false, eval e env) :: backTo pos (starEach es env) := by
    cases e <;> first | rfl | cases hs
  rw [e1, spliced]
  refine W.bind (W.mono (he A env P O vm s ρ d hA F hd) fun v s₁ ⟨X1, r1⟩ => ?_)
  simp only [Bool.false_eq_true, if_false]
  refine W.bind (W.pure (W.bind (W.holding (W.mono (hes A env P O vm s₁ ρ ds' pos hA (F.ext X1) hds) fun vs s₂ ⟨X2, r2⟩ => W.pure ⟨X1.trans X2, ?_⟩))))
  exact RdAll.cons (r1.keep X2.keep) r2

theorem sef_list {es : List PySem.Expr} {pos : Pos} {f : Rho → Option (List D)} (hes : SEs J es f) : SEF J (.List es pos) (fun ρ => (f ρ).bind fun ds => if ds.length ≤ 1000 then some ds else none) := fun A env P O vm s ρ ds hA F h => by
  rw [Option.bind_eq_some_iff] at h
  obtain ⟨ds', hds, h⟩ := h
  split at h
  · rename_i hz
    cases h
    show W _ _ A (do standAt pos; newList (← spliced (backTo pos (starEach es env)))) _ s
    refine W.bind (W.standAt (W.bind (W.mono (hes A env P O vm s ρ ds pos hA F hds) fun vs s₁ ⟨X1, r1⟩ => ?_)))
    have hl := r1.length
    have hz' : vs.length ≤ sizeLine := by have := szl; omega
    refine W.of_any (wpAny_newList ⟨X1.trans (Ext.push _ _), _, vs.toArray, 0, rfl, X1.size, Heap.get?_push_size _ rfl, by simpa using hz', ?_⟩ hz')
    refine r1.mono (fun a o _ e => Heap.get?_push_of_some _ e) fun a ha => ha.imp id fun e => ?_
    rw [e]; exact get_none (Nat.le_refl _)
  · cases h
theorem se_list {es : List PySem.Expr} {pos : Pos} {f : Rho → Option (List D)} (hes : SEs J es f) : SE J (.List es pos) (listE f) := fun A env P O vm s ρ d hA F h => by
  unfold listE at h
  rw [Option.bind_eq_some_iff] at h
  obtain ⟨ds, hds, h⟩ := h
  split at h
  · rename_i hz
    cases h
    refine W.mono (sef_list hes A env P O vm s ρ ds hA F (by simp [hds, hz])) fun v s₁ ⟨X, a, vs, n, e1, e2, e3, e4, e5⟩ => ⟨X, ?_⟩
    rw [Rd]
    exact ⟨a, vs, n, e1, e3, F.new e2, e4, e5.weak fun b hb => .inl hb⟩
  · cases h
end

/-! subscripts -/
noncomputable def opItem : D → D → Option D
  | .str l, .int i => (seqIndex? i l.length).bind fun k => (l[k]?).map fun c => .str [c]
  | .list xs, .int i => (seqIndex? i xs.length).bind (xs[·]?)
  | .tup xs, .int i => (seqIndex? i xs.length).bind (xs[·]?)
  | _, _ => none
theorem seqIndex_bound {i : Int} {n k : Nat} (h : seqIndex? i n = some k) : -(n : Int) ≤ i ∧ i < n ∧ k = (if i < 0 then i + n else i).toNat ∧ k < n := by
  unfold seqIndex? at h
  dsimp only at h
  by_cases hi : i < 0
  · rw [if_pos hi] at h ⊢
    split at h
    · rename_i hc
      rw [Bool.and_eq_true, decide_eq_true_eq, decide_eq_true_eq] at hc
      cases h
      exact ⟨by omega, by omega, rfl, by omega⟩
    · cases h
  · rw [if_neg hi] at h ⊢
    split at h
    · rename_i hc
      rw [Bool.and_eq_true, decide_eq_true_eq, decide_eq_true_eq] at hc
      cases h
      exact ⟨by omega, by omega, rfl, by omega⟩
    · cases h

/-- one item -/
theorem item_ok {cx : Cx} {A : Around} {V : Avd} {s : Shared} {a b r : D} {x y : Value} {value slice : PySem.Expr} (ra : Rd cx s.heap V a x) (rb : Rd cx s.heap V b y) (h : opItem a b = some r)
    (hs : subscripted slice false x y = operate [x, y] (getItem x y)) : W cx.prog cx.w A (subscriptTail value slice x y) (fun v s' => Ext s s' ∧ Rd cx s'.heap V r v) s := by
  have hsz := szl
  unfold opItem at h
  split at h
  · rename_i l i
    rw [Rd] at ra
    rw [Rd] at rb
    obtain ⟨t, rfl, h1, h2⟩ := ra
    obtain ⟨u, rfl⟩ := rb
    rw [Option.bind_eq_some_iff] at h
    obtain ⟨k, hk, h⟩ := h
    rw [Option.map_eq_some_iff] at h
    obtain ⟨c, hc, rfl⟩ := h
    obtain ⟨b1, b2, b3, b4⟩ := seqIndex_bound hk
    refine W.of_any (tail_any (typeIs_str s _ t) slot_str_getitem.lookup (getItem_str (c := c) ?_ ?_ ⟨Ext.toks _, ?_⟩) hs)
    · simp only [Bool.or_eq_false_iff, decide_eq_false_iff_not]; constructor <;> omega
    · rw [str_len, hk]; simp [hc]
    · exact rd_str (fun c' hc' => by simp at hc'; subst hc'; exact h1 _ (List.mem_of_getElem? hc)) (by have := szl; simp; omega)
  · rename_i xs i
    rw [Rd] at ra
    rw [Rd] at rb
    obtain ⟨p, vs, n, rfl, ho, _, hz, ra⟩ := ra
    obtain ⟨u, rfl⟩ := rb
    rw [Option.bind_eq_some_iff] at h
    obtain ⟨k, hk, h⟩ := h
    obtain ⟨b1, b2, b3, b4⟩ := seqIndex_bound hk
    obtain ⟨v, hv, r⟩ := ra.get h
    have hl := ra.length
    rw [Array.length_toList] at hl
    have hv' : vs[k]? = some v := by rw [← Array.getElem?_toList]; exact hv
    have hlist : s.heap.IsList p vs := ⟨_, ho, rfl, n, rfl⟩
    by_cases hi : i < 0
    · rw [if_pos hi] at b3
      refine W.of_any (tail_any hlist.typeIs F.slot_list_getitem.lookup (wpAny_getItem_list_neg hlist hi (by omega) (by omega) (x := v) ?_ ⟨Ext.refl _, r⟩) hs)
      rw [show (i + (vs.size : Int)).toNat = k by rw [b3, hl]]; exact hv'
    · rw [if_neg hi] at b3
      refine W.of_any (tail_any hlist.typeIs F.slot_list_getitem.lookup (wpAny_getItem_list hlist (by omega) (by omega) (x := v) ?_ ⟨Ext.refl _, r⟩) hs)
      rw [← b3]; exact hv'
  · rename_i xs i
    rw [Rd] at ra
    rw [Rd] at rb
    obtain ⟨p, vs, n, rfl, ho, _, hz, ra⟩ := ra
    obtain ⟨u, rfl⟩ := rb
    rw [Option.bind_eq_some_iff] at h
    obtain ⟨k, hk, h⟩ := h
    obtain ⟨b1, b2, b3, b4⟩ := seqIndex_bound hk
    obtain ⟨v, hv, r⟩ := ra.get h
    have hl := ra.length
    rw [Array.length_toList] at hl
    have hv' : vs[k]? = some v := by rw [← Array.getElem?_toList]; exact hv
    exact W.of_any (tail_any (T := "tuple") ⟨_, ho, rfl⟩ F.slot_tuple_getitem.lookup (P.getItem_tuple ho (by omega) (by omega) (by rw [hl]; exact hk) hv' ⟨Ext.refl _, r⟩) hs)
  · cases h

noncomputable def notSlice : PySem.Expr → Bool
  | .Slice .. => false
  | _ => true
noncomputable def itemE (f g : Rho → Option D) : Rho → Option D := binE opItem f g
section
variable {J : Jd}
theorem subscript_split {value slice : PySem.Expr} {pos : Pos} {env : Env} : eval (.Subscript value slice pos) env = (do
    let o ← eval value env
    let i ← holding [o] (eval slice env)
    standAt pos
    subscriptTail value slice o i) := rfl
theorem se_item {value slice : PySem.Expr} {pos : Pos} {f g : Rho → Option D} (hv : SE J value f) (hi : SE J slice g) (hs : notSlice slice = true := by rfl) : SE J (.Subscript value slice pos) (itemE f g) := fun A env P O vm s ρ d hA F h => by
  unfold itemE binE at h
  rw [Option.bind_eq_some_iff] at h
  obtain ⟨a, ha, h⟩ := h
  rw [Option.bind_eq_some_iff] at h
  obtain ⟨b, hb, h⟩ := h
  rw [subscript_split]
  refine W.bind (W.mono (hv A env P O vm s ρ a hA F ha) fun x s₁ ⟨X1, r1⟩ => W.bind (W.holding (W.mono (hi A env P O vm s₁ ρ b hA (F.ext X1) hb) fun y s₂ ⟨X2, r2⟩ => W.bind (W.standAt ?_))))
  refine W.mono (item_ok (r1.keep X2.keep) r2 h ?_) fun v s₃ ⟨X3, r3⟩ => ⟨X1.trans (X2.trans X3), r3⟩
  cases slice <;> first | rfl | cases hs
end

/-! slices -/
noncomputable def cut {α : Type} (l : List α) (lo hi : Option Int) : List α := (l.drop (lo.elim 0 (clipAt l.length))).take (hi.elim l.length (clipAt l.length) - lo.elim 0 (clipAt l.length))
noncomputable def opCut (lo hi : Option Int) : D → Option D
  | .str l => some (.str (cut l lo hi))
  | .list xs => some (.list (cut xs lo hi))
  | _ => none
noncomputable def PartV : Option Int → Value → Prop
  | none, v => v = .none
  | some i, v => ∃ t, v = .int i t
noncomputable def SP (J : Jd) (e : Option PySem.Expr) (f : Rho → Option (Option Int)) : Prop :=
  ∀ (A : Around) (env : Env) (P : Avd) (O : Nat → Option Addr) (vm : Str → Option Value) (s : Shared) (ρ : Rho) (d : Option Int), Room A J.k → FrV J.cx J.sc J.tab env P O vm s ρ → f ρ = some d →
    W J.cx.prog J.cx.w A (valueOrNone (evalOpt e env)) (fun v s' => Ext s s' ∧ PartV d v) s
noncomputable def noP : Rho → Option (Option Int) := fun _ => some none
noncomputable def intP (f : Rho → Option D) : Rho → Option (Option Int) := fun ρ => (f ρ).bind fun d => match d with | .int i => some (some i) | _ => none
section
variable {J : Jd}
theorem sp_none : SP J none noP := fun A env P O vm s ρ d hA F h => by
  cases h; exact W.pure ⟨Ext.refl _, rfl⟩
theorem sp_some {e : PySem.Expr} {f : Rho → Option D} (he : SE J e f) : SP J (some e) (intP f) := fun A env P O vm s ρ d hA F h => by
  unfold intP at h
  rw [Option.bind_eq_some_iff] at h
  obtain ⟨a, ha, h⟩ := h
  split at h
  · cases h
    refine W.mono (he A env P O vm s ρ _ hA F ha) fun v s₁ ⟨X, r⟩ => ⟨X, ?_⟩
    rw [Rd] at r; exact r
  · cases h
theorem partV_isPart {d : Option Int} {v : Value} (h : PartV d v) : IsPart v d := by
  cases d with
  | none => cases h; exact .none
  | some i => obtain ⟨t, rfl⟩ := h; exact .int i t
theorem partV_value {d : Option Int} {v : Value} (h : PartV d v) : ∃ p : Option (Int × Tok), v = partValue p ∧ p.map (·.1) = d := by
  cases d with
  | none => cases h; exact ⟨none, rfl, rfl⟩
  | some i => obtain ⟨t, rfl⟩ := h; exact ⟨some (i, t), rfl, rfl⟩
theorem strSlice_plain (l : List Nat) (lo hi : Option Int) : (Builtin.Str.strSliceIndices lo hi 1 l.length).filterMap (l[·]?) = cut l lo hi := by
  have h1 : Builtin.Str.strSliceIndices lo hi 1 l.length = sliceRange (((lo.elim 0 (clipAt l.length) : Nat) : Int)) ((hi.elim l.length (clipAt l.length) : Nat) : Int) 1 := by
    cases lo <;> cases hi <;> simp [Builtin.Str.strSliceIndices, clipAt_cast]
  rw [h1, sliceRange_one]
  have := pick_run l.toArray (lo.elim 0 (clipAt l.length)) (hi.elim l.length (clipAt l.length) - lo.elim 0 (clipAt l.length))
  simpa [cut] using this
theorem mem_cut {α : Type} {l : List α} {lo hi : Option Int} {c : α} (h : c ∈ cut l lo hi) : c ∈ l := List.mem_of_mem_drop (List.mem_of_mem_take h)
theorem cut_le {α : Type} (l : List α) (lo hi : Option Int) : (cut l lo hi).length ≤ l.length := by
  unfold cut; rw [List.length_take, List.length_drop]; omega

noncomputable def cutE (f : Rho → Option D) (lo hi : Rho → Option (Option Int)) : Rho → Option D := fun ρ => (f ρ).bind fun a => (lo ρ).bind fun i => (hi ρ).bind fun j => opCut i j a

theorem cut_ok {cx : Cx} {A : Around} {V : Avd} {s : Shared} {a r : D} {x vl vu : Value} {lo hi : Option Int} {value : PySem.Expr} {l u : Option PySem.Expr} {p : Pos} {sl : Addr} (hV : ∀ p, V p → p < s.heap.objs.size) (ra : Rd cx s.heap V a x) (pl : PartV lo vl) (pu : PartV hi vu)
    (hsl : s.heap.get? sl = some { cls := .type "slice", data := .fields #[vl, vu, .none] }) (h : opCut lo hi a = some r) :
    W cx.prog cx.w A (subscriptTail value (.Slice l u none p) x (.ref sl)) (fun v s' => Ext s s' ∧ Rd cx s'.heap V r v) s := by
  unfold opCut at h
  split at h
  · rename_i l'
    cases h
    rw [Rd] at ra
    obtain ⟨t, rfl, h1, h2⟩ := ra
    obtain ⟨p1, rfl, e1⟩ := partV_value pl
    obtain ⟨p2, rfl, e2⟩ := partV_value pu
    refine W.of_any (tail_any (ops := [.ref sl, .str ⟨l'.toArray⟩ t]) (typeIs_str s _ t) slot_str_getitem.lookup (wpAny_getItem_str_slice (l := p1) (u := p2) (st := none) ⟨_, hsl, rfl, rfl⟩ rfl ?_) rfl)
    have hp : slicePicked ⟨l'.toArray⟩ p1 p2 none = Builtin.Str.strSliceIndices lo hi 1 l'.length := by
      unfold slicePicked; rw [e1, e2, str_len]; rfl
    unfold sliceMade
    rw [hp]
    have hget : ((Builtin.Str.strSliceIndices lo hi 1 l'.length).filterMap ((⟨l'.toArray⟩ : Str).cps[·]?)) = cut l' lo hi := by
      rw [← strSlice_plain]; simp
    have hr : ∀ t', Rd cx s.heap V (.str (cut l' lo hi)) (.str ⟨(cut l' lo hi).toArray⟩ t') := fun t' => rd_str (fun c hc => h1 c (mem_cut hc)) (Nat.le_trans (cut_le _ _ _) h2)
    split
    · rename_i hc
      rw [Bool.and_eq_true] at hc
      have hlen : (Builtin.Str.strSliceIndices lo hi 1 l'.length).length = l'.length := by have := hc.2; rw [str_len] at this; simpa using this
      have hcut : cut l' lo hi = l' := by
        have h1 : (Builtin.Str.strSliceIndices lo hi 1 l'.length) = sliceRange (((lo.elim 0 (clipAt l'.length) : Nat) : Int)) ((hi.elim l'.length (clipAt l'.length) : Nat) : Int) 1 := by
          cases lo <;> cases hi <;> simp [Builtin.Str.strSliceIndices, clipAt_cast]
        rw [h1, sliceRange_one] at hlen
        simp only [List.length_map, List.length_range] at hlen
        unfold cut
        generalize lo.elim 0 (clipAt l'.length) = i at *
        have hj : hi.elim l'.length (clipAt l'.length) ≤ l'.length := by
          cases hi with
          | none => exact Nat.le_refl _
          | some j => simp only [Option.elim]; have := clipAt_cast l'.length j; omega
        generalize hi.elim l'.length (clipAt l'.length) = j at *
        rcases Nat.eq_zero_or_pos l'.length with h0 | h0
        · have : l' = [] := List.length_eq_zero_iff.mp h0
          subst this; simp
        · have : i = 0 := by omega
          subst this
          rw [List.drop_zero, List.take_of_length_le (by omega)]
      exact ⟨Ext.refl _, by have := hr t; rw [hcut] at this ⊢; exact this⟩
    · rw [hget]
      exact ⟨by rw [str_len]; exact Nat.le_trans (cut_le _ _ _) h2, Ext.toks _, hr _⟩
  · rename_i xs
    cases h
    rw [Rd] at ra
    obtain ⟨q, vs, n, rfl, ho, _, hz, ra⟩ := ra
    have hlist : s.heap.IsList q vs := ⟨_, ho, rfl, n, rfl⟩
    refine W.of_any (tail_any (ops := [.ref sl, .ref q]) hlist.typeIs F.slot_list_getitem.lookup (wpAny_getItem_list_slice hlist ⟨_, hsl, rfl, rfl⟩ (partV_isPart pl) (partV_isPart pu) .none (by intro x; cases x) ⟨Ext.push _ _, ?_⟩ hz) rfl)
    have hl := ra.length
    rw [Array.length_toList] at hl
    rw [Rd]
    refine ⟨_, _, 0, rfl, Heap.get?_push_size _ rfl, fun hp => Nat.lt_irrefl _ (hV _ hp), Nat.le_trans (slicePick_size_le _ _ _ _) hz, ?_⟩
    rw [slicePick_plain, hl]
    exact ((ra.drop _).take _).keep fun _ _ e => Heap.get?_push_of_some _ e
  · cases h

theorem se_cut {value : PySem.Expr} {l u : Option PySem.Expr} {p pos : Pos} {f : Rho → Option D} {lo hi : Rho → Option (Option Int)} (hv : SE J value f) (hl : SP J l lo) (hu : SP J u hi) : SE J (.Subscript value (.Slice l u none p) pos) (cutE f lo hi) := fun A env P O vm s ρ d hA F h => by
  unfold cutE at h
  rw [Option.bind_eq_some_iff] at h
  obtain ⟨a, ha, h⟩ := h
  rw [Option.bind_eq_some_iff] at h
  obtain ⟨i, hi', h⟩ := h
  rw [Option.bind_eq_some_iff] at h
  obtain ⟨j, hj, h⟩ := h
  rw [subscript_split]
  refine W.bind (W.mono (hv A env P O vm s ρ a hA F ha) fun x s₁ ⟨X1, r1⟩ => W.bind (W.holding ?_))
  show W _ _ A (do let l' ← valueOrNone (evalOpt l env); let u' ← holding [l'] (valueOrNone (evalOpt u env)); let st ← holding [l', u'] (valueOrNone (evalOpt none env)); newFields "slice" [l', u', st]) _ s₁
  refine W.bind (W.mono (hl A env P O vm s₁ ρ i hA (F.ext X1) hi') fun vl s₂ ⟨X2, p2⟩ => W.bind (W.holding (W.mono (hu A env P O vm s₂ ρ j hA (F.ext (X1.trans X2)) hj) fun vu s₃ ⟨X3, p3⟩ => W.bind (W.holding (W.pure ?_)))))
  refine W.of_any (wpAny_newObj_type ?_ (by show (#[vl, vu, Value.none] : Array Value).size ≤ _; have := szl; simp; omega))
  refine W.bind (W.standAt ?_)
  have X := X1.trans (X2.trans (X3.trans (Ext.push (s := s₃) { cls := .type "slice", data := .fields #[vl, vu, .none] } s₃.toks)))
  refine W.mono (cut_ok (fun q hq => (F.ext X).avLt hq) (((r1.keep X2.keep).keep X3.keep).keep fun _ _ e => Heap.get?_push_of_some _ e) p2 p3 (Heap.get?_push_size _ rfl) h) fun v s₄ ⟨X4, r4⟩ => ⟨X.trans X4, r4⟩
end
end Mine

end
section
open PySem PySem.W PySem.Calls PyProof.Rows
set_option Elab.async false
set_option maxRecDepth 100000
namespace Mine

/-! calls -/
noncomputable def KeepOk (f : Value) (h : Heap) : Prop := (∃ a o fd, f = .ref a ∧ h.get? a = some o ∧ o.data = .func fd) ∨ ∀ a, f ≠ .ref a

theorem backTo_plain (pos : Pos) (env : Env) : ∀ {es : List PySem.Expr}, es.any isStarred = false → (backTo pos (starEach es env)).any (·.1) = false ∧ (backTo pos (starEach es env)).length = es.length
  | [], _ => ⟨rfl, rfl⟩
  | e :: es, h => by
    rw [List.any_cons, Bool.or_eq_false_iff] at h
    have e1 : backTo pos (starEach (e :: es) env) = (false, eval e env) :: backTo pos (starEach es env) := by
      cases e <;> first | rfl | cases h.1
    have ih := backTo_plain pos env h.2
    rw [e1]
    exact ⟨by rw [List.any_cons, ih.1]; rfl, by rw [List.length_cons, List.length_cons, ih.2]⟩

section
variable {prog : Program} {w : World} {A : Around} {s : Shared}
theorem evalArgs_ok {f : Value} {args : List (Bool × Sem Value)} {Q : Args → Shared → Prop} (hs : args.any (·.1) = false) (h : W prog w A (spliced args) (fun vs s' => Q ⟨vs, []⟩ s') s) : W prog w A (evalArgs f true args []) Q s := by
  have e : evalArgs f true args [] = (spliced args >>= fun pos => holding (pos ++ (Option.none : Option Value).toList) (do
      let kw := (([] : List (Option Str × Sem Value)).filterMap (·.1)).zip (← evalAll (([] : List (Option Str × Sem Value)).map (·.2)))
      return ⟨← (pure pos : Sem (List Value)), kw⟩)) := by
    unfold evalArgs
    cases args with
    | nil => simp
    | cons x rest =>
      obtain ⟨b, t⟩ := x
      cases b with
      | true => simp at hs
      | false => simp
  rw [e]
  exact W.bind (W.mono h fun vs s' h' => W.holding (W.bind (W.pure (W.bind (W.pure (W.pure h'))))))

theorem callWith_ok {pos : Pos} {f : Value} {first : List Value} {args : List (Bool × Sem Value)} {Q : Value → Shared → Prop} (hs : args.any (·.1) = false) (hl : args.length ≤ 30)
    (h : W prog w A (spliced args) (fun vs s₁ => KeepOk f s₁.heap ∧ W prog w A (PySem.call f (first ++ vs)) Q s₁) s) : W prog w A (callWith pos f first args []) Q s := by
  unfold callWith
  refine W.bind (W.holding (evalArgs_ok hs (W.mono h fun vs s₁ ⟨hk, h₁⟩ => W.bind (W.standAt ?_))))
  have hfin : ∀ {t : Sem Value}, W prog w A t Q s₁ → W prog w A (t >>= fun r => do holding [r] point; pure r) Q s₁ := fun ht =>
    W.bind (W.mono ht fun r s₂ hr => W.bind (W.holding (W.point (W.pure hr))))
  rcases hk with ⟨a, o, fd, rfl, ho, hd⟩ | hk
  · refine W.bind (m := keeperOf (.ref a)) ?_
    have hko : W prog w A (keeperOf (.ref a)) (fun k s' => k = .frame ∧ s' = s₁) s₁ := by
      refine W.of_any ?_
      unfold keeperOf
      refine wpAny_bind (wpAny_load ho ?_)
      rw [hd]
      exact wpAny_pure ⟨rfl, rfl⟩
    refine W.mono hko fun k s' ⟨e1, e2⟩ => ?_
    subst e1 e2
    simp only [hs, List.any_nil, Bool.or_false]
    rw [if_neg (by simp; omega)]
    refine hfin ?_
    unfold callMarked
    exact W.keep h₁
  · have hko : keeperOf f = pure .machine := by
      unfold keeperOf
      cases f <;> first | rfl | exact absurd rfl (hk _)
    rw [hko]
    refine W.bind (W.pure ?_)
    simp only [hs, List.any_nil, Bool.or_false]
    exact hfin h₁
end

noncomputable def Base (cx : Cx) (h : Heap) : Prop := cx.h₁.objs.size ≤ h.objs.size ∧ ∀ a o, cx.h₁.get? a = some o → h.get? a = some o
theorem FrV.baseOf {cx : Cx} {sc : Scope} {tab : List (Option Str)} {env : Env} {P : Avd} {O : Nat → Option Addr} {vm : Str → Option Value} {s : Shared} {ρ : List Slot} (F : FrV cx sc tab env P O vm s ρ) : Base cx s.heap :=
  ⟨have x := F.fresh env.locals (.inr (.inl rfl)); Nat.le_of_lt (Nat.lt_of_le_of_lt x.1 x.2), F.base⟩
/-- what a call of fv on data gives -/
noncomputable def Con (cx : Cx) (k : Nat) (fv : Value) (F : List D → Option D) : Prop :=
  ∀ (A : Around) (V : Avd) (s : Shared) (ds : List D) (vs : List Value) (r : D), Room A k → (∀ p, V p → p < s.heap.objs.size) → Base cx s.heap → RdAll cx s.heap V ds vs → F ds = some r →
    W cx.prog cx.w A (PySem.call fv vs) (fun v s' => Ext s s' ∧ Rd cx s'.heap V r v) s
noncomputable def callE (F : List D → Option D) (g : Rho → Option (List D)) : Rho → Option D := fun ρ => (g ρ).bind F

theorem Room.le {A : Around} {k k' : Nat} (h : Room A k) (hk : k' ≤ k) : Room A k' := ⟨h.1, by have := h.2.1; omega, by have := h.2.2; omega⟩

section
variable {J : Jd}
theorem se_call {fn : Str} {fv : Value} {p pos : Pos} {es : List PySem.Expr} {F : List D → Option D} {g : Rho → Option (List D)} {k : Nat} (hc : Con J.cx k fv F) (hes : SEs J es g)
    (hv : (J.cx.mg fn).or (J.cx.mb fn) = some fv) (hkeep : KeepOk fv J.cx.h₁) (hk : k ≤ J.k := by decide)
    (hl : J.sc.names.lookup fn = some .globalImplicit := by rfl) (hst : es.any isStarred = false := by rfl) (hlen : es.length ≤ 30 := by decide) (hdb : (fn == ("__debug__" : Str)) = false := by decide) :
    SE J (.Call (.Name fn p) es [] pos) (callE F g) := fun A env P O vm s ρ d hA Fr h => by
  unfold callE at h
  rw [Option.bind_eq_some_iff] at h
  obtain ⟨ds, hds, h⟩ := h
  show W _ _ A (do callWith pos (← eval (.Name fn p) env) [] (backTo pos (starEach es env)) []) _ s
  rw [eval_Name env fn p hdb]
  refine W.bind (W.bind (W.standAt (Fr.glob_ hl hv ?_)))
  have hb := backTo_plain pos env hst
  refine callWith_ok hb.1 (by rw [hb.2]; exact hlen) (W.mono (hes A env P O vm s ρ ds pos hA Fr hds) fun vs s₁ ⟨X1, r1⟩ => ⟨?_, ?_⟩)
  · rcases hkeep with ⟨a, o, fd, e, ho, hd⟩ | hk
    · exact .inl ⟨a, o, fd, e, (Fr.ext X1).base a o ho, hd⟩
    · exact .inr hk
  · exact W.mono (hc A (Av env P O) s₁ ds vs d (hA.le hk) (fun q hq => (Fr.ext X1).avLt hq) (Fr.ext X1).baseOf r1 h) fun v s₂ ⟨X2, r2⟩ => ⟨X1.trans X2, r2⟩
end

/-! built-in functions -/
noncomputable def lenF : List D → Option D
  | [.str l] => some (.int l.length)
  | [.list xs] => some (.int xs.length)
  | _ => none
theorem con_len {cx : Cx} {k : Nat} : Con cx k (.builtin "len") lenF := fun A V s ds vs r hA hV hb ra h => by
  have hsz := szl
  unfold lenF at h
  split at h
  · cases h
    rw [RdAll] at ra; obtain ⟨v, l, rfl, ra, rb⟩ := ra
    rw [RdAll] at rb; subst rb
    rw [Rd] at ra; obtain ⟨t, rfl, _, hz⟩ := ra
    exact W.of_any (len_str (by rw [str_len]; omega) ⟨Ext.toks _, by rw [Rd, str_len]; exact ⟨_, rfl⟩⟩)
  · cases h
    rw [RdAll] at ra; obtain ⟨v, l, rfl, ra, rb⟩ := ra
    rw [RdAll] at rb; subst rb
    rw [Rd] at ra; obtain ⟨a, us, n, rfl, ho, _, hz, ra⟩ := ra
    have hl := ra.length
    rw [Array.length_toList] at hl
    exact W.of_any (Calls.call_len_list ⟨_, ho, rfl, n, rfl⟩ (by omega) ⟨Ext.toks _, by rw [Rd, hl]; exact ⟨_, rfl⟩⟩)
  · cases h
noncomputable def chrF : List D → Option D
  | [.int i] => if 0 ≤ i ∧ i < 1114112 then some (.str [i.toNat]) else none
  | _ => none
theorem con_chr {cx : Cx} {k : Nat} : Con cx k (.builtin "chr") chrF := fun A V s ds vs r hA hV hb ra h => by
  have hsz := szl
  unfold chrF at h
  split at h
  · split at h
    · rename_i hi
      cases h
      rw [RdAll] at ra; obtain ⟨v, l, rfl, ra, rb⟩ := ra
      rw [RdAll] at rb; subst rb
      rw [Rd] at ra; obtain ⟨t, rfl⟩ := ra
      refine W.of_any (chr_of_range hi.1 (by omega) ⟨Ext.toks _, rd_str (fun c hc => ?_) (by simp; omega)⟩)
      simp at hc; subst hc; omega
    · cases h
  · cases h
end Mine

end
section
open PySem PySem.W PySem.Calls PyProof.Rows
set_option Elab.async false
set_option maxRecDepth 100000
namespace Mine

/-! the heap only grows -/
theorem runs_size {M : Model} {Γ : Ctx} {p : Pos} {t : Sem Fin} {fs : List Frame} {s s' : Shared} {e : End} (h : Runs M Γ p t fs s e s') : s.heap.objs.size ≤ s'.heap.objs.size := by
  induction h <;> (try simp only [Shared.setGen, Heap.size_push, Heap.size_after_update] at *) <;> omega
theorem wakes_size {M : Model} {Γ : Ctx} {p : Pos} {g : Nat} {r : Resume} {s s' : Shared} {res : GenResult} (h : Wakes M Γ p g r s res s') : s.heap.objs.size ≤ s'.heap.objs.size := by
  unfold Wakes at h
  split at h
  · exact h.elim
  · split at h
    · obtain ⟨e₁, s₁, hr, _, _, rfl⟩ := h; exact (runs_size hr : (s.setGen g .running).heap.objs.size ≤ s₁.heap.objs.size)
    · rw [h.2]; exact Nat.le_refl _
    · rw [h.2]; exact Nat.le_refl _
  · obtain ⟨e₁, s₁, hr, _, _, rfl⟩ := h; exact (runs_size hr : (s.setGen g .running).heap.objs.size ≤ s₁.heap.objs.size)
  · rw [h.2]; exact Nat.le_refl _
  · rw [h.2]; exact Nat.le_refl _
theorem wp_size {α : Type} (M : Model) (Γ : Ctx) (n : Nat) (t : Sem α) : ∀ (Q : α → Pos → Shared → Prop) (E : Value → Pos → Shared → Prop) (p : Pos) (s : Shared), n ≤ s.heap.objs.size → Sem.wp M Γ t Q E p s →
    Sem.wp M Γ t (fun a p' s' => n ≤ s'.heap.objs.size ∧ Q a p' s') E p s := by
  induction t with
  | pure a => intro Q E p s hn h; exact ⟨hn, h⟩
  | raise e => intro Q E p s hn h; exact h
  | unsupported _ => intro Q E p s _ h; exact h
  | finish _ => intro Q E p s _ h; exact h
  | rule _ k ih => intro Q E p s hn h; exact ih () Q E p s hn h
  | «at» p' k ih => intro Q E p s hn h; exact ih () Q E p' s hn h
  | load a _ k ih => intro Q E p s hn h; obtain ⟨o, ho, h⟩ := h; exact ⟨o, ho, ih o Q E p s hn h⟩
  | update a _ f k ih => intro Q E p s hn h; exact ⟨h.1, ih () Q E p _ (by show n ≤ (s.heap.update a f).objs.size; rw [Heap.size_after_update]; exact hn) h.2⟩
  | loadIfAlive a k ih => intro Q E p s hn h; exact ih _ Q E p s hn h
  | point _ k ih => intro Q E p s hn h; exact ih () Q E p s hn h
  | register _ _ => intro Q E p s _ h; exact h
  | alloc o k ih => intro Q E p s hn h; exact ih _ Q E p _ (by show n ≤ (s.heap.push o).objs.size; rw [Heap.size_push]; exact Nat.le_succ_of_le hn) h
  | fresh k ih => intro Q E p s hn h; exact ih _ Q E p { s with toks := s.toks + 1 } hn h
  | ask k ih => intro Q E p s hn h; exact ih _ Q E p s hn h
  | choose src m k ih => intro Q E p s hn h; exact ⟨h.1, ih _ Q E p _ hn h.2⟩
  | os q _ k ih => intro Q E p s hn h; exact ih _ Q E p _ hn h
  | call c hd _ _ k ih => intro Q E p s hn h; obtain ⟨r, s', hr, h⟩ := h; exact ⟨r, s', hr, ih r Q E p s' (Nat.le_trans hn (runs_size hr)) h⟩
  | handled own k ih => intro Q E p s hn h; exact ih _ Q E p s hn h
  | genState g k ih => intro Q E p s hn h; obtain ⟨st, hs, h⟩ := h; exact ⟨st, hs, ih _ Q E p s hn h⟩
  | newGen c k ih => intro Q E p s hn h; exact ih _ Q E p _ hn h
  | resume g r _ k ih => intro Q E p s hn h; obtain ⟨res, s', hw, h⟩ := h; exact ⟨res, s', hw, ih res Q E p s' (Nat.le_trans hn (wakes_size hw)) h⟩
  | yield _ _ _ _ => intro Q E p s _ h; exact h
  | stack k ih => intro Q E p s hn h; exact ih _ Q E p s hn h
  | fork _ _ => intro Q E p s _ h; exact h
  | thread k ih => intro Q E p s hn h; exact ih _ Q E p s hn h
  | await _ _ _ _ _ => intro Q E p s _ h; exact h

section
variable {α : Type} {prog : Program} {w : World} {A : Around} {s : Shared}
theorem W.size {t : Sem α} {Q : α → Shared → Prop} (h : W prog w A t Q s) : W prog w A t (fun a s' => s.heap.objs.size ≤ s'.heap.objs.size ∧ Q a s') s :=
  fun ht Γ p hΓ hc => wp_size _ Γ _ t _ _ p s (Nat.le_refl _) (h ht Γ p hΓ hc)
/-- a leaf whose rule tells the heap's size not at all -/
theorem W.of_anyS {t : Sem α} {Q : α → Shared → Prop} (h : wpAny (model prog w) A t (fun a s' => s.heap.objs.size ≤ s'.heap.objs.size → Q a s') (fun _ _ => False) s) : W prog w A t Q s :=
  W.mono (W.size (W.of_any h)) fun _ _ ⟨h1, h2⟩ => h2 h1
end

/-! statements -/
inductive Out where
  | next
  | ret (d : D)
noncomputable def OutOk (cx : Cx) (h : Heap) (P : Avd) : Out → Flow → Prop
  | .next, f => f = .next
  | .ret d, f => ∃ v, f = .ret v ∧ Rd cx h P d v

noncomputable def Post (J : Jd) (env : Env) (P : Avd) (O : Nat → Option Addr) (s : Shared) (out : Out) (ρ' : Rho) (fl : Flow) (s' : Shared) : Prop :=
  OutOk J.cx s'.heap P out fl ∧ ∃ O' vm', FrV J.cx J.sc J.tab env P O' vm' s' ρ' ∧ Tr env O s O' s'
noncomputable def SS (J : Jd) (st : List Stmt) (f : Rho → Option (Out × Rho)) : Prop :=
  ∀ (A : Around) (env : Env) (P : Avd) (O : Nat → Option Addr) (vm : Str → Option Value) (s : Shared) (ρ : Rho) (out : Out) (ρ' : Rho), Room A J.k → FrV J.cx J.sc J.tab env P O vm s ρ → f ρ = some (out, ρ') →
    W J.cx.prog J.cx.w A (execs st env) (Post J env P O s out ρ') s
noncomputable def S1 (J : Jd) (st : Stmt) (f : Rho → Option (Out × Rho)) : Prop :=
  ∀ (A : Around) (env : Env) (P : Avd) (O : Nat → Option Addr) (vm : Str → Option Value) (s : Shared) (ρ : Rho) (out : Out) (ρ' : Rho), Room A J.k → FrV J.cx J.sc J.tab env P O vm s ρ → f ρ = some (out, ρ') →
    W J.cx.prog J.cx.w A (exec st env) (Post J env P O s out ρ') s
/-- a target -/
noncomputable def SA (J : Jd) (t : PySem.Expr) (g : D → Rho → Option Rho) : Prop :=
  ∀ (A : Around) (env : Env) (P : Avd) (O : Nat → Option Addr) (vm : Str → Option Value) (s : Shared) (ρ : Rho) (d : D) (v : Value) (ρ' : Rho), Room A J.k → FrV J.cx J.sc J.tab env P O vm s ρ → Rd J.cx s.heap (Av env P O) d v → g d ρ = some ρ' →
    W J.cx.prog J.cx.w A (assign t env v) (fun _ s' => ∃ O' vm', FrV J.cx J.sc J.tab env P O' vm' s' ρ' ∧ Tr env O s O' s') s

noncomputable def skS : Rho → Option (Out × Rho) := fun ρ => some (.next, ρ)
noncomputable def seqS (f g : Rho → Option (Out × Rho)) : Rho → Option (Out × Rho) := fun ρ => (f ρ).bind fun x => match x with | (.next, ρ') => g ρ' | (.ret d, ρ') => some (.ret d, ρ')
noncomputable def retS (f : Rho → Option D) : Rho → Option (Out × Rho) := fun ρ => (f ρ).map fun d => (.ret d, ρ)
noncomputable def setS (g : D → Rho → Option Rho) (f : Rho → Option D) : Rho → Option (Out × Rho) := fun ρ => (f ρ).bind fun d => (g d ρ).map fun ρ' => (.next, ρ')
noncomputable def ownS (i : Nat) (f : Rho → Option (List D)) : Rho → Option (Out × Rho) := fun ρ => (f ρ).map fun ds => (.next, ρ.set i (.own ds))
noncomputable def ifS (t : Rho → Option Bool) (f g : Rho → Option (Out × Rho)) : Rho → Option (Out × Rho) := fun ρ => (t ρ).bind fun b => if b then f ρ else g ρ
noncomputable def frzS (i : Nat) (g : Rho → Option (Out × Rho)) : Rho → Option (Out × Rho) := fun ρ => match ρ[i]? with | some (.own xs) => g (ρ.set i (.val (.list xs))) | _ => none
noncomputable def nameA (i : Nat) : D → Rho → Option Rho := fun d ρ => some (ρ.set i (.val d))
section
variable {J : Jd}
theorem ss_nil : SS J [] skS := fun A env P O vm s ρ out ρ' hA F h => by
  cases h
  exact W.pure ⟨rfl, O, vm, F, Tr.refl _ _ _⟩
theorem ss_cons {st : Stmt} {rest : List Stmt} {f g : Rho → Option (Out × Rho)} (h1 : S1 J st f) (h2 : SS J rest g) : SS J (st :: rest) (seqS f g) := fun A env P O vm s ρ out ρ' hA F h => by
  unfold seqS at h
  rw [Option.bind_eq_some_iff] at h
  obtain ⟨⟨o1, ρ1⟩, hf, h⟩ := h
  rw [execs_cons]
  refine W.bind (W.mono (h1 A env P O vm s ρ o1 ρ1 hA F hf) fun fl s₁ ⟨ok, O1, vm1, F1, T1⟩ => ?_)
  cases o1 with
  | next =>
    have : fl = .next := ok
    subst this
    exact W.mono (h2 A env P O1 vm1 s₁ ρ1 out ρ' hA F1 h) fun fl s₂ ⟨ok2, O2, vm2, F2, T2⟩ => ⟨ok2, O2, vm2, F2, T1.trans T2⟩
  | ret d =>
    cases h
    obtain ⟨v, rfl, r⟩ := ok
    exact W.pure ⟨⟨v, rfl, r⟩, O1, vm1, F1, T1⟩
theorem ss_freeze {st : List Stmt} {g : Rho → Option (Out × Rho)} {i : Nat} (h1 : SS J st g) : SS J st (frzS i g) := fun A env P O vm s ρ out ρ' hA F h => by
  unfold frzS at h
  split at h
  · rename_i xs hi
    refine W.mono (h1 A env P (off O i) vm s _ out ρ' hA (F.freeze hi) h) fun fl s₁ ⟨ok, O1, vm1, F1, T1⟩ => ⟨ok, O1, vm1, F1, ⟨T1.gens, T1.os, T1.size, fun a o hn e => T1.keep a o (fun m => hn (m.imp (fun ⟨j, hj⟩ => ⟨j, (off_some hj).2⟩) id)) e, fun j a e => (T1.own j a e).imp (fun ⟨k, hk⟩ => ⟨k, (off_some hk).2⟩) id⟩⟩
  · cases h

theorem s1_return {e : PySem.Expr} {pos : Pos} {f : Rho → Option D} (he : SE J e f) : S1 J (.Return (some e) pos) (retS f) := fun A env P O vm s ρ out ρ' hA F h => by
  unfold retS at h
  rw [Option.map_eq_some_iff] at h
  obtain ⟨d, hd, h⟩ := h
  cases h
  rw [exec_Return_some]
  exact W.bind (W.standAt (W.bind (W.mono (he A env P O vm s ρ d hA F hd) fun v s₁ ⟨X, r⟩ => W.pure ⟨⟨v, rfl, r.weak fun a ha => .inl ha⟩, O, vm, F.ext X, X.tr⟩)))

theorem sa_name {x : Str} {pos : Pos} {i : Nat} (ht : J.tab[i]? = some (some x) := by rfl) (hf : J.sc.names.lookup x ≠ some .free := by decide) : SA J (.Name x pos) (nameA i) := fun A env P O vm s ρ d v ρ' hA F r h => by
  cases h
  show W _ _ A (do standAt pos; bindName env x v) _ s
  refine W.bind (W.standAt ?_)
  unfold bindName
  exact W.bind (W.holding (W.point (W.bind (F.store ht (fun e => hf e) r fun s' F' T' => W.point ⟨_, _, F', T'⟩))))

noncomputable def notComp : PySem.Expr → Bool
  | .ListComp .. | .SetComp .. | .DictComp .. => false
  | _ => true
noncomputable def notTup : PySem.Expr → Bool
  | .Tuple .. => false
  | _ => true
noncomputable def notListT : PySem.Expr → Bool
  | .List .. => false
  | _ => true
theorem swaps_false {value : PySem.Expr} {t : Option PySem.Expr} {line : Nat} {env : Env} (h : notComp value = true) : swapsWith value t line env = pure false := by
  cases value <;> first | rfl | cases h

theorem assignEach_cons (env : Env) {t : PySem.Expr} {rest : List PySem.Expr} (h : isStarred t = false) : assignEach (t :: rest) env = (false, assign t env) :: assignEach rest env := by
  cases t <;> first | rfl | (cases h; done)
theorem s1_assign {t value : PySem.Expr} {pos : Pos} {f : Rho → Option D} {g : D → Rho → Option Rho} (ht : SA J t g) (hv : SE J value f) (hc : notComp value = true := by rfl) (hn : (notTup value || notTup t) = true := by rfl)
    (hst : isStarred t = false := by rfl) (hl : notListT t = true := by rfl) : S1 J (.Assign [t] value pos) (setS g f) := fun A env P O vm s ρ out ρ' hA F h => by
  unfold setS at h
  rw [Option.bind_eq_some_iff] at h
  obtain ⟨d, hd, h⟩ := h
  rw [Option.map_eq_some_iff] at h
  obtain ⟨ρ1, hg, h⟩ := h
  cases h
  have hsw : swappedStores [t] value env = pure none := by
    unfold swappedStores
    cases t <;> first | rfl | (cases hl; done) | skip
    all_goals (cases value <;> first | rfl | (cases hn; done))
  have hae : (assignEach [t] env).map (·.2) = [assign t env] := by rw [assignEach_cons env hst]; rfl
  show W _ _ A (do
    standAt pos
    if ← swapsWithSole [t] value pos.line env then do
      evalThenUse value env fun v => assignAll v ((assignEach [t] env).map (·.2))
      pure Flow.next
    else do
      let v ← eval value env
      assignStores env v (← swappedStores [t] value env) ((assignEach [t] env).map (·.2))) _ s
  rw [show swapsWithSole [t] value pos.line env = pure false from swaps_false hc, hsw, hae]
  refine W.bind (W.standAt (W.bind (W.pure ?_)))
  rw [if_neg Bool.false_ne_true]
  refine W.bind (W.mono (hv A env P O vm s ρ d hA F hd) fun v s₁ ⟨X, r⟩ => W.bind (W.pure ?_))
  show W _ _ A (do assignAll v [assign t env]; pure Flow.next) _ s₁
  refine W.bind (W.mono (ht A env P O vm s₁ ρ d v ρ' hA (F.ext X) r hg) fun _ s₂ ⟨O', vm', F', T'⟩ => W.pure ⟨rfl, O', vm', F', X.tr.trans T'⟩)

theorem s1_own {x : Str} {p pos : Pos} {value : PySem.Expr} {i : Nat} {f : Rho → Option (List D)} (hv : SEF J value f) (hc : notComp value = true := by rfl) (ht : J.tab[i]? = some (some x) := by rfl) (hf : J.sc.names.lookup x ≠ some .free := by decide) :
    S1 J (.Assign [.Name x p] value pos) (ownS i f) := fun A env P O vm s ρ out ρ' hA F h => by
  unfold ownS at h
  rw [Option.map_eq_some_iff] at h
  obtain ⟨ds, hds, h⟩ := h
  cases h
  rw [exec_Assign_Name env x p value pos (swaps_false hc)]
  refine W.bind (W.standAt (W.bind (W.mono (hv A env P O vm s ρ ds hA F hds) fun v s₁ ⟨X, a, vs, n, e1, e2, e3, e4, e5⟩ => W.bind (W.standAt ?_))))
  subst e1
  unfold bindName
  exact W.bind (W.bind (W.holding (W.point (W.bind (F.storeOwn X ht (fun e => hf e) e2 e3 e4 e5 fun s' F' T' => W.point (W.pure ⟨rfl, _, _, F', T'⟩))))))

theorem s1_if {t : PySem.Expr} {body orelse : List Stmt} {pos : Pos} {c : Rho → Option Bool} {f g : Rho → Option (Out × Rho)} (ht : ST J t c) (hb : SS J body f) (ho : SS J orelse g) : S1 J (.If t body orelse pos) (ifS c f g) := fun A env P O vm s ρ out ρ' hA F h => by
  unfold ifS at h
  rw [Option.bind_eq_some_iff] at h
  obtain ⟨b, hb', h⟩ := h
  rw [exec_If]
  refine W.bind (W.standAt (W.bind (W.mono (ht A env P O vm s ρ b hA F hb') fun x s₁ ⟨X, e⟩ => ?_)))
  subst e
  cases x with
  | true =>
    simp only [if_true] at h ⊢
    exact W.mono (hb A env P O vm s₁ ρ out ρ' hA (F.ext X) h) fun fl s₂ ⟨ok, O', vm', F', T'⟩ => ⟨ok, O', vm', F', X.tr.trans T'⟩
  | false =>
    simp only [Bool.false_eq_true, if_false] at h ⊢
    exact W.mono (ho A env P O vm s₁ ρ out ρ' hA (F.ext X) h) fun fl s₂ ⟨ok, O', vm', F', T'⟩ => ⟨ok, O', vm', F', X.tr.trans T'⟩

/-- a while, by a number of turns that is enough -/
noncomputable def whileS (t : Rho → Option Bool) (f : Rho → Option (Out × Rho)) : Nat → Rho → Option (Out × Rho)
  | 0, _ => none
  | n + 1, ρ => (t ρ).bind fun b => if b then (f ρ).bind fun x => (match x with | (.next, ρ') => whileS t f n ρ' | (.ret d, ρ') => some (.ret d, ρ')) else some (.next, ρ)
theorem s1_while {t : PySem.Expr} {body : List Stmt} {pos : Pos} {c : Rho → Option Bool} {f : Rho → Option (Out × Rho)} (n : Nat) (ht : ST J t c) (hb : SS J body f) : S1 J (.While t body [] pos) (whileS c f n) := fun A env P O vm s ρ out ρ' hA F h => by
  rw [exec_While]
  refine W.bind (W.standAt (W.runOwn ?_))
  refine C.whileLoop (R := Post J env P O s out ρ') (fun k s₁ => ∃ O₁ vm₁ ρ₁, FrV J.cx J.sc J.tab env P O₁ vm₁ s₁ ρ₁ ∧ Tr env O s O₁ s₁ ∧ whileS c f k ρ₁ = some (out, ρ')) ?_ n ⟨O, vm, ρ, F, Tr.refl _ _ _, h⟩
  rintro k s₁ ⟨O₁, vm₁, ρ₁, F₁, T₁, h₁⟩
  cases k with
  | zero => cases h₁
  | succ k =>
    rw [whileS, Option.bind_eq_some_iff] at h₁
    obtain ⟨b, hb', h₁⟩ := h₁
    refine W.mono (ht A env P O₁ vm₁ s₁ ρ₁ b hA F₁ hb') fun x s₂ ⟨X, e⟩ => ?_
    subst e
    cases x with
    | false =>
      simp only [Bool.false_eq_true, if_false] at h₁ ⊢
      cases h₁
      exact ⟨rfl, O₁, vm₁, F₁.ext X, T₁.trans X.tr⟩
    | true =>
      simp only [if_true] at h₁ ⊢
      rw [Option.bind_eq_some_iff] at h₁
      obtain ⟨⟨o2, ρ2⟩, hf, h₁⟩ := h₁
      refine W.mono (hb A env P O₁ vm₁ s₂ ρ₁ o2 ρ2 hA (F₁.ext X) hf) fun fl s₃ ⟨ok, O3, vm3, F3, T3⟩ => ?_
      cases o2 with
      | next =>
        have : fl = .next := ok
        subst this
        exact ⟨k, Nat.lt_succ_self _, O3, vm3, ρ2, F3, T₁.trans (X.tr.trans T3), h₁⟩
      | ret d =>
        cases h₁
        obtain ⟨v, rfl, r⟩ := ok
        exact ⟨⟨v, rfl, r⟩, O3, vm3, F3, T₁.trans (X.tr.trans T3)⟩
end
end Mine

end
section
open PySem PySem.W PySem.Calls PyProof.Rows
set_option Elab.async false
set_option maxRecDepth 100000
namespace Mine

theorem FrV.rdAllTr {cx : Cx} {sc : Scope} {tab : List (Option Str)} {env : Env} {P : Avd} {O O' : Nat → Option Addr} {vm : Str → Option Value} {s s' : Shared} {ρ : List Slot} (F : FrV cx sc tab env P O vm s ρ) (x : Tr env O s O' s') {d : List D} {v : List Value} (r : RdAll cx s.heap (Av env P O) d v) : RdAll cx s'.heap (Av env P O') d v :=
  RdAll.of_get r.length fun i d' v' e1 e2 => by
    obtain ⟨v'', e, q⟩ := r.get e1
    rw [e] at e2; cases e2
    exact F.rdTr x q

/-! targets of several names -/
section
variable {J : Jd}
end

/-! methods of built-in types -/
noncomputable def GetOk (name : Str) (id : String) (p : D → Bool) : Prop :=
  ∀ (cx : Cx) (A : Around) (V : Avd) (s : Shared) (d : D) (v : Value) (pl : Sem Bool) (Q : Value × List Value → Shared → Prop), p d = true → Rd cx s.heap V d v → Q (.builtin id, [v]) s → wpAny (model cx.prog cx.w) A (getMethod v name pl) Q (fun _ _ => False) s
noncomputable def isStrD : D → Bool | .str _ => true | _ => false
noncomputable def isMatD : D → Bool | .mat .. => true | _ => false
noncomputable def methE (p : D → Bool) (F : List D → Option D) (f : Rho → Option D) (g : Rho → Option (List D)) : Rho → Option D := fun ρ => (f ρ).bind fun a => (g ρ).bind fun as => if p a then F (a :: as) else none
theorem get_str {name : Str} {id : String} (slot : PySem.Slot "str" name id) (ty : typeOf (.builtin id) = pure (.type "method_descriptor")) : GetOk name id isStrD := fun cx A V s d v pl Q hp r h => by
  unfold isStrD at hp
  split at hp
  · rw [Rd] at r; obtain ⟨t, rfl, _⟩ := r
    exact GM.of _ (typeIs_str _ _ _) slot ty (fun _ e => nomatch e) h
  · cases hp

noncomputable def notSuperCall : PySem.Expr → Bool
  | .Call (.Name _ _) [] [] _ => false
  | _ => true
theorem attributeBase_plain {o : PySem.Expr} {name : Str} {env : Env} {whole : Sem Value} (h : notSuperCall o = true) : attributeBase o name env whole = whole := by
  unfold attributeBase
  split
  · cases h
  · rfl
section
variable {J : Jd}
theorem method_split {o : PySem.Expr} {name : Str} {apos pos : Pos} {es : List PySem.Expr} {env : Env} (ho : notSuperCall o = true) (hst : es.any isStarred = false) (hlen : es.length < 29) (hp : apos.endLine = pos.line) :
    eval (.Call (.Attribute o name apos) es [] pos) env = (do
      let ov ← eval o env
      standAt apos.atName
      let r ← holding [ov] (getMethod ov name (do return (← importBound o env).getD true))
      callWith pos r.1 r.2 (backTo pos (starEach es env)) []) := by
  have hb := backTo_plain pos env hst
  have hall : (backTo pos (starEach es env)).all (!·.1) = true := by
    have := hb.1
    rw [List.any_eq_false] at this
    rw [List.all_eq_true]
    intro x hx
    have := this x hx
    simpa using this
  have hf : methodCallForm (es.length + 0) (backTo pos (starEach es env)) [] = true := by
    unfold methodCallForm
    rw [hall]
    simp; omega
  have e1 : eval (.Call (.Attribute o name apos) es [] pos) env = (do
      let ov ← attributeBase o name env (eval o env)
      standAt apos.atName
      methodCall o name apos pos env ov (es.length + 0) (backTo pos (starEach es env)) []) := rfl
  rw [e1, attributeBase_plain ho]
  unfold methodCall
  simp only [hf, calleeOf, if_true, methodCallPos, Bool.not_true, Bool.false_or, hp, beq_self_eq_true, pure_bind]

theorem se_method {o : PySem.Expr} {name : Str} {id : String} {apos pos : Pos} {es : List PySem.Expr} {f : Rho → Option D} {g : Rho → Option (List D)} {p : D → Bool} {F : List D → Option D} {k : Nat} (hg : GetOk name id p) (hc : Con J.cx k (.builtin id) F) (ho : SE J o f) (hes : SEs J es g)
    (hk : k ≤ J.k := by decide) (hs : notSuperCall o = true := by rfl) (hst : es.any isStarred = false := by rfl) (hlen : es.length < 29 := by decide) (hp : apos.endLine = pos.line := by rfl) :
    SE J (.Call (.Attribute o name apos) es [] pos) (methE p F f g) := fun A env P O vm s ρ d hA Fr h => by
  unfold methE at h
  rw [Option.bind_eq_some_iff] at h
  obtain ⟨a, ha, h⟩ := h
  rw [Option.bind_eq_some_iff] at h
  obtain ⟨as, has, h⟩ := h
  split at h
  · rename_i hpa
    rw [method_split hs hst hlen hp]
    refine W.bind (W.mono (ho A env P O vm s ρ a hA Fr ha) fun v s₁ ⟨X1, r1⟩ => W.bind (W.standAt (W.bind (W.holding (W.of_any (hg J.cx A (Av env P O) s₁ a v _ _ hpa r1 ?_))))))
    have hb := backTo_plain pos env hst
    refine callWith_ok hb.1 (by rw [hb.2]; omega) (W.mono (hes A env P O vm s₁ ρ as pos hA (Fr.ext X1) has) fun vs s₂ ⟨X2, r2⟩ => ⟨.inr (by intro a e; cases e), ?_⟩)
    have X := X1.trans X2
    exact W.mono (hc A (Av env P O) s₂ (a :: as) (v :: vs) d (hA.le hk) (fun q hq => (Fr.ext X).avLt hq) (Fr.ext X).baseOf (RdAll.cons (r1.keep X2.keep) r2) h) fun v s₃ ⟨X3, r3⟩ => ⟨X.trans X3, r3⟩
  · cases h
end

/-! a def's own call -/
noncomputable def runF (n m : Nat) (g : Rho → Option (Out × Rho)) : List D → Option D := fun ds =>
  if ds.length = n then (g (ds.map .val ++ List.replicate m .unb)).map fun x => match x.1 with | .next => .none | .ret d => d else none

theorem bindL_get (kindOf : Str → Option NameKind) : ∀ (binds : List (Str × Value)) (m : Str → Option Value) (x : Str), kindOf x = some .local → bindL kindOf binds m x = (binds.reverse.lookup x).or (m x)
  | [], m, x, _ => by simp [bindL]
  | (n, v) :: r, m, x, hx => by
    rw [bindL, bindL_get kindOf r _ x hx, List.reverse_cons, List.lookup_append, Option.or_assoc]
    congr 1
    by_cases hn : x = n
    · subst hn; simp [hx, List.lookup_cons]
    · have hb : (x == n) = false := by simpa using hn
      split <;> simp [List.lookup_cons, hb, hn]
theorem bindC_get (kindOf : Str → Option NameKind) : ∀ (binds : List (Str × Value)) (m : Str → Option Value) (x : Str), kindOf x ≠ some .local → bindC kindOf binds m x = (binds.reverse.lookup x).or (m x)
  | [], m, x, _ => by simp [bindC]
  | (n, v) :: r, m, x, hx => by
    rw [bindC, bindC_get kindOf r _ x hx, List.reverse_cons, List.lookup_append, Option.or_assoc]
    congr 1
    by_cases hn : x = n
    · subst hn; simp [hx, List.lookup_cons]
    · have hb : (x == n) = false := by simpa using hn
      split <;> simp [List.lookup_cons, hb, hn]

theorem lookup_zip_rev {xs : List Str} {vs : List Value} (hn : xs.Nodup) (hl : vs.length = xs.length) {i : Nat} {x : Str} {v : Value} (hx : xs[i]? = some x) (hv : vs[i]? = some v) : ((xs.zip vs).reverse.lookup x) = some v := by
  induction xs generalizing vs i with
  | nil => simp at hx
  | cons y ys ih =>
    cases vs with
    | nil => simp at hl
    | cons u us =>
      rw [List.nodup_cons] at hn
      rw [List.zip_cons_cons, List.reverse_cons, List.lookup_append]
      cases i with
      | zero =>
        simp at hx hv
        subst hx hv
        have : (ys.zip us).reverse.lookup y = none := by
          rw [List.lookup_eq_none_iff]
          intro p hp
          rw [List.mem_reverse] at hp
          have := (List.of_mem_zip hp).1
          simpa using fun e : y = p.1 => hn.1 (e ▸ this)
        rw [this]; simp [List.lookup_cons]
      | succ i =>
        simp at hx hv
        rw [ih hn.2 (by simpa using hl) hx hv]; rfl

theorem C.call_function {prog : Program} {w : World} {A : Around} {s : Shared} {a : Addr} {args : Args} {o : Obj} {fd : FuncData} {body : List Stmt} {R : Flow → Shared → Prop} (hroom : A.depth < recursionLimit)
    (ho : s.heap.get? a = some o) (hd' : o.data = .func fd) (hco : fd.scope.isCoroutine = false) (hgen : fd.scope.isGenerator = false) (hbody : fd.body = .stmts body) (hcd : s.heap.CodeRec fd.code fd.qualname)
    (h : wpAny (model prog w) A.in1 (bindArgs fd args) (fun binds s₁ => wpAny (model prog w) A.in1 (newFunctionEnv fd.scope fd.globals fd.closure binds (fd.qualname ++ ".<locals>.") (some a) fd.code none fd.builtins)
        (fun env s₂ => s₂.heap.NoLimit ∧ C prog w A (.func body env) R s₂) (fun _ _ => False) s₁) (fun _ _ => False) s) : C prog w A (.call (.ref a) args) R s := by
  refine C.of_tree rfl rfl (W.of_any ?_)
  show wpAny _ A.in1 (callAny (.ref a) args) _ _ s
  simp only [callAny]
  refine wpAny_bind (wpAny_load ho ?_)
  obtain ⟨c, oc, vs, tq, hc, hoc, hdc, hq⟩ := hcd
  simp only [hd', callFunction, hco, hgen, hbody, hc]
  rw [hc] at h
  refine wpAny_bind (m := field (.ref c) 1) (wpAny_field hoc hdc hq (wpAny_bind (wpAny_pure ?_)))
  exact wpAny_bind (wpAny_mono h (fun binds s₁ h₁ => wpAny_bind (wpAny_mono h₁ (fun env s₂ h₂ => wpAny_bind (wpAny_enterFrame h₂.1 hroom
    (wpAny_pure (And.intro rfl h₂.2)))) fun _ _ h' => h')) fun _ _ h' => h')

theorem cellsFrom_mem : ∀ (names : List (Str × NameKind)) (n : Nat) (acc : List (Str × Addr)) (x : Str) (c : Addr), (x, c) ∈ cellsFrom n names acc → (x, c) ∈ acc ∨ (x, NameKind.cell) ∈ names
  | [], _, _, _, _, h => .inl h
  | (y, kd) :: r, n, acc, x, c, h => by
    unfold cellsFrom at h
    split at h
    · rename_i hk
      have hk' : kd = .cell := by simpa using hk
      rcases cellsFrom_mem r _ _ x c h with h | h
      · rcases List.mem_cons.mp h with e | h
        · cases e; subst hk'; exact .inr (List.mem_cons_self)
        · exact .inl h
      · exact .inr (List.mem_cons_of_mem _ h)
    · rcases cellsFrom_mem r _ _ x c h with h | h
      · exact .inl h
      · exact .inr (List.mem_cons_of_mem _ h)
theorem cellsFrom_acc : ∀ (names : List (Str × NameKind)) (n : Nat) (acc : List (Str × Addr)) (x : Str), (acc.lookup x).isSome = true → ((cellsFrom n names acc).lookup x).isSome = true
  | [], _, _, _, h => h
  | (y, kd) :: r, n, acc, x, h => by
    unfold cellsFrom
    split
    · refine cellsFrom_acc r _ _ x ?_
      rw [List.lookup_cons]
      split
      · rfl
      · exact h
    · exact cellsFrom_acc r _ _ x h
theorem cellsFrom_has : ∀ (names : List (Str × NameKind)) (n : Nat) (acc : List (Str × Addr)) (x : Str), (x, NameKind.cell) ∈ names → ((cellsFrom n names acc).lookup x).isSome = true
  | (y, kd) :: r, n, acc, x, h => by
    unfold cellsFrom
    rcases List.mem_cons.mp h with e | h
    · cases e
      rw [if_pos (by rfl)]
      exact cellsFrom_acc r _ _ y (by simp)
    · split
      · exact cellsFrom_has r _ _ x h
      · exact cellsFrom_has r _ _ x h
theorem lookup_of_mem {names : List (Str × NameKind)} (hn : (names.map (·.1)).Nodup) {x : Str} {kd : NameKind} (h : (x, kd) ∈ names) : names.lookup x = some kd := by
  induction names with
  | nil => cases h
  | cons p r ih =>
    obtain ⟨y, kd'⟩ := p
    rw [List.map_cons, List.nodup_cons] at hn
    rw [List.lookup_cons]
    rcases List.mem_cons.mp h with e | h
    · cases e; simp
    · have : x ≠ y := fun e => hn.1 (e ▸ List.mem_map.mpr ⟨_, h, rfl⟩)
      have hb : (x == y) = false := by simpa using this
      rw [hb]; exact ih hn.2 h

theorem con_def {cx : Cx} {k : Nat} {a : Addr} {o : Obj} {name : Str} {params : Arguments} {body : List Stmt} {scope : Scope} {pm cd doc : Value} {xs rest : List Str} {g : Rho → Option (Out × Rho)}
    (ho : cx.h₁.get? a = some o) (hd : o.data = .func (docDef name params body scope pm cd doc)) (hcd : cx.h₁.CodeRec cd name)
    (hbody : SS ⟨cx, scope, (xs ++ rest).map some, k⟩ body g)
    (hbind : ∀ vs : List Value, vs.length = xs.length → bindArgs (docDef name params body scope pm cd doc) ⟨vs, []⟩ = pure (xs.zip vs))
    (hnd : decide (xs ++ rest).Nodup = true := by decide) (hnames : decide (scope.names.map (·.1)).Nodup = true := by decide)
    (hknown : ((xs ++ rest).all fun x => scope.names.lookup x == some .local || scope.names.lookup x == some .cell) = true := by decide)
    (hco : scope.isCoroutine = false := by rfl) (hgen : scope.isGenerator = false := by rfl) (hk : scope.kind = .function := by rfl) : Con cx (k + 1) (.ref a) (runF xs.length rest.length g) := fun A V s ds vs r hA hV hbase' ra h => by
  have hbase := hbase'.2
  unfold runF at h
  split at h
  · rename_i hlen
    have hnd := of_decide_eq_true hnd
    have hnames := of_decide_eq_true hnames
    have hkn : ∀ x ∈ xs ++ rest, scope.names.lookup x = some .local ∨ scope.names.lookup x = some .cell := fun x hx => by
      have := List.all_eq_true.mp hknown x hx
      simpa using this
    have hlv : vs.length = xs.length := by rw [ra.length, hlen]
    rw [Option.map_eq_some_iff] at h
    obtain ⟨⟨out, ρ'⟩, hg, h⟩ := h
    refine W.call (C.call_function (by have := hA.2.1; omega) (hbase a o ho) hd hco hgen rfl (hcd.keeps hbase) ?_)
    rw [hbind vs hlv]
    have hmem : ∀ x, scope.names.lookup x = some .cell → (x, NameKind.cell) ∈ scope.names := fun x hx => mem_of_lookup hx
    refine wpAny_pure (wpAny_newFunctionEnv_cells hk (fun x hx => ?_) fun env he s' x => ?_)
    · have hx' : x.1 ∈ xs := (List.of_mem_zip hx).1
      rcases hkn x.1 (List.mem_append_left _ hx') with h1 | h1
      · exact .inl h1
      · exact .inr ⟨h1, cellsFrom_has _ _ _ _ (hmem _ h1)⟩
    refine ⟨(cx.lim.keeps hbase).keeps x.toInCall.keep, C.func ?_⟩
    obtain ⟨hh, tk, hs'⟩ := x.toInCall.same
    have hkeep := x.toInCall.keep
    have hEs : env.scope = scope := by rw [he]; rfl
    have hEl : env.locals = s.heap.objs.size := by rw [he]; rfl
    have hEc : env.cells = cellsFrom (s.heap.objs.size + 1) scope.names [] := by rw [he]; rfl
    have hEg : env.globals = mainGlobals := by rw [he]; rfl
    have hEb : env.builtins = builtinsNs := by rw [he]; rfl
    have hsz : s.heap.objs.size ≤ s'.heap.objs.size := by
      have h0 := x.toInCall.ns.lt
      rw [hEl] at h0; exact Nat.le_of_lt h0
    have X : Ext s s' := ⟨by rw [hs'], by rw [hs'], hsz, hkeep⟩
    have hkind : ∀ y, env.kindOf y = scope.names.lookup y := fun y => by show env.scope.names.lookup y = _; rw [hEs]
    have hge1 : cx.h₁.objs.size ≤ s.heap.objs.size := hbase'.1
    let vm : Str → Option Value := fun y => if scope.names.lookup y = some .local then bindL env.kindOf (xs.zip vs) (fun _ => none) y else bindC env.kindOf (xs.zip vs) (fun _ => none) y
    have hvm : ∀ y, vm y = (xs.zip vs).reverse.lookup y := fun y => by
      show (if scope.names.lookup y = some .local then _ else _) = _
      split
      · rename_i hy; rw [bindL_get _ _ _ _ (by rw [hkind]; exact hy)]; simp
      · rename_i hy; rw [bindC_get _ _ _ _ (by rw [hkind]; exact hy)]; simp
    have F : FrV cx scope ((xs ++ rest).map some) env V (fun _ => none) vm s' (ds.map .val ++ List.replicate rest.length .unb) := {
      scope := hEs, kind := hk, glob := hEg, blt := hEb
      base := fun b o' e => hkeep b o' (hbase b o' e)
      ns := ⟨_, x.toInCall.ns, fun y hy => by show _ = (if scope.names.lookup y = some .local then _ else _); rw [if_pos hy]⟩
      cell := fun y c hc => by
        have := x.cell y c hc
        have hy : scope.names.lookup y ≠ some .local := by
          have hm := mem_of_lookup hc
          rw [hEc] at hm
          rcases cellsFrom_mem _ _ _ _ _ hm with h' | h'
          · cases h'
          · rw [lookup_of_mem hnames h']; intro e; cases e
        show s'.heap.IsCell c (if scope.names.lookup y = some .local then _ else _)
        rw [if_neg hy]; exact this
      apart := x.apart
      fresh := fun b hb => by
        rcases hb with ⟨j, hj⟩ | hb | ⟨y, hy⟩
        · cases hj
        · subst hb; exact ⟨by rw [hEl]; exact hge1, x.toInCall.ns.lt⟩
        · have h0 := x.above y b (mem_of_lookup hy)
          exact ⟨by rw [hEl] at h0; exact Nat.le_trans hge1 (Nat.le_of_lt h0), (x.cell y b hy).lt⟩
      nsCell := fun y hy => Nat.lt_irrefl _ (x.above y _ (mem_of_lookup hy))
      av := fun b hb => Nat.lt_of_lt_of_le (hV b hb) hsz
      len := by simp [hlen]
      tabInj := fun i j y h1 h2 => by
        rw [List.getElem?_map, Option.map_eq_some_iff] at h1 h2
        obtain ⟨y1, h1, e1⟩ := h1
        obtain ⟨y2, h2, e2⟩ := h2
        cases e1; cases e2
        have hi : i < (xs ++ rest).length := by
          rcases Nat.lt_or_ge i (xs ++ rest).length with h' | h'
          · exact h'
          · rw [List.getElem?_eq_none h'] at h1; cases h1
        exact (List.getElem?_inj hi hnd).mp (h1.trans h2.symm)
      cellNL := fun y c hc => by
        have hm := mem_of_lookup hc
        rw [hEc] at hm
        rcases cellsFrom_mem _ _ _ _ _ hm with h' | h'
        · cases h'
        · rw [lookup_of_mem hnames h']; intro e; cases e
      known := fun i y h1 => by
        rw [List.getElem?_map, Option.map_eq_some_iff] at h1
        obtain ⟨y1, h1, e1⟩ := h1
        cases e1
        rcases hkn y (List.mem_of_getElem? h1) with h' | h'
        · exact .inl h'
        · exact .inr ⟨.inl h', by rw [hEc]; exact cellsFrom_has _ _ _ _ (hmem _ h')⟩
      slots := fun i y sl h1 h2 => by
        rw [List.getElem?_map, Option.map_eq_some_iff] at h1
        obtain ⟨y1, h1, e1⟩ := h1
        cases e1
        rcases Nat.lt_or_ge i xs.length with hi | hi
        · rw [List.getElem?_append_left hi] at h1
          rw [List.getElem?_append_left (by simpa [hlen] using hi), List.getElem?_map, Option.map_eq_some_iff] at h2
          obtain ⟨d', h2, e2⟩ := h2
          subst e2
          obtain ⟨v', hv', q⟩ := ra.get h2
          refine ⟨v', by rw [hvm]; exact lookup_zip_rev (List.nodup_append.mp hnd).1 hlv h1 hv', ?_⟩
          refine q.mono (fun b o' _ e => hkeep b o' e) fun b hb => ?_
          rcases hb with hb | ⟨j, hj⟩ | hb | ⟨z, hz⟩
          · exact .inl hb
          · cases hj
          · exact .inr (get_none (by rw [hb, hEl]; exact Nat.le_refl _))
          · exact .inr (get_none (by have h0 := x.above z b (mem_of_lookup hz); rw [hEl] at h0; exact Nat.le_of_lt h0))
        · rw [List.getElem?_append_right (by simpa [hlen] using hi)] at h2
          have := List.mem_of_getElem? h2
          rw [List.mem_replicate] at this
          rw [this.2]; trivial
      ownInj := fun i j b h1 _ => by cases h1
      ownSlot := fun i b h1 => by cases h1
      ownApart := fun i b h1 => by cases h1
      ownNP := fun i b h1 => by cases h1 }
    have hA' : Room (A.deeper env) k := ⟨hA.1, by show A.depth + 1 + k < _; have := hA.2.1; omega, by show A.units + 3 + 8 * k + 200 < _; have := hA.2.2; omega⟩
    refine W.mono (hbody (A.deeper env) env V (fun _ => none) vm s' _ out ρ' hA' F hg) fun fl s₂ ⟨ok, O2, vm2, F2, T2⟩ => ?_
    have X2 : Ext s s₂ := ⟨T2.gens.trans X.gens, T2.os.trans X.os, Nat.le_trans X.size T2.size, fun b o' e => T2.keep b o' (fun hm => by
      have hb := Heap.lt_size e
      rcases hm with ⟨j, hj⟩ | hm | ⟨z, hz⟩
      · cases hj
      · rw [hm, hEl] at hb; exact Nat.lt_irrefl _ hb
      · have h0 := x.above z b (mem_of_lookup hz); rw [hEl] at h0; exact Nat.lt_irrefl _ (Nat.lt_trans hb h0)) (hkeep b o' e)⟩
    cases out with
    | next =>
      have : fl = .next := ok
      subst this
      cases h
      exact ⟨_, rfl, X2, by rw [Rd]⟩
    | ret d =>
      obtain ⟨v, rfl, q⟩ := ok
      cases h
      exact ⟨v, rfl, X2, q⟩
  · cases h
end Mine

end
section
open PySem PySem.W PySem.Calls PyProof.Rows
set_option Elab.async false
set_option maxRecDepth 100000
namespace Mine

/-- of what stood only the objects of wr are changed -/
structure Chg (wr : List Addr) (s s' : Shared) : Prop where
  gens : s'.gens = s.gens
  os : s'.os = s.os
  size : s.heap.objs.size ≤ s'.heap.objs.size
  keep : ∀ a o, a ∉ wr → s.heap.get? a = some o → s'.heap.get? a = some o
theorem FrV.chg {cx : Cx} {sc : Scope} {tab : List (Option Str)} {env : Env} {P : Avd} {O : Nat → Option Addr} {vm : Str → Option Value} {s s' : Shared} {ρ : List Slot} {wr : List Addr} (F : FrV cx sc tab env P O vm s ρ) (x : Chg wr s s')
    (hP : ∀ b ∈ wr, P b) (hb : ∀ b ∈ wr, cx.h₁.objs.size ≤ b) (hm : ∀ b ∈ wr, ¬ muts env O b) : FrV cx sc tab env P O vm s' ρ := by
  have hk : ∀ a o, ¬ Av env P O a → s.heap.get? a = some o → s'.heap.get? a = some o := fun a o hn e => x.keep a o (fun hw => hn (.inl (hP a hw))) e
  exact {
    scope := F.scope, kind := F.kind, glob := F.glob, blt := F.blt
    base := fun a o e => x.keep a o (fun hw => Nat.lt_irrefl _ (Nat.lt_of_lt_of_le (Heap.lt_size e) (hb a hw))) (F.base a o e)
    ns := let ⟨m, h1, h2⟩ := F.ns; ⟨m, h1.at' fun o e => x.keep _ o (fun hw => hm _ hw (.inr (.inl rfl))) e, h2⟩
    cell := fun y c e => let ⟨o, h1, h2⟩ := F.cell y c e; ⟨o, x.keep c o (fun hw => hm _ hw (.inr (.inr ⟨y, e⟩))) h1, h2⟩
    apart := F.apart
    fresh := fun a m => ⟨(F.fresh a m).1, Nat.lt_of_lt_of_le (F.fresh a m).2 x.size⟩
    nsCell := F.nsCell
    av := fun a h => Nat.lt_of_lt_of_le (F.av a h) x.size
    len := F.len, tabInj := F.tabInj, cellNL := F.cellNL, known := F.known
    slots := fun i y sl h1 h2 => slot_tr (F.slots i y sl h1 h2) hk (fun _ h => .inl h) rfl fun a o e e' => x.keep a o (fun hw => hm a hw (.inl ⟨i, e⟩)) e'
    ownInj := F.ownInj, ownSlot := F.ownSlot, ownApart := F.ownApart, ownNP := F.ownNP }

/-- an iterator that will give these data, one after the other; wr: what its steps change; N: the heap's size where it was made; U: what others may change -/
structure Wk (cx : Cx) (A : Around) (tgt : PySem.Expr) (I : Addr) (wr : List Addr) (N : Nat) (ds : List D) (U : Avd) (St : Nat → Heap → Prop) : Prop where
  frame : ∀ i h h', St i h → (∀ a o, ¬ U a → a < N → h.get? a = some o → h'.get? a = some o) → St i h'
  item : ∀ (i : Nat) (d : D) (s : Shared) (V : Avd) (Q : Value → Shared → Prop), ds[i]? = some d → St i s.heap → Base cx s.heap → (∀ a, V a → (U a ∨ a ∈ wr ∨ N ≤ a) ∧ a < s.heap.objs.size) →
    (∀ v s', Chg wr s s' → Rd cx s'.heap V d v → St (i + 1) s'.heap → Q v s') →
    W cx.prog cx.w A (pyNext (.ref I)) (fun r s₁ => ∃ v, r = some v ∧ W cx.prog cx.w A (letOwnedTupleGo tgt (.ref I) v) (fun _ s₂ => Q v s₂) s₁) s
  done : ∀ (s : Shared) (Q : Shared → Prop), St ds.length s.heap → Base cx s.heap → (∀ s', Chg wr s s' → Q s') → W cx.prog cx.w A (pyNext (.ref I)) (fun r s' => r = none ∧ Q s') s
  self : ∀ (i : Nat) (s : Shared), St i s.heap → W cx.prog cx.w A (pyIter (.ref I)) (fun v s' => v = .ref I ∧ s' = s) s

/-- the expression, iterated -/
noncomputable def SI (J : Jd) (tgt e : PySem.Expr) (f : Rho → Option (List D)) : Prop :=
  ∀ (A : Around) (env : Env) (P : Avd) (O : Nat → Option Addr) (vm : Str → Option Value) (s : Shared) (ρ : Rho) (ds : List D), Room A J.k → FrV J.cx J.sc J.tab env P O vm s ρ → f ρ = some ds →
    W J.cx.prog J.cx.w A (eval e env) (fun x s₁ => foldedSetIterable e env x = pure x ∧ W J.cx.prog J.cx.w A (pyIter x) (fun it s₂ => Ext s s₂ ∧ ds.length ≤ sizeLine ∧ ∃ I wr St, it = .ref I ∧
      Wk J.cx A tgt I wr s₂.heap.objs.size ds (Av env P O) St ∧ St 0 s₂.heap ∧ (∀ b ∈ wr, s.heap.objs.size ≤ b ∧ b < s₂.heap.objs.size)) s₁) s

noncomputable def loopS (g : D → Rho → Option Rho) (b : Rho → Option (Out × Rho)) : List D → Rho → Option (Out × Rho)
  | [], ρ => some (.next, ρ)
  | d :: ds, ρ => (g d ρ).bind fun ρ1 => (b ρ1).bind fun x => match x with | (.next, ρ2) => loopS g b ds ρ2 | (.ret r, ρ2) => some (.ret r, ρ2)
noncomputable def forS (f : Rho → Option (List D)) (g : D → Rho → Option Rho) (b : Rho → Option (Out × Rho)) : Rho → Option (Out × Rho) := fun ρ => (f ρ).bind fun ds => loopS g b ds ρ

section
variable {J : Jd}
theorem s1_for {tgt iter : PySem.Expr} {body : List Stmt} {pos : Pos} {f : Rho → Option (List D)} {g : D → Rho → Option Rho} {b : Rho → Option (Out × Rho)} (hi : SI J tgt iter f) (ht : SA J tgt g) (hb : SS J body b) : S1 J (.For tgt iter body [] pos) (forS f g b) := fun A env P O vm s ρ out ρ' hA F h => by
  unfold forS at h
  rw [Option.bind_eq_some_iff] at h
  obtain ⟨ds, hds, h⟩ := h
  show W _ _ A (do
    standAt pos
    let x ← foldedSetIterable iter env (← eval iter env)
    standAt iter.pos
    runOwn (.forLoop tgt (← holding [x] (pyIter x)) body [] env) env) _ s
  refine W.bind (W.standAt (W.bind (W.mono (hi A env P O vm s ρ ds hA F hds) fun x s₁ ⟨hfold, h₁⟩ => ?_)))
  rw [hfold]
  refine W.bind (W.pure (W.bind (W.standAt (W.bind (W.holding (W.mono h₁ fun it s₂ ⟨X, _, I, wr, St, e, wk, st0, hwr'⟩ => ?_))))))
  subst e
  refine W.runOwn ?_
  have hwr : ∀ b ∈ wr, s.heap.objs.size ≤ b := fun b hb => (hwr' b hb).1
  have hwr2 : ∀ b ∈ wr, b < s₂.heap.objs.size := fun b hb => (hwr' b hb).2
  have hbase : J.cx.h₁.objs.size ≤ s.heap.objs.size := F.baseOf.1
  have F2 : FrV J.cx J.sc J.tab env (fun b => P b ∨ b ∈ wr) O vm s₂ ρ := F.moreP X fun a ha => ha.imp id fun hw => ⟨hwr a hw, hwr2 a hw⟩
  -- what stays of the start through all turns
  refine C.forLoop (R := Post J env P O s out ρ') (fun k s₃ => ∃ O₁ vm₁ ρ₁ i, FrV J.cx J.sc J.tab env (fun b => P b ∨ b ∈ wr) O₁ vm₁ s₃ ρ₁ ∧ Tr env O s O₁ s₃ ∧ s₂.heap.objs.size ≤ s₃.heap.objs.size ∧
      (∀ j a, O₁ j = some a → (∃ l, O l = some a) ∨ s₂.heap.objs.size ≤ a) ∧ St i s₃.heap ∧ i ≤ ds.length ∧ k = ds.length - i ∧ loopS g b (ds.drop i) ρ₁ = some (out, ρ')) ?_ ds.length
    ⟨O, vm, ρ, 0, F2, X.tr, Nat.le_refl _, fun j a e => .inl ⟨j, e⟩, st0, Nat.zero_le _, rfl, h⟩
  rintro k s₃ ⟨O₁, vm₁, ρ₁, i, F₁, T₁, hsz, hown, st, hle, rfl, h₃⟩
  have hnm : ∀ b ∈ wr, ¬ muts env O₁ b := fun b hb hm => by
    rcases hm with ⟨j, hj⟩ | hm
    · rcases hown j b hj with ⟨l, hl⟩ | hge
      · exact Nat.lt_irrefl _ (Nat.lt_of_lt_of_le (F.fresh b (.inl ⟨l, hl⟩)).2 (hwr b hb))
      · exact Nat.lt_irrefl _ (Nat.lt_of_lt_of_le (hwr2 b hb) hge)
    · exact Nat.lt_irrefl _ (Nat.lt_of_lt_of_le (F.fresh b (.inr hm)).2 (hwr b hb))
  have hb1 : ∀ b ∈ wr, J.cx.h₁.objs.size ≤ b := fun b hb => Nat.le_trans hbase (hwr b hb)
  have hnfp : ∀ b, ¬ Av env P O b → b < s₂.heap.objs.size → ¬ muts env O₁ b := fun b hn hlt hm => by
    rcases hm with ⟨j, hj⟩ | hm
    · rcases hown j b hj with ⟨l, hl⟩ | hge
      · exact hn (.inr (.inl ⟨l, hl⟩))
      · exact Nat.lt_irrefl _ (Nat.lt_of_lt_of_le hlt hge)
    · exact hn (.inr (.inr hm))
  have chgTr : ∀ s₄, Chg wr s₃ s₄ → Tr env O s O₁ s₄ := fun s₄ x => ⟨x.gens.trans T₁.gens, x.os.trans T₁.os, Nat.le_trans T₁.size x.size, fun a o hn e => x.keep a o (fun hw => Nat.lt_irrefl _ (Nat.lt_of_lt_of_le (Heap.lt_size e) (hwr a hw))) (T₁.keep a o hn e), T₁.own⟩
  rcases Nat.lt_or_ge i ds.length with hlt | hge
  · have hd : ds[i]? = some ds[i] := List.getElem?_eq_getElem hlt
    have hdrop : ds.drop i = ds[i] :: ds.drop (i + 1) := List.drop_eq_getElem_cons hlt
    rw [hdrop, loopS, Option.bind_eq_some_iff] at h₃
    obtain ⟨ρ4, hg4, h₃⟩ := h₃
    rw [Option.bind_eq_some_iff] at h₃
    obtain ⟨⟨o5, ρ5⟩, hb5, h₃⟩ := h₃
    refine W.mono (wk.item i ds[i] s₃ (Av env (fun b => P b ∨ b ∈ wr) O₁) (fun v s₄ => W J.cx.prog J.cx.w A (assign tgt env v) _ s₄) hd st F₁.baseOf (fun a ha => ⟨?_, F₁.avLt ha⟩) fun v s₄ x r st' => ?_) fun r s₄ hr => by obtain ⟨v, e, h₄⟩ := hr; subst e; exact h₄
    · rcases ha with (ha | ha) | ⟨j, hj⟩ | ha
      · exact .inl (.inl ha)
      · exact .inr (.inl ha)
      · rcases hown j a hj with ⟨l, hl⟩ | hge
        · exact .inl (.inr (.inl ⟨l, hl⟩))
        · exact .inr (.inr hge)
      · exact .inl (.inr (.inr ha))
    have F4 := F₁.chg x (fun b hb => .inr hb) hb1 hnm
    refine W.mono (ht A env _ O₁ vm₁ s₄ ρ₁ ds[i] v ρ4 hA F4 r hg4) fun _ s₅ ⟨O5, vm5, F5, T5⟩ => ?_
    refine W.mono (hb A env _ O5 vm5 s₅ ρ4 o5 ρ5 hA F5 hb5) fun fl s₆ ⟨ok, O6, vm6, F6, T6⟩ => ?_
    have T56 := T5.trans T6
    have T := (chgTr s₄ x).trans T56
    cases o5 with
    | next =>
      have : fl = .next := ok
      subst this
      refine ⟨ds.length - (i + 1), by omega, O6, vm6, ρ5, i + 1, F6, T, Nat.le_trans hsz (Nat.le_trans x.size T56.size), fun j a e => ?_, wk.frame _ _ _ st' fun b o hn hlt e => T56.keep b o (hnfp b hn hlt) e, hlt, rfl, h₃⟩
      rcases T56.own j a e with ⟨l, hl⟩ | hge
      · exact hown l a hl
      · exact .inr (Nat.le_trans hsz (Nat.le_trans x.size hge))
    | ret d =>
      cases h₃
      obtain ⟨v', rfl, r'⟩ := ok
      exact ⟨⟨v', rfl, r'.weak fun a ha => .inl ha⟩, O6, vm6, F6.lessP fun a ha => .inl ha, T⟩
  · have hi : i = ds.length := by omega
    subst hi
    rw [List.drop_length, loopS] at h₃
    cases h₃
    refine W.mono (wk.done s₃ (fun s₄ => Post J env P O s .next _ .next s₄) st F₁.baseOf fun s₄ x => ⟨rfl, O₁, vm₁, (F₁.chg x (fun b hb => .inr hb) hb1 hnm).lessP fun a ha => .inl ha, chgTr s₄ x⟩) fun r s₄ ⟨e, h₄⟩ => by subst e; exact h₄
end
end Mine

end
section
open PySem PySem.W PySem.Calls PyProof.Rows
set_option Elab.async false
set_option maxRecDepth 100000
namespace Mine

noncomputable abbrev noO : Nat → Option Addr := fun _ => none

/-! a comprehension's tests -/
noncomputable def tests (ifs : List PySem.Expr) (env : Env) : Sem Bool :=
  forIn ifs true fun c r => if r = true then do let ok ← isTrue c env (eval c env); pure (ForInStep.yield ok) else pure (ForInStep.yield r)
noncomputable def TsOk (J : Jd) (ifs : List PySem.Expr) (t : Rho → Option Bool) : Prop :=
  ∀ (A : Around) (env : Env) (P : Avd) (O : Nat → Option Addr) (vm : Str → Option Value) (s : Shared) (ρ : Rho) (b : Bool), Room A J.k → FrV J.cx J.sc J.tab env P O vm s ρ → t ρ = some b →
    W J.cx.prog J.cx.w A (tests ifs env) (fun v s' => Ext s s' ∧ v = b) s
noncomputable def tt : Rho → Option Bool := fun _ => some true
theorem ts_nil {J : Jd} : TsOk J [] tt := fun A env P O vm s ρ b hA F h => by cases h; exact W.pure ⟨Ext.refl _, rfl⟩
noncomputable def mutsL (env : Env) (O : Nat → Option Addr) : Avd := fun a => (∃ j, O j = some a) ∨ a = env.locals
theorem mutsL.m {env : Env} {O : Nat → Option Addr} {a : Addr} (h : mutsL env O a) : muts env O a := h.imp id .inl
/-! what a turn lays into the new list -/
structure CTr (env : Env) (O : Nat → Option Addr) (L : List Addr) (s : Shared) (O' : Nat → Option Addr) (s' : Shared) : Prop where
  gens : s'.gens = s.gens
  os : s'.os = s.os
  size : s.heap.objs.size ≤ s'.heap.objs.size
  keep : ∀ b o, b ∉ L → ¬ mutsL env O b → s.heap.get? b = some o → s'.heap.get? b = some o
  own : ∀ j a, O' j = some a → (∃ i, O i = some a) ∨ s.heap.objs.size ≤ a
theorem CTr.trans {env : Env} {L : List Addr} {O O' O'' : Nat → Option Addr} {s s' s'' : Shared} (x : CTr env O L s O' s') (y : CTr env O' L s' O'' s'') : CTr env O L s O'' s'' where
  gens := y.gens.trans x.gens
  os := y.os.trans x.os
  size := Nat.le_trans x.size y.size
  keep := fun a o hL hn e => y.keep a o hL (fun m => by
    rcases m with ⟨j, hj⟩ | m
    · rcases x.own j a hj with ⟨i, hi⟩ | hge
      · exact hn (.inl ⟨i, hi⟩)
      · exact absurd (Heap.lt_size e) (Nat.not_lt.mpr hge)
    · exact hn (.inr m)) (x.keep a o hL hn e)
  own := fun j a hj => by
    rcases y.own j a hj with ⟨i, hi⟩ | hge
    · exact x.own i a hi
    · exact .inr (Nat.le_trans x.size hge)
theorem CTr.sub {env : Env} {L L' : List Addr} {O O' : Nat → Option Addr} {s s' : Shared} (x : CTr env O L s O' s') (h : ∀ a ∈ L, a < s.heap.objs.size → a ∈ L') : CTr env O L' s O' s' :=
  ⟨x.gens, x.os, x.size, fun b o hb hn e => x.keep b o (fun hm => hb (h b hm (Heap.lt_size e))) hn e, x.own⟩
theorem CTr.tr {env : Env} {O O' : Nat → Option Addr} {s s' : Shared} (x : CTr env O [] s O' s') : Tr env O s O' s' := ⟨x.gens, x.os, x.size, fun b o hn e => x.keep b o (fun h => nomatch h) (fun h => hn h.m) e, x.own⟩
theorem Ext.c {env : Env} {L : List Addr} {O : Nat → Option Addr} {s s' : Shared} (x : Ext s s') : CTr env O L s O s' := ⟨x.gens, x.os, x.size, fun b o _ _ e => x.keep b o e, fun j _ e => .inl ⟨j, e⟩⟩
/-- a target of local names -/
noncomputable def SAL (J : Jd) (t : PySem.Expr) (g : D → Rho → Option Rho) : Prop :=
  ∀ (A : Around) (env : Env) (P : Avd) (O : Nat → Option Addr) (vm : Str → Option Value) (s : Shared) (ρ : Rho) (d : D) (v : Value) (ρ' : Rho), Room A J.k → FrV J.cx J.sc J.tab env P O vm s ρ → Rd J.cx s.heap (Av env P O) d v → g d ρ = some ρ' →
    W J.cx.prog J.cx.w A (assign t env v) (fun _ s' => ∃ O' vm', FrV J.cx J.sc J.tab env P O' vm' s' ρ' ∧ CTr env O [] s O' s') s
theorem FrV.storeL {cx : Cx} {sc : Scope} {tab : List (Option Str)} {env : Env} {P : Avd} {O : Nat → Option Addr} {vm : Str → Option Value} {s : Shared} {ρ : List Slot} {prog : Program} {w : World} {A : Around} (F : FrV cx sc tab env P O vm s ρ) {i : Nat} {x : Str} {v : Value} {d : D} {Q : Unit → Shared → Prop} (ht : tab[i]? = some (some x)) (hl : sc.names.lookup x = some .local)
    (r : Rd cx s.heap (Av env P O) d v)
    (hQ : ∀ s', FrV cx sc tab env P (off O i) (upd vm x v) s' (ρ.set i (.val d)) → CTr env O [] s (off O i) s' → Q () s') : W prog w A (storeName env x v) Q s := by
  have hkd : env.scope.kind = .function := by rw [F.scope]; exact F.kind
  obtain ⟨m, hn, hm⟩ := F.ns
  refine W.of_any (wpAny_storeName_local (by show env.scope.names.lookup x = _; rw [F.scope]; exact hl) hn (fun h' hn' hs' => ?_) (by rw [hkd]; rfl))
  have hsz := hs'.1
  have hkk : ∀ a o, a ≠ env.locals → s.heap.get? a = some o → h'.get? a = some o := fun a o ha e => hs'.extBut a o ha e
  have hk : ∀ a o, a ≠ env.locals → (∀ y, env.cells.lookup y ≠ some a) → s.heap.get? a = some o → h'.get? a = some o := fun a o ha _ e => hkk a o ha e
  have hns : ∃ m, h'.Ns env.locals m ∧ ∀ y, sc.names.lookup y = some .local → m y = upd vm x v y := ⟨_, hn', fun y hy => by
    unfold upd
    split
    · rfl
    · exact hm y hy⟩
  have hcell : ∀ y c, env.cells.lookup y = some c → h'.IsCell c (upd vm x v y) := fun y c hc => by
    have hne : y ≠ x := fun e => by
      subst e
      exact F.cellNL y c hc hl
    have : upd vm x v y = vm y := by unfold upd; rw [if_neg hne]
    rw [this]
    exact (F.cell y c hc).sameBut hs' fun e => F.nsCell y (e ▸ hc)
  have hA : ∀ a, Av env P (off O i) a → Av env P O a := fun a h => h.imp id fun m => m.imp (fun ⟨j, hj⟩ => ⟨j, (off_some hj).2⟩) id
  have hk' : ∀ a o, ¬ Av env P O a → s.heap.get? a = some o → h'.get? a = some o := fun a o hn e => hk a o (fun e' => hn (.inr (.inr (.inl e')))) (fun y e' => hn (.inr (.inr (.inr ⟨y, e'⟩)))) e
  refine hQ _ (F.put (s' := { s with heap := h', toks := s.toks + 1 }) ht hsz hk hns hcell (fun j hj => by unfold off; rw [if_neg hj]) (fun a h => absurd rfl (off_some h).1) (fun j y sl hj h1 h2 => ?_) ⟨v, rfl, r.mono hk' fun a h => .inl (hA a h)⟩) ?_
  · exact slot_tr (F.slots j y sl h1 h2) hk' (fun a h => .inl (hA a h)) (by unfold off; rw [if_neg hj]) fun a o e e' => hk a o (F.ownApart j a e).1 (F.ownApart j a e).2 e'
  · exact ⟨rfl, rfl, Nat.le_of_eq hsz.symm, fun a o _ hn e => hkk a o (fun e' => hn (.inr e')) e, fun j a h => .inl ⟨j, (off_some h).2⟩⟩
theorem sal_name {J : Jd} {x : Str} {pos : Pos} {i : Nat} (ht : J.tab[i]? = some (some x) := by rfl) (hl : J.sc.names.lookup x = some .local := by rfl) : SAL J (.Name x pos) (nameA i) := fun A env P O vm s ρ d v ρ' hA F r h => by
  cases h
  show W _ _ A (do standAt pos; bindName env x v) _ s
  refine W.bind (W.standAt ?_)
  unfold bindName
  exact W.bind (W.holding (W.point (W.bind (F.storeL ht hl r fun s' F' T' => W.point ⟨_, _, F', T'⟩))))
theorem Chg.c {env : Env} {L : List Addr} {O : Nat → Option Addr} {s s' : Shared} (x : Chg L s s') : CTr env O L s O s' := ⟨x.gens, x.os, x.size, fun b o hb _ e => x.keep b o hb e, fun j _ e => .inl ⟨j, e⟩⟩

/-- the new list, so far -/
structure Acc (cx : Cx) (env : Env) (P : Avd) (O : Nat → Option Addr) (a : Addr) (zs : List D) (s : Shared) : Prop where
  obj : ∃ vs n, s.heap.get? a = some { cls := .type "list", data := .seq vs n } ∧ RdAll cx s.heap (Av env P O) zs vs.toList
  inP : P a
  above : cx.h₁.objs.size ≤ a
  nm : a ≠ env.locals ∧ ∀ x, env.cells.lookup x ≠ some a

section
variable {cx : Cx} {sc : Scope} {tab : List (Option Str)} {env : Env} {P : Avd} {O O' : Nat → Option Addr} {vm : Str → Option Value} {s s' : Shared} {ρ : List Slot} {a : Addr} {zs : List D}
theorem Acc.notMut (x : Acc cx env P O a zs s) (F : FrV cx sc tab env P O vm s ρ) : ¬ muts env O a := fun m => by
  rcases m with ⟨j, hj⟩ | m | ⟨y, hy⟩
  · exact F.ownNP j a hj x.inP
  · exact x.nm.1 m
  · exact x.nm.2 y hy
theorem Acc.ext (x : Acc cx env P O a zs s) (X : Ext s s') : Acc cx env P O a zs s' :=
  let ⟨vs, n, h1, h2⟩ := x.obj
  ⟨⟨vs, n, X.keep _ _ h1, h2.keep X.keep⟩, x.inP, x.above, x.nm⟩
theorem Acc.tr (x : Acc cx env P O a zs s) (F : FrV cx sc tab env P O vm s ρ) (T : Tr env O s O' s') : Acc cx env P O' a zs s' :=
  let ⟨vs, n, h1, h2⟩ := x.obj
  ⟨⟨vs, n, T.keep _ _ (x.notMut F) h1, F.rdAllTr T h2⟩, x.inP, x.above, x.nm⟩
theorem Acc.chg {wr : List Addr} (x : Acc cx env P O a zs s) (X : Chg wr s s') (hP : ∀ b ∈ wr, P b) (ha : a ∉ wr) : Acc cx env P O a zs s' :=
  let ⟨vs, n, h1, h2⟩ := x.obj
  ⟨⟨vs, n, X.keep _ _ ha h1, h2.mono (fun b o hn e => X.keep b o (fun hw => hn (.inl (hP b hw))) e) fun _ h => .inl h⟩, x.inP, x.above, x.nm⟩
theorem Acc.length (x : Acc cx env P O a zs s) : ∃ vs n, s.heap.get? a = some { cls := .type "list", data := .seq vs n } ∧ RdAll cx s.heap (Av env P O) zs vs.toList ∧ vs.size = zs.length := by
  obtain ⟨vs, n, h1, h2⟩ := x.obj
  exact ⟨vs, n, h1, h2, by rw [← Array.length_toList, h2.length]⟩
end

noncomputable def EmOk (J : Jd) (tree : Value → Env → Sem Unit) (em : Rho → Option (List D × Rho)) : Prop :=
  ∀ (A : Around) (env : Env) (P : Avd) (O : Nat → Option Addr) (vm : Str → Option Value) (s : Shared) (ρ : Rho) (a : Addr) (zs ys : List D) (ρ' : Rho), Room A J.k → FrV J.cx J.sc J.tab env P O vm s ρ → Acc J.cx env P O a zs s → zs.length + ys.length ≤ sizeLine → em ρ = some (ys, ρ') →
    W J.cx.prog J.cx.w A (tree (.ref a) env) (fun _ s' => ∃ O' vm', FrV J.cx J.sc J.tab env P O' vm' s' ρ' ∧ Acc J.cx env P O' a (zs ++ ys) s' ∧ CTr env O [a] s O' s') s

noncomputable def emE (f : Rho → Option D) : Rho → Option (List D × Rho) := fun ρ => (f ρ).map fun y => ([y], ρ)
theorem em_last {J : Jd} {elt : PySem.Expr} {f : Rho → Option D} (he : SE J elt f) : EmOk J (fun acc env => do let _ ← PySem.call (.builtin "list.append") [acc, ← eval elt env]) (emE f) := fun A env P O vm s ρ a zs ys ρ' hA F hacc hz h => by
  unfold emE at h
  rw [Option.map_eq_some_iff] at h
  obtain ⟨y, hy, h⟩ := h
  cases h
  refine W.bind (W.mono (he A env P O vm s ρ y hA F hy) fun v s₁ ⟨X, r⟩ => W.bind ?_)
  have hacc1 := hacc.ext X
  obtain ⟨vs, n, ho, hr, hl⟩ := hacc1.length
  have hz1 : vs.size ≤ sizeLine := by rw [hl]; simp at hz; omega
  refine W.of_any (wpAny_list_append_plain (hsz := hz1) ⟨n, ho⟩ fun h' hp hs => ?_)
  show W _ _ _ _ _ _
  refine W.pure ?_
  obtain ⟨n', ho'⟩ := hp
  have F1 := F.ext X
  have hchg : Chg [a] s₁ { s₁ with heap := h' } := ⟨rfl, rfl, Nat.le_of_eq hs.1.symm, fun b o hb e => hs.extBut b o (by simpa using hb) e⟩
  refine ⟨O, vm, F1.chg hchg (fun b hb => by simp at hb; subst hb; exact hacc.inP) (fun b hb => by simp at hb; subst hb; exact hacc.above) (fun b hb => by simp at hb; subst hb; exact hacc1.notMut F1), ⟨⟨vs.push v, n', ho', ?_⟩, hacc.inP, hacc.above, hacc.nm⟩, (X.c).trans hchg.c⟩
  rw [Array.toList_push]
  exact (hr.append (RdAll.cons r RdAll.nil)).mono (fun b o hn e => hs.extBut b o (fun e' => hn (.inl (e' ▸ hacc.inP))) e) fun _ h => .inl h

noncomputable def loopC (g : D → Rho → Option Rho) (t : Rho → Option Bool) (em : Rho → Option (List D × Rho)) : List D → Rho → Option (List D × Rho)
  | [], ρ => some ([], ρ)
  | d :: ds, ρ => (g d ρ).bind fun ρ1 => (t ρ1).bind fun b => if b then (em ρ1).bind fun x => (loopC g t em ds x.2).map fun y => (x.1 ++ y.1, y.2) else loopC g t em ds ρ1

/-- the turn of a clause, as the model has it -/
noncomputable def turnOf (tgt iter : PySem.Expr) (ifs : List PySem.Expr) (tree : Value → Env → Sem Unit) (c : Value → Value → Env → Code) (it acc : Value) (env : Env) : Sem Fin :=
  standAt iter.pos >>= fun _ => pyNext it >>= fun r => match r with
      | none => pure (.done .next)
      | some v => letOwnedTupleGo tgt it v >>= fun _ => assign tgt env v >>= fun _ => tests ifs env >>= fun ok => (if ok = true then (tree acc env >>= fun _ => again (c it acc env)) else again (c it acc env))

/-- one clause's loop -/
theorem comp_loop {J : Jd} {tgt iter : PySem.Expr} {ifs : List PySem.Expr} {tree : Value → Env → Sem Unit} {c : Value → Value → Env → Code} {g : D → Rho → Option Rho} {t : Rho → Option Bool} {em : Rho → Option (List D × Rho)}
    (hden : ∀ it acc env, ∃ k, denote table (c it acc env) = (turnOf tgt iter ifs tree c it acc env).onRaise k)
    (hci : ∀ it acc env, notCI (c it acc env) = true) (hask : ∀ it acc env, isAsk (c it acc env) = false)
    (hq : ∀ it acc env, (c it acc env).quiet = true) (hund : ∀ (A : Around) it acc env, A.under (c it acc env) = A)
    (ht : SAL J tgt g) (hts : TsOk J ifs t) (hem : EmOk J tree em)
    {A : Around} {env : Env} {P : Avd} {O : Nat → Option Addr} {vm : Str → Option Value} {s : Shared} {ρ ρ' : Rho} {a : Addr} {zs ys : List D} {ds : List D} {I : Addr} {wr : List Addr} {N : Nat} {U : Avd} {St : Nat → Heap → Prop} (hA : Room A J.k) (F : FrV J.cx J.sc J.tab env P O vm s ρ) (hacc : Acc J.cx env P O a zs s)
    (hz : zs.length + ys.length ≤ sizeLine) (h : loopC g t em ds ρ = some (ys, ρ')) (wk : Wk J.cx A tgt I wr N ds U St) (st : St 0 s.heap) (hwP : ∀ b ∈ wr, P b) (hwb : ∀ b ∈ wr, J.cx.h₁.objs.size ≤ b) (hwm : ∀ b ∈ wr, ¬ muts env O b) (hwa : a ∉ wr)
    (hN : N ≤ s.heap.objs.size) (hU : ∀ b, Av env P O b → U b ∨ b ∈ wr ∨ N ≤ b) (hUm : ∀ b, b = a ∨ muts env O b → U b ∨ N ≤ b) :
    C J.cx.prog J.cx.w A (c (.ref I) (.ref a) env) (fun _ s' => ∃ O' vm', FrV J.cx J.sc J.tab env P O' vm' s' ρ' ∧ Acc J.cx env P O' a (zs ++ ys) s' ∧ CTr env O (a :: wr) s O' s') s := by
  refine C.loop (hci _ _ _) (hask _ _ _) (hq _ _ _) (fun k s₃ => ∃ O₁ vm₁ ρ₁ zs₁ ys₁ i, FrV J.cx J.sc J.tab env P O₁ vm₁ s₃ ρ₁ ∧ Acc J.cx env P O₁ a zs₁ s₃ ∧ CTr env O (a :: wr) s O₁ s₃ ∧ St i s₃.heap ∧ i ≤ ds.length ∧ k = ds.length - i ∧
      loopC g t em (ds.drop i) ρ₁ = some (ys₁, ρ') ∧ zs₁ ++ ys₁ = zs ++ ys) ?_ ds.length
    ⟨O, vm, ρ, zs, ys, 0, F, hacc, ⟨rfl, rfl, Nat.le_refl _, fun _ _ _ _ e => e, fun j _ e => .inl ⟨j, e⟩⟩, st, Nat.zero_le _, rfl, h, rfl⟩
  rintro k s₃ ⟨O₁, vm₁, ρ₁, zs₁, ys₁, i, F₁, hacc₁, T₁, st, hle, rfl, h₃, hzy⟩
  rw [hund]
  obtain ⟨kk, hd⟩ := hden (.ref I) (.ref a) env
  rw [hd]
  refine W.onRaise (W.bind (W.standAt (W.bind ?_)))
  have hnm : ∀ (O₂ : Nat → Option Addr) (s₄ : Shared), CTr env O (a :: wr) s O₂ s₄ → ∀ b ∈ wr, b < s.heap.objs.size → ¬ muts env O₂ b := fun O₂ s₄ T b hb hlt hm => by
    rcases hm with ⟨j, hj⟩ | hm
    · rcases T.own j b hj with ⟨l, hl⟩ | hge
      · exact hwm b hb (.inl ⟨l, hl⟩)
      · exact Nat.lt_irrefl _ (Nat.lt_of_lt_of_le hlt hge)
    · exact hwm b hb (.inr hm)
  have hlw : ∀ b ∈ wr, b < s.heap.objs.size := fun b hb => F.av b (hwP b hb)
  have hUm1 : ∀ (O₂ : Nat → Option Addr) (s₄ : Shared), CTr env O (a :: wr) s O₂ s₄ → ∀ b, ¬ U b → b < N → ¬ muts env O₂ b := fun O₂ s₄ T b hn hlt hm => by
    rcases hm with ⟨j, hj⟩ | hm
    · rcases T.own j b hj with ⟨l, hl⟩ | hge
      · rcases hUm b (.inr (.inl ⟨l, hl⟩)) with h1 | h1
        · exact hn h1
        · exact Nat.lt_irrefl _ (Nat.lt_of_lt_of_le hlt h1)
      · exact Nat.lt_irrefl _ (Nat.lt_of_lt_of_le hlt (Nat.le_trans hN hge))
    · rcases hUm b (.inr (.inr hm)) with h1 | h1
      · exact hn h1
      · exact Nat.lt_irrefl _ (Nat.lt_of_lt_of_le hlt h1)
  have hUa : ∀ b, ¬ U b → b < N → b ≠ a := fun b hn hlt e => by
    rcases hUm b (.inl e) with h1 | h1
    · exact hn h1
    · exact Nat.lt_irrefl _ (Nat.lt_of_lt_of_le hlt h1)
  have chgT : ∀ s₄, Chg wr s₃ s₄ → CTr env O (a :: wr) s O₁ s₄ := fun s₄ x => T₁.trans (x.c.sub fun b hb _ => List.mem_cons_of_mem _ hb)
  rcases Nat.lt_or_ge i ds.length with hlt | hge
  · have hd : ds[i]? = some ds[i] := List.getElem?_eq_getElem hlt
    have hdrop : ds.drop i = ds[i] :: ds.drop (i + 1) := List.drop_eq_getElem_cons hlt
    rw [hdrop, loopC, Option.bind_eq_some_iff] at h₃
    obtain ⟨ρ4, hg4, h₃⟩ := h₃
    rw [Option.bind_eq_some_iff] at h₃
    obtain ⟨bb, hb4, h₃⟩ := h₃
    refine W.mono (wk.item i ds[i] s₃ (Av env P O₁) (fun v s₄ => W J.cx.prog J.cx.w A (assign tgt env v >>= fun _ => tests ifs env >>= fun ok => (if ok = true then (tree (.ref a) env >>= fun _ => again (c (.ref I) (.ref a) env)) else again (c (.ref I) (.ref a) env))) _ s₄) hd st F₁.baseOf (fun b hb => ⟨?_, F₁.avLt hb⟩) fun v s₄ x r st' => ?_) fun r s₄ hr => by obtain ⟨v, e, h₄⟩ := hr; subst e; exact W.bind h₄
    · rcases hb with hb | ⟨j, hj⟩ | hb
      · exact hU b (.inl hb)
      · rcases T₁.own j b hj with ⟨l, hl⟩ | hge
        · exact hU b (.inr (.inl ⟨l, hl⟩))
        · exact .inr (.inr (Nat.le_trans hN hge))
      · exact hU b (.inr (.inr hb))
    have hwm1 : ∀ b ∈ wr, ¬ muts env O₁ b := fun b hb => hnm O₁ s₃ T₁ b hb (hlw b hb)
    have F4 := F₁.chg x hwP hwb hwm1
    have acc4 := hacc₁.chg x hwP hwa
    refine W.bind (W.mono (ht A env _ O₁ vm₁ s₄ ρ₁ ds[i] v ρ4 hA F4 r hg4) fun _ s₅ ⟨O5, vm5, F5, T5⟩ => ?_)
    have acc5 := acc4.tr F4 T5.tr
    have C5 : CTr env O (a :: wr) s O5 s₅ := (chgT s₄ x).trans (T5.sub fun b hb _ => nomatch hb)
    have st5 : St (i + 1) s₅.heap := wk.frame _ _ _ st' fun b o hn hlt e => T5.keep b o (fun h => nomatch h) (fun h => hUm1 O₁ s₃ T₁ b hn hlt h.m) e
    refine W.bind (W.mono (hts A env P O5 vm5 s₅ ρ4 bb hA F5 hb4) fun ok s₆ ⟨X6, e⟩ => ?_)
    subst e
    have F6 := F5.ext X6
    have acc6 := acc5.ext X6
    have C6 : CTr env O (a :: wr) s O5 s₆ := C5.trans X6.c
    have st6 : St (i + 1) s₆.heap := wk.frame _ _ _ st5 fun b o _ _ e => X6.keep b o e
    cases ok with
    | false =>
      simp only [Bool.false_eq_true, if_false] at h₃ ⊢
      exact W.pure (Or.inl ⟨rfl, ds.length - (i + 1), by omega, O5, vm5, ρ4, zs₁, ys₁, i + 1, F6, acc6, C6, st6, hlt, rfl, h₃, hzy⟩)
    | true =>
      simp only [if_true] at h₃ ⊢
      rw [Option.bind_eq_some_iff] at h₃
      obtain ⟨⟨ys7, ρ7⟩, hem7, h₃⟩ := h₃
      rw [Option.map_eq_some_iff] at h₃
      obtain ⟨⟨ys8, ρ8⟩, h8, h₃⟩ := h₃
      cases h₃
      have hl : zs₁.length + (ys7.length + ys8.length) = zs.length + ys.length := by
        have := congrArg List.length hzy
        simp at this
        omega
      refine W.bind (W.mono (hem A env P O5 vm5 s₆ ρ4 a zs₁ ys7 ρ7 hA F6 acc6 (by omega) hem7) fun _ s₇ ⟨O7, vm7, F7, acc7, T7⟩ => ?_)
      refine W.pure (Or.inl ⟨rfl, ds.length - (i + 1), by omega, O7, vm7, ρ7, zs₁ ++ ys7, ys8, i + 1, F7, acc7, C6.trans (T7.sub fun b hb _ => by simp at hb; subst hb; exact List.mem_cons_self), ?_, hlt, rfl, h8, ?_⟩)
      · exact wk.frame _ _ _ st6 fun b o hn hlt e => T7.keep b o (by simp; exact hUa b hn hlt) (fun h => hUm1 O5 s₆ C6 b hn hlt h.m) e
      · rw [List.append_assoc]; exact hzy
  · have hi : i = ds.length := by omega
    subst hi
    rw [List.drop_length, loopC] at h₃
    cases h₃
    rw [List.append_nil] at hzy
    subst hzy
    have hwm1 : ∀ b ∈ wr, ¬ muts env O₁ b := fun b hb => hnm O₁ s₃ T₁ b hb (hlw b hb)
    refine W.mono (wk.done s₃ (fun s₄ => ∃ O' vm', FrV J.cx J.sc J.tab env P O' vm' s₄ _ ∧ Acc J.cx env P O' a _ s₄ ∧ CTr env O (a :: wr) s O' s₄) st F₁.baseOf fun s₄ x => ⟨O₁, vm₁, F₁.chg x hwP hwb hwm1, hacc₁.chg x hwP hwa, chgT s₄ x⟩) fun r s₄ ⟨e, h₄⟩ => by subst e; exact W.pure h₄
end Mine

end
section
open PySem PySem.W PySem.Calls PyProof.Rows
set_option Elab.async false
set_option maxRecDepth 100000
namespace Mine

noncomputable def relab (scope sc : Scope) : Scope := { scope with names := scope.names.map fun (n, k) => if (k == .free && sc.kind == .function && sc.names.lookup n == some .cell) then (n, .cell) else (n, k) }
theorem lookup_relab (sc : Scope) (x : Str) : ∀ names : List (Str × NameKind), (names.map fun (n, k) => if (k == NameKind.free && sc.kind == .function && sc.names.lookup n == some .cell) then (n, NameKind.cell) else (n, k)).lookup x =
    (names.lookup x).map fun k => if (k == .free && sc.kind == .function && sc.names.lookup x == some .cell) then .cell else k
  | [] => rfl
  | (n, k) :: r => by
    have ih := lookup_relab sc x r
    have e : (if (k == NameKind.free && sc.kind == .function && sc.names.lookup n == some .cell) then (n, NameKind.cell) else (n, k)) = (n, if (k == NameKind.free && sc.kind == .function && sc.names.lookup n == some .cell) then NameKind.cell else k) := by split <;> rfl
    rw [List.map_cons]
    show List.lookup x ((if (k == NameKind.free && sc.kind == .function && sc.names.lookup n == some .cell) then (n, NameKind.cell) else (n, k)) :: _) = _
    rw [e]
    cases hx : x == n with
    | true =>
      have := eq_of_beq hx
      subst this
      simp [List.lookup_cons]
    | false => simp only [List.lookup_cons, hx]; exact ih

theorem relab_local {scope sc : Scope} {x : Str} : (relab scope sc).names.lookup x = some .local ↔ scope.names.lookup x = some .local := by
  unfold relab
  rw [lookup_relab]
  cases scope.names.lookup x with
  | none => simp
  | some k => cases k <;> simp <;> split <;> simp
theorem relab_free {scope sc : Scope} {x : Str} (h : scope.names.lookup x = some .free) : (relab scope sc).names.lookup x = some .cell ∨ (relab scope sc).names.lookup x = some .free := by
  unfold relab
  rw [lookup_relab, h]
  simp only [Option.map_some]
  split
  · exact .inl rfl
  · exact .inr rfl

/-! the closure -/
noncomputable def clRev (cells : List (Str × Addr)) : List (Str × NameKind) → List (Str × Addr) → List (Str × Addr)
  | [], acc => acc
  | (n, k) :: r, acc => if k == .free then clRev cells r ((n, (cells.lookup n).getD 0) :: acc) else clRev cells r acc

theorem closure_ok {scope : Scope} {env : Env} (h : ∀ x, (x, NameKind.free) ∈ scope.names → (env.cells.lookup x).isSome = true) : closureFor scope env = pure (clRev env.cells scope.names []) := by
  unfold closureFor
  have : ∀ (names : List (Str × NameKind)) (acc : List (Str × Addr)), (∀ x, (x, NameKind.free) ∈ names → (env.cells.lookup x).isSome = true) →
      (forIn names acc fun x r => (match x with | (name, kind) => if (kind == NameKind.free) = true then do let c ← cellOf env name; pure (ForInStep.yield ((name, c) :: r)) else pure (ForInStep.yield r)) : Sem (List (Str × Addr))) = pure (clRev env.cells names acc) := by
    intro names
    induction names with
    | nil => intro acc _; rfl
    | cons x r ih =>
      intro acc h
      obtain ⟨n, k⟩ := x
      rw [List.forIn_cons]
      have hr : ∀ x, (x, NameKind.free) ∈ r → (env.cells.lookup x).isSome = true := fun x hx => h x (List.mem_cons_of_mem _ hx)
      by_cases hk : (k == NameKind.free) = true
      · have hk' : k = .free := eq_of_beq hk
        subst hk'
        obtain ⟨c, hc⟩ := Option.isSome_iff_exists.mp (h n List.mem_cons_self)
        have e : cellOf env n = pure c := by unfold cellOf; rw [hc]
        simp only [hk, if_true, e]
        rw [clRev, if_pos hk, hc]
        exact ih _ hr
      · simp only [hk, Bool.false_eq_true, if_false]
        rw [clRev, if_neg hk]
        exact ih _ hr
  have h2 := this scope.names [] h
  exact Eq.trans (congrArg (fun t : Sem (List (Str × Addr)) => t >>= fun r => pure r) h2) rfl

theorem clRev_mem {cells : List (Str × Addr)} {x : Str} {c : Addr} : ∀ {names : List (Str × NameKind)} {acc : List (Str × Addr)}, (∀ y, (y, NameKind.free) ∈ names → (cells.lookup y).isSome = true) → (x, c) ∈ clRev cells names acc → (x, c) ∈ acc ∨ ((x, NameKind.free) ∈ names ∧ cells.lookup x = some c)
  | [], _, _, h => .inl h
  | (n, k) :: r, acc, hf, h => by
    rw [clRev] at h
    have hr : ∀ y, (y, NameKind.free) ∈ r → (cells.lookup y).isSome = true := fun y hy => hf y (List.mem_cons_of_mem _ hy)
    split at h
    · rename_i hk
      have hk' : k = .free := eq_of_beq hk
      subst hk'
      rcases clRev_mem hr h with h | ⟨h1, h2⟩
      · rcases List.mem_cons.mp h with h | h
        · obtain ⟨c', hc⟩ := Option.isSome_iff_exists.mp (hf n List.mem_cons_self)
          rw [hc] at h
          cases h
          exact .inr ⟨List.mem_cons_self, hc⟩
        · exact .inl h
      · exact .inr ⟨List.mem_cons_of_mem _ h1, h2⟩
    · rcases clRev_mem hr h with h | ⟨h1, h2⟩
      · exact .inl h
      · exact .inr ⟨List.mem_cons_of_mem _ h1, h2⟩
theorem clRev_has {cells : List (Str × Addr)} {x : Str} : ∀ {names : List (Str × NameKind)} {acc : List (Str × Addr)}, ((x, NameKind.free) ∈ names ∨ ∃ c, (x, c) ∈ acc) → ∃ c, (x, c) ∈ clRev cells names acc
  | [], _, h => h.elim (fun h => nomatch h) id
  | (n, k) :: r, acc, h => by
    rw [clRev]
    split
    · rename_i hk
      rcases h with h | ⟨c, h⟩
      · rcases List.mem_cons.mp h with h | h
        · cases h
          exact clRev_has (.inr ⟨_, List.mem_cons_self⟩)
        · exact clRev_has (.inl h)
      · exact clRev_has (.inr ⟨c, List.mem_cons_of_mem _ h⟩)
    · rename_i hk
      rcases h with h | h
      · rcases List.mem_cons.mp h with h | h
        · cases h
          exact absurd (by rfl) hk
        · exact clRev_has (.inl h)
      · exact clRev_has (.inr h)
theorem clRev_names {cells : List (Str × Addr)} : ∀ {names : List (Str × NameKind)} {acc : List (Str × Addr)}, (names.map (·.1)).Nodup → (acc.map (·.1)).Nodup → (∀ x ∈ names, ∀ y ∈ acc, x.1 ≠ y.1) → ((clRev cells names acc).map (·.1)).Nodup
  | [], _, _, h, _ => h
  | (n, k) :: r, acc, h1, h2, h3 => by
    rw [List.map_cons, List.nodup_cons] at h1
    rw [clRev]
    split
    · refine clRev_names h1.2 ?_ ?_
      · rw [List.map_cons, List.nodup_cons]
        refine ⟨fun hm => ?_, h2⟩
        obtain ⟨y, hy, e⟩ := List.mem_map.mp hm
        exact h3 _ List.mem_cons_self y hy e.symm
      · intro x hx y hy
        rcases List.mem_cons.mp hy with hy | hy
        · subst hy
          intro e
          exact h1.1 (e ▸ List.mem_map.mpr ⟨x, hx, rfl⟩)
        · exact h3 x (List.mem_cons_of_mem _ hx) y hy
    · exact clRev_names h1.2 h2 fun x hx y hy => h3 x (List.mem_cons_of_mem _ hx) y hy

theorem lookup_of_mem_nodup {β : Type} {x : Str} {c : β} : ∀ {l : List (Str × β)}, (l.map (·.1)).Nodup → (x, c) ∈ l → l.lookup x = some c
  | [], _, h => nomatch h
  | (n, k) :: r, h1, h => by
    rw [List.map_cons, List.nodup_cons] at h1
    rcases List.mem_cons.mp h with h | h
    · cases h; simp [List.lookup_cons]
    · have hne : (x == n) = false := by
        cases hx : x == n with
        | false => rfl
        | true => exact absurd (List.mem_map.mpr ⟨(x, c), h, eq_of_beq hx⟩) h1.1
      simp only [List.lookup_cons, hne]
      exact lookup_of_mem_nodup h1.2 h

theorem pairwise_of_inj {l : List (Str × Addr)} (h1 : (l.map (·.1)).Nodup) (h2 : ∀ x y c, (x, c) ∈ l → (y, c) ∈ l → x = y) : l.Pairwise fun x y => x.2 ≠ y.2 := by
  induction l with
  | nil => exact .nil
  | cons a r ih =>
    rw [List.map_cons, List.nodup_cons] at h1
    refine .cons (fun b hb e => ?_) (ih h1.2 fun x y c hx hy => h2 x y c (List.mem_cons_of_mem _ hx) (List.mem_cons_of_mem _ hy))
    have : a.1 = b.1 := h2 a.1 b.1 a.2 List.mem_cons_self (List.mem_cons_of_mem _ (by rw [e]; exact hb))
    exact h1.1 (this ▸ List.mem_map.mpr ⟨b, hb, rfl⟩)

/-! the comprehension's own frame -/
noncomputable def seen (scope : Scope) : Option Str → Option Str
  | some x => if scope.names.lookup x == some .free then some x else none
  | none => none
noncomputable def hideOwn : Slot → Slot
  | .own _ => .unb
  | x => x
noncomputable def Jc (J : Jd) (scope : Scope) (vars : List Str) : Jd := ⟨J.cx, relab scope J.sc, J.tab.map (seen scope) ++ vars.map some, J.k⟩
noncomputable def rhoC (vars : List Str) (ρ : Rho) : Rho := ρ.map hideOwn ++ vars.map fun _ => .unb

structure CompSc (J : Jd) (scope : Scope) (vars : List Str) : Prop where
  kind : scope.kind = .function
  nodup : (scope.names.map (·.1)).Nodup
  noCell : ∀ x ∈ scope.names, x.2 ≠ .cell
  free : ∀ x ∈ scope.names, x.2 = .free → (some x.1 ∈ J.tab) ∧ J.sc.names.lookup x.1 ≠ some .local
  vloc : ∀ x ∈ vars, scope.names.lookup x = some .local
  vnd : vars.Nodup

theorem lookup_mem' {β : Type} {x : Str} {c : β} : ∀ {l : List (Str × β)}, l.lookup x = some c → (x, c) ∈ l
  | [], h => by simp at h
  | (n, k) :: r, h => by
    rw [List.lookup_cons] at h
    split at h
    · rename_i hx
      have := eq_of_beq hx
      subst this
      cases h
      exact List.mem_cons_self
    · exact List.mem_cons_of_mem _ (lookup_mem' h)
end Mine

end
section
open PySem PySem.W PySem.Calls PyProof.Rows
set_option Elab.async false
set_option maxRecDepth 100000
namespace Mine

theorem seen_some {scope : Scope} {o : Option Str} {x : Str} (h : seen scope o = some x) : o = some x ∧ scope.names.lookup x = some .free := by
  cases o with
  | none => cases h
  | some y =>
    unfold seen at h
    simp only at h
    split at h
    · rename_i hb
      cases h
      exact ⟨rfl, eq_of_beq hb⟩
    · cases h

theorem tabC_cases {J : Jd} {scope : Scope} {vars : List Str} {i : Nat} {x : Str} (h : (Jc J scope vars).tab[i]? = some (some x)) :
    (i < J.tab.length ∧ J.tab[i]? = some (some x) ∧ scope.names.lookup x = some .free) ∨ (J.tab.length ≤ i ∧ vars[i - J.tab.length]? = some x) := by
  unfold Jc at h
  simp only at h
  rcases Nat.lt_or_ge i J.tab.length with hi | hi
  · rw [List.getElem?_append_left (by simpa using hi), List.getElem?_map, Option.map_eq_some_iff] at h
    obtain ⟨o, h1, h2⟩ := h
    obtain ⟨e1, e2⟩ := seen_some h2
    subst e1
    exact .inl ⟨hi, h1, e2⟩
  · rw [List.getElem?_append_right (by simpa using hi), List.length_map, List.getElem?_map, Option.map_eq_some_iff] at h
    obtain ⟨y, h1, h2⟩ := h
    cases h2
    exact .inr ⟨hi, h1⟩

theorem Nodup.inj {l : List Str} (h : l.Nodup) {i j : Nat} {x : Str} (h1 : l[i]? = some x) (h2 : l[j]? = some x) : i = j := by
  obtain ⟨hi, e1⟩ := List.getElem?_eq_some_iff.mp h1
  obtain ⟨hj, e2⟩ := List.getElem?_eq_some_iff.mp h2
  have hp := List.pairwise_iff_getElem.mp h
  rcases Nat.lt_trichotomy i j with hlt | he | hlt
  · exact absurd (e1.trans e2.symm) (hp i j hi hj hlt)
  · exact he
  · exact absurd (e2.trans e1.symm) (hp j i hj hi hlt)

/-- the frame of a comprehension, as it begins -/
theorem FrV.comp {J : Jd} {scope : Scope} {vars : List Str} {env : Env} {P : Avd} {O : Nat → Option Addr} {vm : Str → Option Value} {s s' : Shared} {ρ : Rho} (cs : CompSc J scope vars) (F : FrV J.cx J.sc J.tab env P O vm s ρ) (X : Ext s s')
    {cenv : Env} {P' : Avd} (e1 : cenv.scope = relab scope J.sc) (e2 : cenv.globals = env.globals) (e3 : cenv.builtins = env.builtins) (e4 : cenv.cells = clRev env.cells scope.names [])
    (hl : s.heap.objs.size ≤ cenv.locals) (hns : s'.heap.Ns cenv.locals fun _ => none) (hP : ∀ a, P' a → Av env P O a ∨ s.heap.objs.size ≤ a) (hP' : ∀ a, P' a → a < s'.heap.objs.size) :
    ∃ vm', FrV J.cx (Jc J scope vars).sc (Jc J scope vars).tab cenv P' noO vm' s' (rhoC vars ρ) := by
  have hfr : ∀ x, (x, NameKind.free) ∈ scope.names → (env.cells.lookup x).isSome = true := fun x hx => by
    obtain ⟨h1, h2⟩ := cs.free _ hx rfl
    obtain ⟨i, hi⟩ := List.mem_iff_getElem?.mp h1
    rcases F.known i x hi with h | h
    · exact absurd h h2
    · exact h.2
  have hcl : ∀ x c, cenv.cells.lookup x = some c → (x, NameKind.free) ∈ scope.names ∧ env.cells.lookup x = some c := fun x c h => by
    rw [e4] at h
    rcases clRev_mem hfr (lookup_mem' h) with h | h
    · exact nomatch h
    · exact h
  have hclm : ∀ x c, (x, c) ∈ cenv.cells → env.cells.lookup x = some c := fun x c h => by
    rw [e4] at h
    rcases clRev_mem hfr h with h | h
    · exact nomatch h
    · exact h.2
  have hnd : (cenv.cells.map (·.1)).Nodup := by rw [e4]; exact clRev_names cs.nodup (by simp) (fun _ _ y hy => nomatch hy)
  have hnl : ∀ x c, cenv.cells.lookup x = some c → (relab scope J.sc).names.lookup x ≠ some .local := fun x c h e => by
    have := relab_local.mp e
    rw [lookup_of_mem_nodup cs.nodup (hcl x c h).1] at this
    cases this
  have hAv : ∀ a, Av cenv P' noO a → Av env P O a ∨ s.heap.objs.size ≤ a := fun a h => by
    rcases h with h | ⟨j, hj⟩ | h | ⟨x, hx⟩
    · exact hP a h
    · cases hj
    · exact .inr (h ▸ hl)
    · exact .inl (.inr (.inr (.inr ⟨x, (hcl x a hx).2⟩)))
  have hbase := F.baseOf
  refine ⟨fun x => if (relab scope J.sc).names.lookup x = some .local then none else vm x, {
    scope := e1, kind := cs.kind, glob := e2.trans F.glob, blt := e3.trans F.blt
    base := fun a o e => X.keep a o (F.base a o e)
    ns := ⟨_, hns, fun x hx => (if_pos hx).symm⟩
    cell := fun x c h => by
      show s'.heap.IsCell c (if _ then none else vm x)
      rw [if_neg (hnl x c h)]
      exact (F.cell x c (hcl x c h).2).keeps X.keep
    apart := pairwise_of_inj hnd fun x y c hx hy => name_of_addr F.apart (mem_of_lookup (hclm x c hx)) (mem_of_lookup (hclm y c hy))
    fresh := fun a m => by
      rcases m with ⟨j, hj⟩ | h | ⟨x, hx⟩
      · cases hj
      · rw [h]; exact ⟨Nat.le_trans hbase.1 hl, hns.lt⟩
      · have := F.fresh a (.inr (.inr ⟨x, (hcl x a hx).2⟩))
        exact ⟨this.1, Nat.lt_of_lt_of_le this.2 X.size⟩
    nsCell := fun x e => Nat.lt_irrefl _ (Nat.lt_of_lt_of_le (F.fresh _ (.inr (.inr ⟨x, (hcl x _ e).2⟩))).2 hl)
    av := hP'
    len := by unfold rhoC Jc; simp [F.len]
    tabInj := fun i j x hi hj => by
      rcases tabC_cases hi with ⟨_, h1, h2⟩ | ⟨h1, h2⟩ <;> rcases tabC_cases hj with ⟨_, k1, k2⟩ | ⟨k1, k2⟩
      · exact F.tabInj i j x h1 k1
      · rw [cs.vloc x (List.mem_of_getElem? k2)] at h2; cases h2
      · rw [cs.vloc x (List.mem_of_getElem? h2)] at k2; cases k2
      · have := Nodup.inj cs.vnd h2 k2; omega
    cellNL := hnl
    known := fun i x hi => by
      rcases tabC_cases hi with ⟨_, h1, h2⟩ | ⟨h1, h2⟩
      · refine .inr ⟨relab_free h2, ?_⟩
        obtain ⟨c, hc⟩ := clRev_has (cells := env.cells) (acc := []) (.inl (lookup_mem' h2))
        rw [← e4] at hc
        rw [lookup_of_mem_nodup hnd hc]; rfl
      · exact .inl (relab_local.mpr (cs.vloc x (List.mem_of_getElem? h2)))
    slots := fun i x sl h1 h2 => ?_
    ownInj := fun i j a h _ => nomatch h
    ownSlot := fun i a h => nomatch h
    ownApart := fun i a h => nomatch h
    ownNP := fun i a h => nomatch h }⟩
  unfold rhoC at h2
  rcases tabC_cases h1 with ⟨hi, h3, h4⟩ | ⟨hi, h3⟩
  · rw [List.getElem?_append_left (by rw [List.length_map, F.len]; exact hi), List.getElem?_map, Option.map_eq_some_iff] at h2
    obtain ⟨sl0, h5, h6⟩ := h2
    have hs := F.slots i x sl0 h3 h5
    have hv : (if (relab scope J.sc).names.lookup x = some .local then none else vm x) = vm x := if_neg fun e => by rw [relab_local.mp e] at h4; cases h4
    simp only [hv]
    cases sl0 with
    | unb => subst h6; trivial
    | own xs => subst h6; trivial
    | val d =>
      subst h6
      obtain ⟨v, e, r⟩ := hs
      exact ⟨v, e, rd_moreP hAv X.keep (Nat.le_refl _) r⟩
  · rw [List.getElem?_append_right (by rw [List.length_map, F.len]; exact hi), List.getElem?_map, Option.map_eq_some_iff] at h2
    obtain ⟨_, _, h6⟩ := h2
    subst h6
    trivial

noncomputable def useQ (prog : Program) (w : World) (A : Around) (use : Option (Value → Sem Unit)) (Q : Value → Shared → Prop) (acc : Value) (L : Addr) (s' : Shared) : Prop := match use with
  | none => ∃ m, s'.heap.Ns L m ∧ ∀ h', Heap.SameBut L s'.heap h' → Q acc { s' with heap := h' }
  | some u => W prog w A (u acc) (fun _ s'' => ∃ m, s''.heap.Ns L m ∧ ∀ h', Heap.SameBut L s''.heap h' → Q .none { s'' with heap := h' }) s'
section
variable {prog : Program} {w : World} {A : Around} {s : Shared} {env : Env}
theorem W.comprehension {e : PySem.Expr} {scope : Scope} {pos : Pos} {newAcc first : Sem Value} {g : Comprehension} {gs : List Comprehension} {cl : List (Str × Addr)} {use : Option (Value → Sem Unit)}
    {Q : Value → Shared → Prop} (hcl : clausesOf e = g :: gs) (hclos : closureFor scope env = Pure.pure cl)
    (hkind : scope.kind = .function) (hnames : ∀ x ∈ scope.names, x.2 = .local → scope.names.lookup x.1 = some .local)
    (h : W prog w A first (fun x s₁ => foldedSetIterable g.iter env x = Pure.pure x ∧ W prog w A (pyIter x) (fun it s₂ => W prog w A newAcc (fun acc s₃ =>
      W prog w A (newFunctionEnv scope env.globals cl [] env.qual none .none (some env)) (fun cenv s₄ =>
        C prog w A (.compStart e 0 it acc { cenv with scope := relabel scope env }) (fun _ s' => useQ prog w A use Q acc cenv.locals s') s₄) s₃) s₂) s₁) s) :
    W prog w A (PySem.comprehension e scope env pos newAcc false first use) Q s := by
  unfold PySem.comprehension
  rw [hclos, hcl]
  refine W.bind (W.mono h fun x s₁ ⟨hs, h₁⟩ => W.bind (W.standAt (W.bind (W.of_eq hs (W.pure (W.bind (W.holding (W.mono h₁ fun it s₂ h₂ => ?_))))))))
  have hfin : W prog w A newAcc (fun acc s₃ => W prog w A (newFunctionEnv scope env.globals cl [] env.qual none .none (some env)) (fun cenv s₄ =>
        C prog w A (.compStart e 0 it acc { cenv with scope := relabel scope env }) (fun _ s' => useQ prog w A use Q acc cenv.locals s') s₄) s₃) s₂ := h₂
  cases use with
  | none =>
    simp only [Option.isSome_none, Bool.false_eq_true, if_false]
    refine W.bind (W.mono hfin fun acc s₃ h₃ => W.bind (W.pure (W.bind (W.mono h₃ fun cenv s₄ h₄ => ?_))))
    have hv : ∀ x ∈ (scope.names.filter fun x => (x.2 == .local || x.2 == .cell) && x.1 != (".0" : Str)).reverse, x.2 = .local →
        Env.kindOf { cenv with scope := relabel scope env } x.1 = some .local := fun x hx hl => lookup_relabel_local (hnames x (List.mem_filter.mp (List.mem_reverse.mp hx)).1 hl)
    refine W.holding (W.bind (W.attempt (W.holding (W.run (h₄.mono fun f s' hr => ?_)))))
    obtain ⟨m, hn, hr⟩ := hr
    exact W.bind (W.holding (W.of_any (wpAny_comp_letGo (cenv := { cenv with scope := relabel scope env }) hkind _ s' m hv hn fun h' m' _ hs' => W.pure (hr h' hs'))))
  | some u =>
    simp only [Option.isSome_some, if_true]
    refine W.bind (W.standAt (W.bind (W.mono hfin fun acc s₃ h₃ => W.bind (W.pure (W.bind (W.mono h₃ fun cenv s₄ h₄ => ?_))))))
    have hv : ∀ x ∈ (scope.names.filter fun x => (x.2 == .local || x.2 == .cell) && x.1 != (".0" : Str)).reverse, x.2 = .local →
        Env.kindOf { cenv with scope := relabel scope env } x.1 = some .local := fun x hx hl => lookup_relabel_local (hnames x (List.mem_filter.mp (List.mem_reverse.mp hx)).1 hl)
    have hv' : ∀ x ∈ (scope.names.filter fun x => (x.2 == .local || x.2 == .cell) && x.1 != (".0" : Str)).reverse.drop 1 ++ (scope.names.filter fun x => (x.2 == .local || x.2 == .cell) && x.1 != (".0" : Str)).reverse.take 1,
        x.2 = .local → Env.kindOf { cenv with scope := relabel scope env } x.1 = some .local := fun x hx hl => by
      rcases List.mem_append.mp hx with h1 | h1
      · exact hv x (List.mem_of_mem_drop h1) hl
      · exact hv x (List.mem_of_mem_take h1) hl
    refine W.holding (W.bind (W.attempt (W.holding (W.run (h₄.mono fun f s' hr => ?_)))))
    refine W.bind (W.rule (W.bind (W.holding (W.mono hr fun _ s'' hr' => ?_))))
    obtain ⟨m, hn, hr'⟩ := hr'
    exact W.bind (W.of_any (wpAny_comp_letGo (cenv := { cenv with scope := relabel scope env }) hkind _ s'' m hv' hn fun h' m' _ hs' => W.pure (hr' h' hs')))

theorem C.compStart {e : PySem.Expr} {d : Nat} {it acc : Value} {g : Comprehension} {R : Flow → Shared → Prop} (hg : (clausesOf e)[d]? = some g) (hga : (g.is_async != 0) = false) (hfr : (Code.compStart e d it acc env).isFrame = false)
    (hun : ∀ A : Around, A.under (Code.compStart e d it acc env) = A) (hq : ∀ it, (Code.compLoop e d it acc env).quiet = true)
    (h : W prog w A (pyIter it) (fun it' s' => it' = it ∧ s' = s) s) (hl : C prog w A (.compLoop e d it acc env) R s) : C prog w A (.compStart e d it acc env) R s := by
  refine C.of_tree rfl rfl ?_
  rw [hun]
  show W _ _ A (if (Code.compStart e d it acc env).isFrame then (PySem.compStart e d it acc env).onRaise (leaving env) else (PySem.compStart e d it acc env).onRaise (fun x => do noteFrame x env; PySem.standAt theWindowsPlace)) _ s
  rw [hfr]
  simp only [Bool.false_eq_true, if_false]
  refine W.onRaise ?_
  unfold PySem.compStart
  rw [hg]
  simp only [Option.elim_some, hga, Bool.false_eq_true, if_false]
  have hask : ∀ {β : Type} {k : Setting → Sem β} {Q : β → Shared → Prop}, (∀ x, W prog w A (k x) Q s) → W prog w A (PySem.ask >>= k) Q s := fun hk => W.bind (W.of_any (wpAny_askSetting (hk _)))
  refine hask fun x => ?_
  split
  · first
    | exact W.pure ⟨hq _, hl⟩
    | exact W.bind (W.pure (W.pure ⟨hq _, hl⟩))
  · first
    | exact W.bind (W.rule (W.bind (W.standAt (W.bind (W.mono h fun it' s' ⟨e1, e2⟩ => by subst e1 e2; exact W.pure ⟨hq _, hl⟩)))))
    | exact W.bind (W.rule (W.bind (W.standAt (W.bind (W.mono h fun it' s' ⟨e1, e2⟩ => by subst e1 e2; exact W.bind (W.pure (W.pure ⟨hq _, hl⟩)))))))
end
end Mine

end
section
open PySem PySem.W PySem.Calls PyProof.Rows
set_option Elab.async false
set_option maxRecDepth 100000
namespace Mine

noncomputable def compF (vars : List Str) (f : Rho → Option (List D)) (g : D → Rho → Option Rho) (t : Rho → Option Bool) (em : Rho → Option (List D × Rho)) : Rho → Option (List D) :=
  fun ρ => (f ρ).bind fun ds => (loopC g t em ds (rhoC vars ρ)).bind fun x => if x.1.length ≤ sizeLine then some x.1 else none

/-- the model's turn is this one -/
noncomputable def TurnIs (e : PySem.Expr) (d : Nat) (tgt iter : PySem.Expr) (ifs : List PySem.Expr) (tree : Value → Env → Sem Unit) : Prop :=
  ∀ it acc env, ∃ k, denote table (.compLoop e d it acc env) = (turnOf tgt iter ifs tree (fun it acc env => .compLoop e d it acc env) it acc env).onRaise k

theorem Ext.over {s s' : Shared} {L : Addr} {h' : Heap} (x : Ext s s') (hs : Heap.SameBut L s'.heap h') (hL : s.heap.objs.size ≤ L) : Ext s { s' with heap := h' } :=
  ⟨x.gens, x.os, by show _ ≤ h'.objs.size; rw [hs.1]; exact x.size, fun b o e => hs.extBut b o (fun e' => Nat.lt_irrefl _ (Nat.lt_of_lt_of_le (Heap.lt_size e) (e' ▸ hL))) (x.keep b o e)⟩

section
variable {J : Jd} {scope : Scope} {vars : List Str} {elt tgt iter : PySem.Expr} {ifs : List PySem.Expr} {gs : List Comprehension} {pos : Pos} {tree : Value → Env → Sem Unit} {g : D → Rho → Option Rho} {t : Rho → Option Bool} {em : Rho → Option (List D × Rho)}

theorem FrV.closure (cs : CompSc J scope vars) {env : Env} {P : Avd} {O : Nat → Option Addr} {vm : Str → Option Value} {s : Shared} {ρ : Rho} (F : FrV J.cx J.sc J.tab env P O vm s ρ) : ∀ x, (x, NameKind.free) ∈ scope.names → (env.cells.lookup x).isSome = true := fun x hx => by
  obtain ⟨h1, h2⟩ := cs.free _ hx rfl
  obtain ⟨i, hi⟩ := List.mem_iff_getElem?.mp h1
  rcases F.known i x hi with h | h
  · exact absurd h h2
  · exact h.2

theorem comp_core (cs : CompSc J scope vars) (hturn : TurnIs (.ListComp elt (⟨tgt, iter, ifs, 0⟩ :: gs) scope pos) 0 tgt iter ifs tree) (ht : SAL (Jc J scope vars) tgt g) (hts : TsOk (Jc J scope vars) ifs t) (hem : EmOk (Jc J scope vars) tree em)
    {A : Around} {env : Env} {P : Avd} {O : Nat → Option Addr} {vm : Str → Option Value} {s s₂ : Shared} {ρ ρ' : Rho} {ds ys : List D} {I : Addr} {wr : List Addr} {St : Nat → Heap → Prop} (hA : Room A J.k) (F : FrV J.cx J.sc J.tab env P O vm s ρ) (X : Ext s s₂)
    (wk : Wk J.cx A tgt I wr s₂.heap.objs.size ds (Av env P O) St) (st : St 0 s₂.heap) (hwr : ∀ b ∈ wr, s.heap.objs.size ≤ b ∧ b < s₂.heap.objs.size)
    (h : loopC g t em ds (rhoC vars ρ) = some (ys, ρ')) (hz : ys.length ≤ sizeLine)
    {R : Value → Env → Shared → Prop} (hR : ∀ a (cenv : Env) s' vs n m, a ≠ cenv.locals → s.heap.objs.size ≤ a → s.heap.objs.size ≤ cenv.locals → s'.heap.Ns cenv.locals m → s'.heap.get? a = some { cls := .type "list", data := .seq vs n } → vs.size ≤ sizeLine →
      RdAll J.cx s'.heap (fun b => Av env P O b ∨ b = a ∨ b = cenv.locals) ys vs.toList → Ext s s' → R (.ref a) cenv s') :
    W J.cx.prog J.cx.w A (newList []) (fun acc s₃ => W J.cx.prog J.cx.w A (newFunctionEnv scope env.globals (clRev env.cells scope.names []) [] env.qual none .none (some env)) (fun cenv s₄ =>
      C J.cx.prog J.cx.w A (.compStart (.ListComp elt (⟨tgt, iter, ifs, 0⟩ :: gs) scope pos) 0 (.ref I) acc { cenv with scope := relabel scope env }) (fun _ s' => R acc cenv s') s₄) s₃) s₂ := by
  refine W.of_any (wpAny_newList (W.of_any (wpAny_newFunctionEnv cs.noCell (by intro y hy; simp at hy) (fun h₁ hns₁ hsb₁ => ?_) cs.kind)) (by simp))
  dsimp only at hns₁ hsb₁ ⊢
  generalize hH2 : s₂.heap.push { cls := .type "list", dict := none, data := .seq ([] : List Value).toArray } = H2 at hns₁ hsb₁ ⊢
  have hC : H2.objs.size = s₂.heap.objs.size + 1 := by rw [← hH2, Heap.size_push]
  have hDC : s₂.heap.objs.size ≠ H2.objs.size := by rw [hC]; exact Nat.ne_of_lt (Nat.lt_succ_self _)
  have hCle : s₂.heap.objs.size ≤ H2.objs.size := by rw [hC]; exact Nat.le_succ _
  have below : ∀ b, b < s₂.heap.objs.size → b ≠ H2.objs.size ∧ b ≠ s₂.heap.objs.size := fun b hb => ⟨by rw [hC]; exact Nat.ne_of_lt (Nat.lt_succ_of_lt hb), Nat.ne_of_lt hb⟩
  have old : ∀ b o, s₂.heap.get? b = some o → h₁.get? b = some o := fun b o e => hsb₁.extBut b o (below b (Heap.lt_size e)).1 (Heap.get?_push_of_some _ (hH2 ▸ Heap.get?_push_of_some _ e))
  have hacc : h₁.get? s₂.heap.objs.size = some { cls := .type "list", data := .seq #[] 0 } := hsb₁.extBut _ _ hDC (Heap.get?_push_of_some _ (hH2 ▸ Heap.get?_push_size _ rfl))
  have hh₁ : h₁.objs.size = s₂.heap.objs.size + 2 := by rw [hsb₁.1, Heap.size_push, hC]
  generalize hs4 : ({ s₂ with heap := h₁, toks := s₂.toks + ([] : List (Str × Value)).length } : Shared) = s₄
  have hs4h : s₄.heap = h₁ := by rw [← hs4]
  have hs4s : s₄.heap.objs.size = s₂.heap.objs.size + 2 := by rw [hs4h, hh₁]
  have X24 : Ext s₂ s₄ := ⟨by rw [← hs4], by rw [← hs4], by rw [hs4s]; exact Nat.le_add_right _ _, fun b o e => by rw [hs4h]; exact old b o e⟩
  have X4 := X.trans X24
  have hsle := X.size
  have hL : s.heap.objs.size ≤ H2.objs.size := Nat.le_trans hsle hCle
  have hns4 : s₄.heap.Ns H2.objs.size fun _ => none := by rw [hs4h]; exact hns₁
  generalize hce : ({ newEnv scope H2.objs.size env.globals (clRev env.cells scope.names []) env.qual none .none (some env) builtinsNs with scope := relabel scope env } : Env) = cenv'
  have el : cenv'.locals = H2.objs.size := by rw [← hce]; rfl
  have ec : cenv'.cells = clRev env.cells scope.names [] := by rw [← hce]; rfl
  have es : cenv'.scope = relab scope J.sc := by rw [← hce, ← F.scope]; rfl
  have hclF := F.closure cs
  have hcells : ∀ x c, cenv'.cells.lookup x = some c → env.cells.lookup x = some c := fun x c h => by
    rw [ec] at h
    rcases clRev_mem hclF (lookup_mem' h) with h | h
    · exact nomatch h
    · exact h.2
  have hcellLt : ∀ x c, cenv'.cells.lookup x = some c → c < s.heap.objs.size := fun x c h => (F.fresh c (.inr (.inr ⟨x, hcells x c h⟩))).2
  have hbase := F.baseOf
  obtain ⟨vm', F'⟩ := FrV.comp (P' := fun b => Av env P O b ∨ b ∈ wr ∨ b = s₂.heap.objs.size) cs F X4 (cenv := cenv') es (by rw [← hce]; rfl) (by rw [← hce]; rfl) ec (by rw [el]; exact hL) (by rw [el]; exact hns4)
    (fun a ha => by
      rcases ha with ha | ha | ha
      · exact .inl ha
      · exact .inr (hwr a ha).1
      · exact .inr (by rw [ha]; exact hsle))
    (fun a ha => by
      rw [hs4s]
      rcases ha with ha | ha | ha
      · exact Nat.lt_of_lt_of_le (F.avLt ha) (Nat.le_trans hsle (Nat.le_add_right _ _))
      · exact Nat.lt_of_lt_of_le (hwr a ha).2 (Nat.le_add_right _ _)
      · rw [ha]; exact Nat.lt_add_of_pos_right (by decide))
  have hAcc : Acc J.cx cenv' (fun b => Av env P O b ∨ b ∈ wr ∨ b = s₂.heap.objs.size) noO s₂.heap.objs.size [] s₄ := ⟨⟨#[], 0, by rw [hs4h]; exact hacc, RdAll.nil⟩, .inr (.inr rfl), Nat.le_trans hbase.1 hsle, by rw [el]; exact hDC, fun x e => Nat.lt_irrefl _ (Nat.lt_of_lt_of_le (hcellLt x _ e) hsle)⟩
  have hloop : C J.cx.prog J.cx.w A (.compLoop (.ListComp elt (⟨tgt, iter, ifs, 0⟩ :: gs) scope pos) 0 (.ref I) (.ref s₂.heap.objs.size) cenv') (fun _ s' => R (.ref s₂.heap.objs.size) (newEnv scope H2.objs.size env.globals (clRev env.cells scope.names []) env.qual none .none (some env) builtinsNs) s') s₄ := by
    refine C.mono (comp_loop (c := fun it acc env => .compLoop (.ListComp elt (⟨tgt, iter, ifs, 0⟩ :: gs) scope pos) 0 it acc env) hturn (fun _ _ _ => rfl) (fun _ _ _ => rfl) (fun _ _ _ => rfl) (fun _ _ _ _ => rfl) ht hts hem hA F' hAcc (by simpa using hz) h wk
      (wk.frame _ _ _ st fun b o _ _ e => X24.keep b o e) (fun b hb => .inr (.inl hb)) (fun b hb => Nat.le_trans hbase.1 (hwr b hb).1) ?_ (fun hm => Nat.lt_irrefl _ (hwr _ hm).2) X24.size ?_ ?_) ?_
    · intro b hb hm
      rcases hm with ⟨j, hj⟩ | hm | ⟨x, hx⟩
      · cases hj
      · rw [el] at hm; exact (below b (hwr b hb).2).1 hm
      · exact Nat.lt_irrefl _ (Nat.lt_of_lt_of_le (hcellLt x b hx) (hwr b hb).1)
    · intro b hb
      rcases hb with (hb | hb | hb) | ⟨j, hj⟩ | hb | ⟨x, hx⟩
      · exact .inl hb
      · exact .inr (.inl hb)
      · exact .inr (.inr (by rw [hb]; exact Nat.le_refl _))
      · cases hj
      · exact .inr (.inr (by rw [hb, el]; exact hCle))
      · exact .inl (.inr (.inr (.inr ⟨x, hcells x b hx⟩)))
    · intro b hb
      rcases hb with hb | ⟨j, hj⟩ | hb | ⟨x, hx⟩
      · exact .inr (by rw [hb]; exact Nat.le_refl _)
      · cases hj
      · exact .inr (by rw [hb, el]; exact hCle)
      · exact .inl (.inr (.inr (.inr ⟨x, hcells x b hx⟩)))
    · intro _ s' ⟨O', vm'', F'', acc'', T''⟩
      rw [List.nil_append] at acc''
      obtain ⟨vs, n, ho, hr, hl⟩ := acc''.length
      obtain ⟨m, hm, _⟩ := F''.ns
      rw [el] at hm
      refine hR s₂.heap.objs.size (newEnv scope H2.objs.size env.globals (clRev env.cells scope.names []) env.qual none .none (some env) builtinsNs) s' vs n m hDC hsle hL hm ho (by rw [hl]; exact hz) (hr.weak fun b hb => ?_) ?_
      · rcases hb with hb | hb | hb
        · exact .inl (.inl hb)
        · exact .inl (.inr (.inr hb))
        · exact .inr (.inr (.inl (by rw [el]; exact hb)))
      · refine ⟨T''.gens.trans X4.gens, T''.os.trans X4.os, Nat.le_trans X4.size T''.size, fun b o e => T''.keep b o (fun hm => ?_) (fun hm => ?_) (X4.keep b o e)⟩
        · have hlt := Heap.lt_size e
          rcases List.mem_cons.mp hm with hm | hm
          · exact Nat.lt_irrefl _ (Nat.lt_of_lt_of_le hlt (by rw [hm]; exact hsle))
          · exact Nat.lt_irrefl _ (Nat.lt_of_lt_of_le hlt (hwr b hm).1)
        · have hlt := Heap.lt_size e
          rcases hm with ⟨j, hj⟩ | hm
          · cases hj
          · exact Nat.lt_irrefl _ (Nat.lt_of_lt_of_le hlt (by rw [hm, el]; exact hL))
  exact C.compStart rfl rfl rfl (fun _ => rfl) (fun _ => rfl) (wk.self 0 s₄ (wk.frame _ _ _ st fun b o _ _ e => X24.keep b o e)) hloop

theorem CompSc.locals (cs : CompSc J scope vars) : ∀ x ∈ scope.names, x.2 = .local → scope.names.lookup x.1 = some .local := fun x hx e => lookup_of_mem_nodup cs.nodup (by rw [← e]; exact hx)

theorem sef_comp {f : Rho → Option (List D)} (cs : CompSc J scope vars) (hturn : TurnIs (.ListComp elt (⟨tgt, iter, ifs, 0⟩ :: gs) scope pos) 0 tgt iter ifs tree) (hi : SI J tgt iter f) (ht : SAL (Jc J scope vars) tgt g) (hts : TsOk (Jc J scope vars) ifs t) (hem : EmOk (Jc J scope vars) tree em) :
    SEF J (.ListComp elt (⟨tgt, iter, ifs, 0⟩ :: gs) scope pos) (compF vars f g t em) := fun A env P O vm s ρ ys hA F h => by
  unfold compF at h
  rw [Option.bind_eq_some_iff] at h
  obtain ⟨ds, hds, h⟩ := h
  rw [Option.bind_eq_some_iff] at h
  obtain ⟨⟨ys', ρ'⟩, hl, h⟩ := h
  split at h
  · rename_i hz
    cases h
    rw [eval_ListComp]
    refine W.comprehension (use := none) rfl (closure_ok (F.closure cs)) cs.kind cs.locals (W.mono (hi A env P O vm s ρ ds hA F hds) fun x s₁ ⟨hf, h₁⟩ => ⟨hf, W.mono h₁ fun it s₂ ⟨X, _, I, wr, St, e, wk, st, hwr⟩ => ?_⟩)
    subst e
    refine comp_core cs hturn ht hts hem hA F X wk st hwr hl hz (R := fun acc cenv s' => useQ J.cx.prog J.cx.w A none _ acc cenv.locals s') fun a cenv s' vs n m hac ha hc hn ho hvz hr X' => ?_
    refine ⟨m, hn, fun h' hs => ?_⟩
    have hk : ∀ b o, b ≠ cenv.locals → s'.heap.get? b = some o → h'.get? b = some o := fun b o hb e => hs.extBut b o hb e
    refine ⟨X'.over hs hc, a, vs, n, rfl, ha, hk a _ hac ho, hvz, hr.mono (fun b o hb e => hk b o (fun e' => hb (.inr (.inr e'))) e) fun b hb => .inl (hb.imp id .inl)⟩
  · cases h

noncomputable def listF (f : Rho → Option (List D)) : Rho → Option D := fun ρ => (f ρ).map .list
theorem SEF.se {e : PySem.Expr} {f : Rho → Option (List D)} (h : SEF J e f) : SE J e (listF f) := fun A env P O vm s ρ d hA F hd => by
  unfold listF at hd
  rw [Option.map_eq_some_iff] at hd
  obtain ⟨ds, hds, hd⟩ := hd
  subst hd
  refine W.mono (h A env P O vm s ρ ds hA F hds) fun v s₁ ⟨X, a, vs, n, e1, e2, e3, e4, e5⟩ => ⟨X, ?_⟩
  rw [Rd]
  exact ⟨a, vs, n, e1, e3, F.new e2, e4, e5.weak fun b hb => .inl hb⟩

end
end Mine

end
section
open PySem PySem.W PySem.Calls PyProof.Rows
set_option Elab.async false
set_option maxRecDepth 100000
namespace Mine

noncomputable abbrev lastT (elt : PySem.Expr) : Value → Env → Sem Unit := fun acc env => do let _ ← PySem.call (.builtin "list.append") [acc, ← eval elt env]
theorem turn_one {elt tgt iter : PySem.Expr} {ifs : List PySem.Expr} {scope : Scope} {pos : Pos} : TurnIs (.ListComp elt [⟨tgt, iter, ifs, 0⟩] scope pos) 0 tgt iter ifs (lastT elt) := fun it acc env => ⟨fun x => do noteFrame x env; theTreesLotGoes x, by
  show (compTurn (.ListComp elt [⟨tgt, iter, ifs, 0⟩] scope pos) 0 it acc env).onRaise _ = _
  congr 1⟩

end Mine

end
section
open PySem PySem.W PySem.Calls PyProof.Rows
set_option Elab.async false
set_option maxRecDepth 100000
namespace Mine

noncomputable def ownsTup (n : String) : Bool := ["enumerate", "zip", "dict_itemiterator", "dict_reverseitemiterator", "odict_iterator", "itertools.zip_longest", "itertools.pairwise"].contains n

theorem go_skip {prog : Program} {w : World} {A : Around} {s : Shared} {tgt : PySem.Expr} {I : Addr} {v : Value} {o : Obj} {n : String} {Q : Unit → Shared → Prop} (ho : s.heap.get? I = some o) (hc : o.cls = .type n) (hn : ownsTup n = false) (h : Q () s) :
    W prog w A (letOwnedTupleGo tgt (.ref I) v) Q s := by
  refine W.of_any ?_
  unfold letOwnedTupleGo
  have fin : ∀ a, wpAny (model prog w) A (do
      let o ← load I
      match o.cls, o.data with
      | .type n, .fields vs =>
        if ["enumerate", "zip", "dict_itemiterator", "dict_reverseitemiterator", "odict_iterator", "itertools.zip_longest", "itertools.pairwise"].contains n && vs[0]? == some (rawInt a) then
          rule "for.unpacks-the-owned-tuple"
          updateField I 0 .none
      | _, _ => pure () : Sem Unit) Q (fun _ _ => False) s := fun a => by
    refine wpAny_bind (wpAny_load ho ?_)
    rw [hc]
    split
    · rename_i n' vs e1 e2
      cases e1
      rw [if_neg]
      · exact wpAny_pure h
      · intro hh
        have : ownsTup n = true := (Bool.and_eq_true_iff.mp hh).1
        rw [hn] at this
        cases this
    · exact wpAny_pure h
  cases tgt <;> first | exact wpAny_pure h | (cases v <;> first | exact wpAny_pure h | exact fin _)

noncomputable abbrev Vinf (U : Avd) (wr : List Addr) (N : Nat) : Avd := fun a => U a ∨ a ∈ wr ∨ N ≤ a

theorem Wk.of {cx : Cx} {A : Around} {tgt : PySem.Expr} {I : Addr} {fp wr : List Addr} {N n : Nat} {ds : List D} {U : Avd} {Pv : Nat → Value → Prop} {St0 : Nat → Heap → Prop} (Wl : Walks cx.prog cx.w A I fp wr n Pv St0) (hn : ds.length = n) (hfp : ∀ b ∈ fp, ¬ U b ∧ b < N)
    (Dt : Heap → Prop) (hDt : ∀ h h', Dt h → (∀ a o, ¬ Vinf U wr N a → h.get? a = some o → h'.get? a = some o) → Dt h') (hrd : ∀ h (i : Nat) v d, Dt h → Pv i v → ds[i]? = some d → Rd cx h (Vinf U wr N) d v)
    (hcls : ∀ i h, St0 i h → ∃ o nm, h.get? I = some o ∧ o.cls = .type nm ∧ ownsTup nm = false) : Wk cx A tgt I wr N ds U (fun i h => St0 i h ∧ Dt h) where
  frame := fun i h h' st hk => ⟨Wl.frame i h h' st.1 fun b hb o e => hk b o (hfp b hb).1 (hfp b hb).2 e, hDt h h' st.2 fun a o ha e => hk a o (fun h => ha (.inl h)) (Nat.lt_of_not_le fun h => ha (.inr (.inr h))) e⟩
  item := fun i d s V Q hd st hb hV hQ => by
    have hi : i < n := by
      rw [← hn]
      rcases Nat.lt_or_ge i ds.length with h | h
      · exact h
      · rw [List.getElem?_eq_none h] at hd; cases hd
    refine W.of_anyS (Wl.item i s _ _ hi st.1 fun v h' tk hP hst hk hsz => ⟨v, rfl, ?_⟩)
    obtain ⟨o, nm, ho, hc, hnm⟩ := hcls _ _ hst
    have hdt : Dt h' := hDt _ _ st.2 fun a o ha e => hk a o (fun h => ha (.inr (.inl h))) e
    exact go_skip ho hc hnm (hQ v _ ⟨rfl, rfl, hsz, hk⟩ ((hrd h' i v d hdt hP hd).weak fun a ha => (hV a ha).1) ⟨hst, hdt⟩)
  done := fun s Q st hb hQ => W.of_anyS (Wl.done s _ _ (hn ▸ st.1) fun h' tk hk hsz => ⟨rfl, hQ _ ⟨rfl, rfl, hsz, hk⟩⟩)
  self := fun i s st => W.of_any (Wl.self i s _ _ st.1 ⟨rfl, rfl⟩)

noncomputable def notSetE : PySem.Expr → Bool
  | .Set .. => false
  | _ => true
theorem folded_ok {e : PySem.Expr} (h : notSetE e = true) (env : Env) (x : Value) : foldedSetIterable e env x = pure x := by
  cases e <;> first | rfl | cases h

noncomputable def asList : D → Option (List D)
  | .list ds => some ds
  | _ => none
noncomputable def itE (k : D → Option (List D)) (f : Rho → Option D) : Rho → Option (List D) := fun ρ => (f ρ).bind k

theorem si_list {J : Jd} {tgt e : PySem.Expr} {f : Rho → Option D} (he : SE J e f) (hs : notSetE e = true := by rfl) : SI J tgt e (itE asList f) := fun A env P O vm s ρ ds hA F h => by
  unfold itE at h
  rw [Option.bind_eq_some_iff] at h
  obtain ⟨d, hd, h⟩ := h
  unfold asList at h
  split at h
  · rename_i ds'
    cases h
    refine W.mono (he A env P O vm s ρ _ hA F hd) fun x s₁ ⟨X, r⟩ => ⟨folded_ok hs env x, ?_⟩
    rw [Rd] at r
    obtain ⟨l, vs, n, rfl, ho, hna, hz, hr⟩ := r
    refine W.of_any (wpAny_pyIter_list ⟨_, ho, rfl, n, rfl⟩ ?_)
    have hll := hr.length
    rw [Array.length_toList] at hll
    have hlt := Heap.lt_size ho
    have F1 := F.ext X
    have hsz : (s₁.heap.push { cls := .type "list_iterator", data := .fields #[.ref l, .int 0 0] }).objs.size = s₁.heap.objs.size + 1 := Heap.size_push ..
    have X2 : Ext s₁ { s₁ with heap := s₁.heap.push { cls := .type "list_iterator", data := .fields #[.ref l, .int 0 0] } } := Ext.push _ _
    refine ⟨X.trans X2, by rw [← hll]; exact hz, s₁.heap.objs.size, [s₁.heap.objs.size], _, rfl, Wk.of (Walks.list hA.1 s₁.heap.objs.size l (Nat.ne_of_lt hlt) vs) hll.symm ?_
      (fun h => RdAll J.cx h (Vinf (Av env P O) [s₁.heap.objs.size] (s₁.heap.push { cls := .type "list_iterator", data := .fields #[.ref l, .int 0 0] }).objs.size) ds vs.toList) (fun h h' r hk => r.mono hk fun _ x => .inl x) ?_ ?_, ⟨⟨⟨_, Heap.get?_push_size _ rfl, rfl, rfl⟩, ⟨_, Heap.get?_push_of_some _ ho, rfl, n, rfl⟩⟩, ?_⟩, ?_⟩
    · intro b hb
      rw [hsz]
      simp at hb
      rcases hb with hb | hb
      · rw [hb]; exact ⟨F1.new (Nat.le_refl _), Nat.lt_succ_self _⟩
      · rw [hb]; exact ⟨hna, Nat.lt_succ_of_lt hlt⟩
    · intro h i v d r hv hd
      obtain ⟨v', e, q⟩ := r.get hd
      rw [← Array.getElem?_toList, e] at hv
      cases hv
      exact q
    · rintro i h ⟨⟨o, h1, h2, _⟩, _⟩
      exact ⟨o, _, h1, h2, by decide⟩
    · refine hr.mono (fun a o _ e => X2.keep a o e) fun a ha => ?_
      rcases ha with ha | ha | ha
      · exact .inl ha
      · simp at ha; rw [ha]; exact .inr (get_none (Nat.le_refl _))
      · rw [hsz] at ha; exact .inr (get_none (Nat.le_of_succ_le ha))
    · intro b hb
      simp at hb
      rw [hb]
      exact ⟨X.size, by show _ < (s₁.heap.push _).objs.size; rw [hsz]; exact Nat.lt_succ_self _⟩
  · cases h
end Mine

end
section
open PySem PySem.W PySem.Calls PyProof.Rows
set_option Elab.async false
set_option maxRecDepth 100000
namespace Mine

noncomputable def theCode : Array Nat := #[14, 4, 0, 1, 4294967295, 7, 14, 17, 0, 24, 6, 1, 4294967295, 20, 91, 1, 17, 1, 15, 37, 17, 17, 2, 16, 91, 26, 5, 0, 4294967295, 2, 1, 16, 93, 17, 3, 15, 20, 18, 17, 4, 16, 91, 24, 6, 0, 4294967295, 20, 93, 1, 6, 5, 17, 5, 15, 2, 0, 1]

structure Cfg where
  T : Array Nat
  n : Nat
  start : Nat
  outer : Bool
  marks : Array (Option Nat)
  lm : Int
  li : Int
  frames : List Sre.Frame
  w : Nat
  pc : Nat
  pos : Nat
  handed : Nat
  ans : Option Bool

noncomputable def mkc (c : Cfg) (seen : Sre.Seen) : Sre.M :=
  { code := theCode, text := c.T, lim := c.n, start := c.start, lastStart := c.n, pc := c.pc, pos := c.pos, handed := c.handed, outermost := c.outer, marks := c.marks, lastmark := c.lm, lastindex := c.li, frames := c.frames, weight := c.w, answer := c.ans, seen := seen }

noncomputable def iter : Nat → Sre.M → Sre.M
  | 0, m => m
  | k + 1, m => iter k m.step
theorem iter_add (a b : Nat) (m : Sre.M) : iter (a + b) m = iter b (iter a m) := by
  induction a generalizing m with
  | zero => rw [Nat.zero_add]; rfl
  | succ a ih => rw [Nat.succ_add]; exact ih m.step

noncomputable def Go (k : Nat) (c c' : Cfg) : Prop := ∀ seen, ∃ seen', iter k (mkc c seen) = mkc c' seen'
theorem Go.trans {a b : Nat} {c c' c'' : Cfg} (x : Go a c c') (y : Go b c' c'') : Go (a + b) c c'' := fun seen => by
  obtain ⟨s1, e1⟩ := x seen
  obtain ⟨s2, e2⟩ := y s1
  exact ⟨s2, by rw [iter_add, e1, e2]⟩
theorem Go.refl (c : Cfg) : Go 0 c c := fun seen => ⟨seen, rfl⟩

noncomputable def kept0 (lm li : Int) : Sre.Kept := { lastmark := lm, lastindex := li, whole := false, marks := #[] }


theorem step_exec (c : Cfg) (seen : Sre.Seen) (h : c.ans = none) (hpc : c.pc < 57) : (mkc c seen).step = (mkc c seen).exec := by
  unfold Sre.M.step
  have h1 : (mkc c seen).outcome.isSome = false := rfl
  have h2 : (mkc c seen).answer = none := h
  have h3 : (mkc c seen).pc < (mkc c seen).code.size := hpc
  rw [if_neg (by rw [h1]; decide), h2]
  simp only
  rw [if_pos h3]
theorem exec_mark (m : Sre.M) (h : Sre.ops[m.word 0]? = some .MARK) : m.exec = ({ m with seen := m.seen.add (m.word 0) } : Sre.M).mark (m.word 1) := by
  unfold Sre.M.exec; rw [h]; rfl
theorem mark4_eq (m : Sre.M) (h : m.lastmark = -1) : m.mark 4 = { m with marks := ((((m.marks.setIfInBounds 0 none).setIfInBounds 1 none).setIfInBounds 2 none).setIfInBounds 3 none).setIfInBounds 4 (some m.pos), lastmark := 4, pc := m.pc + 2 } := by
  unfold Sre.M.mark
  rw [h]
  simp [List.range_succ]
  decide
theorem exec_jump (m : Sre.M) (h : Sre.ops[m.word 0]? = some .JUMP) : m.exec = { m with seen := m.seen.add (m.word 0), pc := m.pc + 1 + m.word 1 } := by
  unfold Sre.M.exec; rw [h]; rfl
theorem exec_succ (m : Sre.M) (h : Sre.ops[m.word 0]? = some .SUCCESS) (hw : m.wholeText = false) (hm : m.mustAdvance = false) : m.exec = { m with seen := m.seen.add (m.word 0), handed := m.pos, answer := some true } := by
  unfold Sre.M.exec; rw [h]; simp [hw, hm]; rfl
theorem exec_lit (m : Sre.M) (h : Sre.ops[m.word 0]? = some .LITERAL) : m.exec = if m.pos ≥ m.lim then { m with seen := m.seen.add (m.word 0), answer := some false } else
    if m.text.getD m.pos 0 == m.word 1 then { m with seen := m.seen.add (m.word 0), pc := m.pc + 2, pos := m.pos + 1 } else { m with seen := m.seen.add (m.word 0), answer := some false } := by
  have ha : ∀ c seen, Sre.accepts m.code m.pc c seen = .ok (c == m.word 1, seen) := fun c seen => by
    unfold Sre.accepts
    have : Sre.ops[m.code.getD m.pc 0]? = some .LITERAL := h
    rw [this]; rfl
  have hi : Sre.itemWidth m.code m.pc = 2 := by
    unfold Sre.itemWidth
    have : Sre.ops[m.code.getD m.pc 0]? = some .LITERAL := h
    rw [this]
  unfold Sre.M.exec; rw [h]; simp only [ha, hi]
  split
  · rfl
  · cases m.text.getD m.pos 0 == m.word 1 <;> rfl
theorem exec_at (m : Sre.M) (h : Sre.ops[m.word 0]? = some .AT) (h1 : m.word 1 = 5) : m.exec = if m.pos == m.lim || (m.pos + 1 == m.lim && m.text.getD m.pos 0 == 10) then { m with seen := (m.seen.add (m.word 0)).add 48, pc := m.pc + 2 } else { m with seen := (m.seen.add (m.word 0)).add 48, answer := some false } := by
  have ha : ∀ s, ({ m with seen := s } : Sre.M).isAt 5 = .ok (m.pos == m.lim || (m.pos + 1 == m.lim && m.text.getD m.pos 0 == 10)) := fun s => rfl
  have hw : ∀ s, ({ m with seen := s } : Sre.M).word 1 = 5 := fun s => h1
  unfold Sre.M.exec; rw [h]; simp only [hw, ha]
  split <;> rfl
section
variable (T : Array Nat) (n st : Nat) (o : Bool) (mk : Array (Option Nat)) (lm li : Int) (fs : List Sre.Frame) (w pos hd : Nat)

theorem go_branch (hw : w + 1 ≤ 1000) : Go 1 ⟨T, n, st, o, mk, lm, li, fs, w, 5, pos, hd, none⟩ ⟨T, n, st, o, mk, lm, li, { wait := .nextBranch, pc := 6, pos := pos, outermost := o, kept := kept0 lm li } :: fs, w + 1, 7, pos, pos, none⟩ := fun seen => ⟨_, by
  show Sre.M.attempt _ _ _ _ _ = _
  unfold Sre.M.attempt
  rw [if_neg (by show ¬ (w + 1 + 0 > 16777216); omega)]
  rfl⟩

theorem go_alt {f : Sre.Frame} (alt : Nat) (tgt : Nat) (hn : alt + theCode.getD alt 0 = tgt) (hz : (theCode.getD tgt 0 == 0) = false) (hw : w + 1 ≤ 1000) (hf : f = { wait := .nextBranch, pc := alt, pos := pos, outermost := o, kept := kept0 (-1) (-1) }) {pc pos' : Nat} {o' : Bool} :
    Go 1 ⟨T, n, st, o', mk, lm, li, f :: fs, w + 1, pc, pos', hd, some false⟩ ⟨T, n, st, o, mk, -1, -1, { wait := .nextBranch, pc := tgt, pos := pos, outermost := o, kept := kept0 (-1) (-1) } :: fs, w + 1, tgt + 1, pos, pos, none⟩ := fun seen => ⟨seen, by
  subst hf
  subst hn
  show Sre.M.alternative _ _ _ = _
  unfold Sre.M.alternative
  rw [if_neg (by show ¬ ((theCode.getD (alt + theCode.getD alt 0) 0 == 0) = true); rw [hz]; decide)]
  unfold Sre.M.attempt
  rw [if_neg (by show ¬ (w + 1 - (1 + 0) + 1 + 0 > 16777216); omega)]
  rfl⟩

theorem go_altEnd {f : Sre.Frame} (hf : f = { wait := .nextBranch, pc := 37, pos := pos, outermost := o, kept := kept0 (-1) (-1) }) {pc pos' : Nat} {o' : Bool} :
    Go 1 ⟨T, n, st, o', mk, lm, li, f :: fs, w + 1, pc, pos', hd, some false⟩ ⟨T, n, st, o, mk, -1, -1, fs, w, 37, pos, hd, some false⟩ := fun seen => ⟨seen, by
  subst hf
  rfl⟩
theorem go_jump18 : Go 1 ⟨T, n, st, o, mk, lm, li, fs, w, 18, pos, hd, none⟩ ⟨T, n, st, o, mk, lm, li, fs, w, 56, pos, hd, none⟩ := fun seen => ⟨seen.add 15, by
  show (mkc ⟨T, n, st, o, mk, lm, li, fs, w, 18, pos, hd, none⟩ seen).step = _
  rw [step_exec _ _ rfl (by show (18 : Nat) < 57; decide), exec_jump _ (by rfl)]
  rfl⟩
theorem go_jump35 : Go 1 ⟨T, n, st, o, mk, lm, li, fs, w, 35, pos, hd, none⟩ ⟨T, n, st, o, mk, lm, li, fs, w, 56, pos, hd, none⟩ := fun seen => ⟨seen.add 15, by
  show (mkc ⟨T, n, st, o, mk, lm, li, fs, w, 35, pos, hd, none⟩ seen).step = _
  rw [step_exec _ _ rfl (by show (35 : Nat) < 57; decide), exec_jump _ (by rfl)]
  rfl⟩
theorem go_jump53 : Go 1 ⟨T, n, st, o, mk, lm, li, fs, w, 53, pos, hd, none⟩ ⟨T, n, st, o, mk, lm, li, fs, w, 56, pos, hd, none⟩ := fun seen => ⟨seen.add 15, by
  show (mkc ⟨T, n, st, o, mk, lm, li, fs, w, 53, pos, hd, none⟩ seen).step = _
  rw [step_exec _ _ rfl (by show (53 : Nat) < 57; decide), exec_jump _ (by rfl)]
  rfl⟩
theorem go_succ : Go 1 ⟨T, n, st, o, mk, lm, li, fs, w, 56, pos, hd, none⟩ ⟨T, n, st, o, mk, lm, li, fs, w, 56, pos, pos, some true⟩ := fun seen => ⟨seen.add 1, by
  show (mkc ⟨T, n, st, o, mk, lm, li, fs, w, 56, pos, hd, none⟩ seen).step = _
  rw [step_exec _ _ rfl (by show (56 : Nat) < 57; decide), exec_succ _ (by rfl) rfl rfl]
  rfl⟩
theorem go_at (hp : pos = n) : Go 1 ⟨T, n, st, o, mk, lm, li, fs, w, 49, pos, hd, none⟩ ⟨T, n, st, o, mk, lm, li, fs, w, 51, pos, hd, none⟩ := fun seen => ⟨(seen.add 6).add 48, by
  show (mkc ⟨T, n, st, o, mk, lm, li, fs, w, 49, pos, hd, none⟩ seen).step = _
  rw [step_exec _ _ rfl (by show (49 : Nat) < 57; decide), exec_at _ (by rfl) (by rfl)]
  rw [if_pos (by show (pos == n || (pos + 1 == n && T.getD pos 0 == 10)) = true; rw [hp]; simp)]
  rfl⟩
theorem go_atNo (hp : pos ≠ n) (hc : ¬ (pos + 1 = n ∧ T.getD pos 0 = 10)) : Go 1 ⟨T, n, st, o, mk, lm, li, fs, w, 49, pos, hd, none⟩ ⟨T, n, st, o, mk, lm, li, fs, w, 49, pos, hd, some false⟩ := fun seen => ⟨(seen.add 6).add 48, by
  show (mkc ⟨T, n, st, o, mk, lm, li, fs, w, 49, pos, hd, none⟩ seen).step = _
  rw [step_exec _ _ rfl (by show (49 : Nat) < 57; decide), exec_at _ (by rfl) (by rfl)]
  rw [if_neg (by show ¬ ((pos == n || (pos + 1 == n && T.getD pos 0 == 10)) = true); rw [beq_false_of_ne hp, Bool.false_or, Bool.and_eq_true, beq_iff_eq, beq_iff_eq]; exact hc)]
  rfl⟩
theorem go_mark0 : Go 1 ⟨T, n, st, o, mk, -1, li, fs, w, 7, pos, hd, none⟩ ⟨T, n, st, o, mk.setIfInBounds 0 (some pos), 0, li, fs, w, 9, pos, hd, none⟩ := fun seen => ⟨seen.add 17, by
  show (mkc ⟨T, n, st, o, mk, -1, li, fs, w, 7, pos, hd, none⟩ seen).step = _
  rw [step_exec _ _ rfl (by show (7 : Nat) < 57; decide), exec_mark _ (by rfl)]
  show Sre.M.mark { mkc ⟨T, n, st, o, mk, -1, li, fs, w, 7, pos, hd, none⟩ seen with seen := seen.add 17 } 0 = _
  unfold Sre.M.mark
  rfl⟩
theorem go_mark1 : Go 1 ⟨T, n, st, o, mk, 0, li, fs, w, 16, pos, hd, none⟩ ⟨T, n, st, o, mk.setIfInBounds 1 (some pos), 1, 1, fs, w, 18, pos, hd, none⟩ := fun seen => ⟨seen.add 17, by
  show (mkc ⟨T, n, st, o, mk, 0, li, fs, w, 16, pos, hd, none⟩ seen).step = _
  rw [step_exec _ _ rfl (by show (16 : Nat) < 57; decide), exec_mark _ (by rfl)]
  show Sre.M.mark { mkc ⟨T, n, st, o, mk, 0, li, fs, w, 16, pos, hd, none⟩ seen with seen := seen.add 17 } 1 = _
  unfold Sre.M.mark
  rfl⟩
theorem go_mark2 : Go 1 ⟨T, n, st, o, mk, -1, li, fs, w, 21, pos, hd, none⟩ ⟨T, n, st, o, ((mk.setIfInBounds 0 none).setIfInBounds 1 none).setIfInBounds 2 (some pos), 2, li, fs, w, 23, pos, hd, none⟩ := fun seen => ⟨seen.add 17, by
  show (mkc ⟨T, n, st, o, mk, -1, li, fs, w, 21, pos, hd, none⟩ seen).step = _
  rw [step_exec _ _ rfl (by show (21 : Nat) < 57; decide), exec_mark _ (by rfl)]
  show Sre.M.mark { mkc ⟨T, n, st, o, mk, -1, li, fs, w, 21, pos, hd, none⟩ seen with seen := seen.add 17 } 2 = _
  unfold Sre.M.mark
  rfl⟩
theorem go_mark3 : Go 1 ⟨T, n, st, o, mk, 2, li, fs, w, 33, pos, hd, none⟩ ⟨T, n, st, o, mk.setIfInBounds 3 (some pos), 3, 2, fs, w, 35, pos, hd, none⟩ := fun seen => ⟨seen.add 17, by
  show (mkc ⟨T, n, st, o, mk, 2, li, fs, w, 33, pos, hd, none⟩ seen).step = _
  rw [step_exec _ _ rfl (by show (33 : Nat) < 57; decide), exec_mark _ (by rfl)]
  show Sre.M.mark { mkc ⟨T, n, st, o, mk, 2, li, fs, w, 33, pos, hd, none⟩ seen with seen := seen.add 17 } 3 = _
  unfold Sre.M.mark
  rfl⟩
theorem go_mark4 : Go 1 ⟨T, n, st, o, mk, -1, li, fs, w, 38, pos, hd, none⟩ ⟨T, n, st, o, ((((mk.setIfInBounds 0 none).setIfInBounds 1 none).setIfInBounds 2 none).setIfInBounds 3 none).setIfInBounds 4 (some pos), 4, li, fs, w, 40, pos, hd, none⟩ := fun seen => ⟨seen.add 17, by
  show (mkc ⟨T, n, st, o, mk, -1, li, fs, w, 38, pos, hd, none⟩ seen).step = _
  rw [step_exec _ _ rfl (by show (38 : Nat) < 57; decide), exec_mark _ (by rfl)]
  rw [show (mkc ⟨T, n, st, o, mk, -1, li, fs, w, 38, pos, hd, none⟩ seen).word 1 = 4 from rfl, mark4_eq _ rfl]
  rfl⟩
theorem go_mark5 : Go 1 ⟨T, n, st, o, mk, 4, li, fs, w, 51, pos, hd, none⟩ ⟨T, n, st, o, mk.setIfInBounds 5 (some pos), 5, 3, fs, w, 53, pos, hd, none⟩ := fun seen => ⟨seen.add 17, by
  show (mkc ⟨T, n, st, o, mk, 4, li, fs, w, 51, pos, hd, none⟩ seen).step = _
  rw [step_exec _ _ rfl (by show (51 : Nat) < 57; decide), exec_mark _ (by rfl)]
  show Sre.M.mark { mkc ⟨T, n, st, o, mk, 4, li, fs, w, 51, pos, hd, none⟩ seen with seen := seen.add 17 } 5 = _
  unfold Sre.M.mark
  rfl⟩
theorem go_lit23 (hp : pos < n) (hc : T.getD pos 0 = 91) : Go 1 ⟨T, n, st, o, mk, lm, li, fs, w, 23, pos, hd, none⟩ ⟨T, n, st, o, mk, lm, li, fs, w, 25, pos + 1, hd, none⟩ := fun seen => ⟨seen.add 16, by
  show (mkc ⟨T, n, st, o, mk, lm, li, fs, w, 23, pos, hd, none⟩ seen).step = _
  rw [step_exec _ _ rfl (by show (23 : Nat) < 57; decide), exec_lit _ (by rfl)]
  rw [if_neg (by show ¬ (pos ≥ n); omega), if_pos (by show (T.getD pos 0 == 91) = true; rw [hc]; rfl)]
  rfl⟩
theorem go_litNo23 (hp : ¬ (pos < n ∧ T.getD pos 0 = 91)) : Go 1 ⟨T, n, st, o, mk, lm, li, fs, w, 23, pos, hd, none⟩ ⟨T, n, st, o, mk, lm, li, fs, w, 23, pos, hd, some false⟩ := fun seen => ⟨seen.add 16, by
  show (mkc ⟨T, n, st, o, mk, lm, li, fs, w, 23, pos, hd, none⟩ seen).step = _
  rw [step_exec _ _ rfl (by show (23 : Nat) < 57; decide), exec_lit _ (by rfl)]
  by_cases hlt : pos < n
  · have hc : T.getD pos 0 ≠ 91 := fun e => hp ⟨hlt, e⟩
    rw [if_neg (by show ¬ (pos ≥ n); omega), if_neg (by show ¬ ((T.getD pos 0 == 91) = true); rw [beq_false_of_ne hc]; decide)]
    rfl
  · rw [if_pos (by show pos ≥ n; omega)]
    rfl⟩
theorem go_lit31 (hp : pos < n) (hc : T.getD pos 0 = 93) : Go 1 ⟨T, n, st, o, mk, lm, li, fs, w, 31, pos, hd, none⟩ ⟨T, n, st, o, mk, lm, li, fs, w, 33, pos + 1, hd, none⟩ := fun seen => ⟨seen.add 16, by
  show (mkc ⟨T, n, st, o, mk, lm, li, fs, w, 31, pos, hd, none⟩ seen).step = _
  rw [step_exec _ _ rfl (by show (31 : Nat) < 57; decide), exec_lit _ (by rfl)]
  rw [if_neg (by show ¬ (pos ≥ n); omega), if_pos (by show (T.getD pos 0 == 93) = true; rw [hc]; rfl)]
  rfl⟩
theorem go_litNo31 (hp : ¬ (pos < n ∧ T.getD pos 0 = 93)) : Go 1 ⟨T, n, st, o, mk, lm, li, fs, w, 31, pos, hd, none⟩ ⟨T, n, st, o, mk, lm, li, fs, w, 31, pos, hd, some false⟩ := fun seen => ⟨seen.add 16, by
  show (mkc ⟨T, n, st, o, mk, lm, li, fs, w, 31, pos, hd, none⟩ seen).step = _
  rw [step_exec _ _ rfl (by show (31 : Nat) < 57; decide), exec_lit _ (by rfl)]
  by_cases hlt : pos < n
  · have hc : T.getD pos 0 ≠ 93 := fun e => hp ⟨hlt, e⟩
    rw [if_neg (by show ¬ (pos ≥ n); omega), if_neg (by show ¬ ((T.getD pos 0 == 93) = true); rw [beq_false_of_ne hc]; decide)]
    rfl
  · rw [if_pos (by show pos ≥ n; omega)]
    rfl⟩
theorem go_lit40 (hp : pos < n) (hc : T.getD pos 0 = 91) : Go 1 ⟨T, n, st, o, mk, lm, li, fs, w, 40, pos, hd, none⟩ ⟨T, n, st, o, mk, lm, li, fs, w, 42, pos + 1, hd, none⟩ := fun seen => ⟨seen.add 16, by
  show (mkc ⟨T, n, st, o, mk, lm, li, fs, w, 40, pos, hd, none⟩ seen).step = _
  rw [step_exec _ _ rfl (by show (40 : Nat) < 57; decide), exec_lit _ (by rfl)]
  rw [if_neg (by show ¬ (pos ≥ n); omega), if_pos (by show (T.getD pos 0 == 91) = true; rw [hc]; rfl)]
  rfl⟩
theorem go_litNo40 (hp : ¬ (pos < n ∧ T.getD pos 0 = 91)) : Go 1 ⟨T, n, st, o, mk, lm, li, fs, w, 40, pos, hd, none⟩ ⟨T, n, st, o, mk, lm, li, fs, w, 40, pos, hd, some false⟩ := fun seen => ⟨seen.add 16, by
  show (mkc ⟨T, n, st, o, mk, lm, li, fs, w, 40, pos, hd, none⟩ seen).step = _
  rw [step_exec _ _ rfl (by show (40 : Nat) < 57; decide), exec_lit _ (by rfl)]
  by_cases hlt : pos < n
  · have hc : T.getD pos 0 ≠ 91 := fun e => hp ⟨hlt, e⟩
    rw [if_neg (by show ¬ (pos ≥ n); omega), if_neg (by show ¬ ((T.getD pos 0 == 91) = true); rw [beq_false_of_ne hc]; decide)]
    rfl
  · rw [if_pos (by show pos ≥ n; omega)]
    rfl⟩
end
end Mine

end
section
open PySem PySem.W PySem.Calls PyProof.Rows
set_option Elab.async false
set_option maxRecDepth 100000
namespace Mine

theorem iter1 (m : Sre.M) : iter 1 m = m.step := rfl
noncomputable def runLen (c : Nat) (T : Array Nat) : Nat → Nat → Nat
  | 0, _ => 0
  | k + 1, p => if T.getD p 0 ≠ c then runLen c T k (p + 1) + 1 else 0

theorem run_eq {code T : Array Nat} {i c : Nat} (h : ∀ x seen, Sre.accepts code i x seen = .ok (x != c, seen)) : ∀ (n p found : Nat) (seen : Sre.Seen), Sre.run code T i n p found seen = .ok (found + runLen c T n p, seen)
  | 0, _, _, _ => rfl
  | n + 1, p, found, seen => by
    rw [Sre.run, h]
    show (if (T.getD p 0 != c) = true then Sre.run code T i n (p + 1) (found + 1) seen else pure (found, seen)) = _
    rw [runLen]
    by_cases hc : T.getD p 0 = c
    · rw [if_neg (by simp only [bne_iff_ne, ne_eq, hc, not_true, not_false_eq_true]), if_neg (by simp only [ne_eq, hc, not_true, not_false_eq_true])]; rfl
    · rw [if_pos (by simp only [bne_iff_ne, ne_eq, hc, not_false_eq_true]), if_pos hc, run_eq h]
      congr 2
      omega

theorem runLen_le (c : Nat) (T : Array Nat) : ∀ n p, runLen c T n p ≤ n
  | 0, _ => Nat.le_refl _
  | n + 1, p => by
    rw [runLen]
    split
    · have := runLen_le c T n (p + 1); omega
    · omega

theorem exec_rep (m : Sre.M) (h : Sre.ops[m.word 0]? = some .REPEAT_ONE) (c : Nat) (ha : ∀ x seen, Sre.accepts m.code (m.pc + 4) x seen = .ok (x != c, seen)) (hi : m.inner = none) (hr : m.pos ≤ m.lim) (hmost : m.lim ≤ m.word 3) :
    m.exec = if m.word 2 > m.lim - m.pos then { m with seen := m.seen.add (m.word 0), answer := some false } else
      if runLen c m.text (m.lim - m.pos) m.pos < m.word 2 then { m with seen := (m.seen.add (m.word 0)).add (m.word 4), answer := some false }
      else ({ m with seen := (m.seen.add (m.word 0)).add (m.word 4), pos := m.pos + runLen c m.text (m.lim - m.pos) m.pos } : Sre.M).afterRun .giveBack (runLen c m.text (m.lim - m.pos) m.pos : Nat) (kept0 m.lastmark m.lastindex) := by
  have hroom : ((m.lim : Int) - m.pos).toNat = m.lim - m.pos := by omega
  have hmin : min (m.word 3) (m.lim - m.pos) = m.lim - m.pos := by omega
  unfold Sre.M.exec
  rw [h]
  have hw : ∀ k, ({ m with seen := m.seen.add (m.word 0) } : Sre.M).word k = m.word k := fun _ => rfl
  simp only [hw, hroom, Bool.false_eq_true, if_false, hmin, run_eq ha, Nat.zero_add]
  by_cases h2 : m.word 2 > m.lim - m.pos
  · rw [if_pos h2, if_pos (by omega)]; rfl
  · rw [if_neg h2, if_neg (by omega)]
    by_cases h3 : runLen c m.text (m.lim - m.pos) m.pos < m.word 2
    · rw [if_pos h3, if_pos h3]; rfl
    · rw [if_neg h3, if_neg h3, hi]; rfl

theorem exec_min (m : Sre.M) (h : Sre.ops[m.word 0]? = some .MIN_REPEAT_ONE) (hi : m.inner = none) (hr : m.pos ≤ m.lim) (h2 : m.word 2 = 0) :
    m.exec = ({ m with seen := (m.seen.add (m.word 0)).add (m.word 4) } : Sre.M).afterRun .takeMore 0 (kept0 m.lastmark m.lastindex) := by
  unfold Sre.M.exec
  rw [h]
  have hw : ∀ k, ({ m with seen := m.seen.add (m.word 0) } : Sre.M).word k = m.word k := fun _ => rfl
  simp only [hw, h2, if_true, Nat.zero_min]
  rw [if_neg (by omega)]
  simp only [Sre.run, Nat.lt_irrefl, if_false, Nat.add_zero, hi]
  rfl

theorem acc_not (i c : Nat) (h : Sre.ops[theCode.getD i 0]? = some .NOT_LITERAL) (hc : theCode.getD (i + 1) 0 = c) : ∀ x seen, Sre.accepts theCode i x seen = .ok (x != c, seen) := fun x seen => by
  unfold Sre.accepts
  rw [h]
  simp only [hc]
theorem acc_any (i : Nat) (h : Sre.ops[theCode.getD i 0]? = some .ANY) : ∀ x seen, Sre.accepts theCode i x seen = .ok (x != 10, seen) := fun x seen => by
  unfold Sre.accepts
  rw [h]

theorem afterRun_eq (m : Sre.M) (wait : Sre.Wait) (count : Int) (lm li : Int) (h : m.weight + 1 ≤ 1000) : m.afterRun wait count (kept0 lm li) = { m with frames := { wait := wait, pc := m.pc, pos := m.pos, outermost := m.outermost, count := count, kept := kept0 lm li } :: m.frames, weight := m.weight + 1, pc := m.pc + 1 + m.word 1, handed := m.pos } := by
  unfold Sre.M.afterRun Sre.M.attempt
  rw [if_neg (by show ¬ (m.weight + 1 + 0 > 16777216); omega)]
  rfl

section
variable (T : Array Nat) (n st : Nat) (o : Bool) (mk : Array (Option Nat)) (lm li : Int) (fs : List Sre.Frame) (w pos hd : Nat)

noncomputable abbrev fGive (pc pos : Nat) (o : Bool) (k : Int) (lm li : Int) : Sre.Frame := { wait := .giveBack, pc := pc, pos := pos, outermost := o, count := k, kept := kept0 lm li }
noncomputable abbrev fTake (pos : Nat) (o : Bool) (k : Int) (lm li : Int) : Sre.Frame := { wait := .takeMore, pc := 25, pos := pos, outermost := o, count := k, kept := kept0 lm li }
noncomputable abbrev fAlt (pc pos : Nat) (o : Bool) : Sre.Frame := { wait := .nextBranch, pc := pc, pos := pos, outermost := o, kept := kept0 (-1) (-1) }
noncomputable abbrev fStart (pos : Nat) (o : Bool) : Sre.Frame := { wait := .nextStart, pc := 5, pos := pos, outermost := o }

theorem go_rep9 (hn : n ≤ 16777216) (hp : pos < n) (hk : 0 < runLen 91 T (n - pos) pos) (hw : w + 1 ≤ 1000) :
    Go 1 ⟨T, n, st, o, mk, lm, li, fs, w, 9, pos, hd, none⟩ ⟨T, n, st, o, mk, lm, li, fGive 9 (pos + runLen 91 T (n - pos) pos) o (runLen 91 T (n - pos) pos : Nat) lm li :: fs, w + 1, 16, pos + runLen 91 T (n - pos) pos, pos + runLen 91 T (n - pos) pos, none⟩ := fun seen => ⟨(seen.add 24).add 20, by
  rw [iter1]
  rw [step_exec _ _ rfl (by show (9 : Nat) < 57; decide), exec_rep _ (by rfl) 91 (acc_not 13 91 (by rfl) (by rfl)) rfl (by show pos ≤ n; omega) (by show n ≤ 4294967295; omega)]
  rw [if_neg (by show ¬ (1 > n - pos); omega), if_neg (by show ¬ (runLen 91 T (n - pos) pos < 1); omega), afterRun_eq _ _ _ _ _ hw]
  rfl⟩
theorem go_rep9No (hn : n ≤ 16777216) (hp : pos ≤ n) (hk : runLen 91 T (n - pos) pos = 0) : ∃ k : Unit, Go 1 ⟨T, n, st, o, mk, lm, li, fs, w, 9, pos, hd, none⟩ ⟨T, n, st, o, mk, lm, li, fs, w, 9, pos, hd, some false⟩ := ⟨(), fun seen => by
  by_cases h1 : 1 > n - pos
  · refine ⟨seen.add 24, ?_⟩
    rw [iter1]
    rw [step_exec _ _ rfl (by show (9 : Nat) < 57; decide), exec_rep _ (by rfl) 91 (acc_not 13 91 (by rfl) (by rfl)) rfl (by show pos ≤ n; omega) (by show n ≤ 4294967295; omega)]
    rw [if_pos (by show 1 > n - pos; omega)]
    rfl
  · refine ⟨(seen.add 24).add 20, ?_⟩
    rw [iter1]
    rw [step_exec _ _ rfl (by show (9 : Nat) < 57; decide), exec_rep _ (by rfl) 91 (acc_not 13 91 (by rfl) (by rfl)) rfl (by show pos ≤ n; omega) (by show n ≤ 4294967295; omega)]
    rw [if_neg (by show ¬ (1 > n - pos); omega), if_pos (by show runLen 91 T (n - pos) pos < 1; omega)]
    rfl⟩
theorem go_rep42 (hn : n ≤ 16777216) (hp : pos ≤ n) (hw : w + 1 ≤ 1000) :
    Go 1 ⟨T, n, st, o, mk, lm, li, fs, w, 42, pos, hd, none⟩ ⟨T, n, st, o, mk, lm, li, fGive 42 (pos + runLen 93 T (n - pos) pos) o (runLen 93 T (n - pos) pos : Nat) lm li :: fs, w + 1, 49, pos + runLen 93 T (n - pos) pos, pos + runLen 93 T (n - pos) pos, none⟩ := fun seen => ⟨(seen.add 24).add 20, by
  rw [iter1]
  rw [step_exec _ _ rfl (by show (42 : Nat) < 57; decide), exec_rep _ (by rfl) 93 (acc_not 46 93 (by rfl) (by rfl)) rfl (by show pos ≤ n; omega) (by show n ≤ 4294967295; omega)]
  rw [if_neg (by show ¬ (0 > n - pos); omega), if_neg (by show ¬ (runLen 93 T (n - pos) pos < 0); omega), afterRun_eq _ _ _ _ _ hw]
  rfl⟩
theorem go_min25 (hp : pos ≤ n) (hw : w + 1 ≤ 1000) :
    Go 1 ⟨T, n, st, o, mk, lm, li, fs, w, 25, pos, hd, none⟩ ⟨T, n, st, o, mk, lm, li, fTake pos o 0 lm li :: fs, w + 1, 31, pos, pos, none⟩ := fun seen => ⟨(seen.add 26).add 2, by
  rw [iter1]
  rw [step_exec _ _ rfl (by show (25 : Nat) < 57; decide), exec_min _ (by rfl) rfl (by show pos ≤ n; omega) (by rfl), afterRun_eq _ _ _ _ _ hw]
  rfl⟩
/-- an answer goes through a frame -/
theorem go_yes {f : Sre.Frame} (hf : f.wait = .nextBranch ∨ f.wait = .giveBack ∨ f.wait = .takeMore ∨ f.wait = .nextStart) (hz : f.kept.marks.size = 0) {pc pos' : Nat} {o' : Bool} :
    Go 1 ⟨T, n, st, o', mk, lm, li, f :: fs, w + 1, pc, pos', hd, some true⟩ ⟨T, n, st, f.outermost, mk, lm, li, fs, w, f.pc, f.pos, hd, some true⟩ := fun seen => ⟨seen, by
  show Sre.M.resume _ f true = _
  unfold Sre.M.resume
  rcases hf with h | h | h | h <;> rw [h] <;> simp only [if_true, hz] <;> rfl⟩
theorem go_giveNo {k : Int} {fpc fpos : Nat} (h : fpc = 42) (hk : ¬ (k - 1 < 0)) (hw : w + 1 ≤ 1000) {pc pos' : Nat} {o' : Bool} {lm' li' : Int} :
    Go 1 ⟨T, n, st, o', mk, lm', li', fGive fpc fpos o k lm li :: fs, w + 1, pc, pos', hd, some false⟩ ⟨T, n, st, o, mk, lm, li, fGive fpc (fpos - 1) o (k - 1) lm li :: fs, w + 1, 49, fpos - 1, fpos - 1, none⟩ := fun seen => ⟨seen, by
  subst h
  show Sre.M.resume _ (fGive 42 fpos o k lm li) false = _
  unfold Sre.M.resume
  simp only [Bool.false_eq_true, if_false]
  rw [if_neg (by exact hk), afterRun_eq _ _ _ _ _ (by show w + 1 - (1 + 0) + 1 ≤ 1000; omega)]
  rfl⟩
theorem go_giveEnd {k : Int} {fpc fpos : Nat} (h : fpc = 42) (hk : k - 1 < 0) {pc pos' : Nat} {o' : Bool} {lm' li' : Int} :
    Go 1 ⟨T, n, st, o', mk, lm', li', fGive fpc fpos o k lm li :: fs, w + 1, pc, pos', hd, some false⟩ ⟨T, n, st, o, mk, lm, li, fs, w, 42, fpos, hd, some false⟩ := fun seen => ⟨seen, by
  subst h
  show Sre.M.resume _ (fGive 42 fpos o k lm li) false = _
  unfold Sre.M.resume
  simp only [Bool.false_eq_true, if_false]
  rw [if_pos (by exact hk)]
  rfl⟩
theorem go_takeMore {k : Int} {fpos : Nat} (hp : fpos < n) (hc : T.getD fpos 0 ≠ 10) (hw : w + 1 ≤ 1000) {pc pos' : Nat} {o' : Bool} {lm' li' : Int} :
    Go 1 ⟨T, n, st, o', mk, lm', li', fTake fpos o k lm li :: fs, w + 1, pc, pos', hd, some false⟩ ⟨T, n, st, o, mk, lm, li, fTake (fpos + 1) o (k + 1) lm li :: fs, w + 1, 31, fpos + 1, fpos + 1, none⟩ := fun seen => ⟨seen, by
  show Sre.M.resume _ (fTake fpos o k lm li) false = _
  unfold Sre.M.resume
  simp only [Bool.false_eq_true, if_false]
  rw [if_neg (by show ¬ ((decide (k + 1 > ((4294967295 : Nat) : Int)) && ((4294967295 : Nat) != Sre.maxRepeat)) = true); rw [show ((4294967295 : Nat) != Sre.maxRepeat) = false from rfl, Bool.and_false]; decide), if_neg (by show ¬ (fpos ≥ n); omega)]
  have ha := acc_any 29 (by rfl) (T.getD fpos 0) seen
  rw [show (T.getD fpos 0 != 10) = true from by simp only [bne_iff_ne, ne_eq]; exact hc] at ha
  have ha' : Sre.accepts theCode (25 + 4) (T.getD fpos 0) seen = .ok (true, seen) := ha
  show (match Sre.accepts theCode (25 + 4) (T.getD fpos 0) seen with | .error why => _ | .ok (false, seen) => _ | .ok (true, seen) => _) = _
  rw [ha']
  simp only
  rw [afterRun_eq _ _ _ _ _ (by show w + 1 - (1 + 0) + 1 ≤ 1000; omega)]
  rfl⟩
theorem go_takeEnd {k : Int} {fpos : Nat} (hp : fpos ≥ n ∨ T.getD fpos 0 = 10) {pc pos' : Nat} {o' : Bool} {lm' li' : Int} :
    Go 1 ⟨T, n, st, o', mk, lm', li', fTake fpos o k lm li :: fs, w + 1, pc, pos', hd, some false⟩ ⟨T, n, st, o, mk, lm, li, fs, w, 25, fpos, hd, some false⟩ := fun seen => ⟨seen, by
  show Sre.M.resume _ (fTake fpos o k lm li) false = _
  unfold Sre.M.resume
  simp only [Bool.false_eq_true, if_false]
  rw [if_neg (by show ¬ ((decide (k + 1 > ((4294967295 : Nat) : Int)) && ((4294967295 : Nat) != Sre.maxRepeat)) = true); rw [show ((4294967295 : Nat) != Sre.maxRepeat) = false from rfl, Bool.and_false]; decide)]
  by_cases h1 : fpos ≥ n
  · rw [if_pos (by exact h1)]; rfl
  · rw [if_neg (by exact h1)]
    have hc : T.getD fpos 0 = 10 := hp.resolve_left h1
    have ha := acc_any 29 (by rfl) (T.getD fpos 0) seen
    rw [show (T.getD fpos 0 != 10) = false from by rw [hc]; rfl] at ha
    have ha' : Sre.accepts theCode (25 + 4) (T.getD fpos 0) seen = .ok (false, seen) := ha
    show (match Sre.accepts theCode (25 + 4) (T.getD fpos 0) seen with | .error why => _ | .ok (false, seen) => _ | .ok (true, seen) => _) = _
    rw [ha']
    rfl⟩
theorem go_nextStart {fpos : Nat} (hp : fpos < n) {pc pos' : Nat} {o' oo : Bool} :
    Go 1 ⟨T, n, st, o', mk, lm, li, [fStart fpos oo], 1, pc, pos', hd, some false⟩ ⟨T, n, fpos + 1, false, mk, -1, -1, [fStart (fpos + 1) false], 1, 5, fpos + 1, fpos + 1, none⟩ := fun seen => ⟨seen, by
  show Sre.M.resume _ (fStart fpos oo) false = _
  unfold Sre.M.resume
  simp only [Bool.false_eq_true, if_false]
  rw [if_pos (by exact hp)]
  rfl⟩
theorem go_lastStart {fpos : Nat} (hp : ¬ fpos < n) {pc pos' : Nat} {o' oo : Bool} :
    Go 1 ⟨T, n, st, o', mk, lm, li, [fStart fpos oo], 1, pc, pos', hd, some false⟩ ⟨T, n, st, oo, mk, lm, li, [], 0, 5, fpos, hd, some false⟩ := fun seen => ⟨seen, by
  show Sre.M.resume _ (fStart fpos oo) false = _
  unfold Sre.M.resume
  simp only [Bool.false_eq_true, if_false]
  rw [if_neg (by exact hp)]
  rfl⟩
end
end Mine

end
section
open PySem PySem.W PySem.Calls PyProof.Rows
set_option Elab.async false
set_option maxRecDepth 100000
namespace Mine

/-! what the one pattern finds -/
noncomputable def closeAt : List Nat → Option Nat
  | [] => none
  | c :: r => if c = 93 then some 0 else if c = 10 then none else (closeAt r).map (· + 1)
noncomputable def findM : Nat → List Nat → Option (Nat × Nat × Nat)
  | _, [] => none
  | s, c :: r => if c ≠ 91 then some (s, s + 1 + (r.takeWhile (· != 91)).length, 1)
    else match closeAt r with
      | some k => some (s, s + k + 2, 2)
      | none => if 93 ∈ r then findM (s + 1) r else some (s, s + 1 + r.length, 3)

section
variable {l : List Nat}
theorem drop_cons {q c : Nat} {r : List Nat} (h : l.drop q = c :: r) : q < l.length ∧ l.toArray.getD q 0 = c ∧ l.drop (q + 1) = r := by
  have hq : q < l.length := by
    rcases Nat.lt_or_ge q l.length with hh | hh
    · exact hh
    · rw [List.drop_eq_nil_of_le hh] at h; cases h
  rw [List.drop_eq_getElem_cons hq] at h
  cases h
  refine ⟨hq, ?_, rfl⟩
  simp [Array.getD, hq]
theorem drop_nil {q : Nat} (h : l.drop q = []) : l.length ≤ q := by simpa using h

theorem runLen_drop (c : Nat) : ∀ (r : List Nat) (q : Nat), l.drop q = r → runLen c l.toArray (l.length - q) q = (r.takeWhile (· != c)).length
  | [], q, h => by
    have := drop_nil h
    rw [show l.length - q = 0 by omega]; rfl
  | x :: r, q, h => by
    obtain ⟨h1, h2, h3⟩ := drop_cons h
    rw [show l.length - q = (l.length - (q + 1)) + 1 by omega, runLen, h2, runLen_drop c r (q + 1) h3]
    by_cases hx : x = c
    · rw [if_neg (by simpa using hx), List.takeWhile_cons_of_neg (by simpa using hx)]; rfl
    · rw [if_pos hx, List.takeWhile_cons_of_pos (by simpa using hx)]; rfl

/-- the machine comes from c to a like of c' -/
noncomputable def Rch (b : Nat) (c : Cfg) (Q : Cfg → Prop) : Prop := ∃ k c', k ≤ b ∧ Go k c c' ∧ Q c'
theorem Rch.step {a b : Nat} {c c1 : Cfg} {Q : Cfg → Prop} (h : Go a c c1) (r : Rch b c1 Q) : Rch (a + b) c Q := let ⟨k, c', h1, h2, h3⟩ := r; ⟨a + k, c', by omega, h.trans h2, h3⟩
theorem Rch.mono {a b : Nat} {c : Cfg} {Q Q' : Cfg → Prop} (r : Rch a c Q) (h : a ≤ b) (hq : ∀ c, Q c → Q' c) : Rch b c Q' := let ⟨k, c', h1, h2, h3⟩ := r; ⟨k, c', by omega, h2, hq _ h3⟩
theorem Rch.bind {a b : Nat} {c : Cfg} {Q Q' : Cfg → Prop} (r : Rch a c Q) (h : ∀ c', Q c' → Rch b c' Q') : Rch (a + b) c Q' := by
  obtain ⟨k, c', h1, h2, h3⟩ := r
  obtain ⟨k', c'', g1, g2, g3⟩ := h c' h3
  exact ⟨k + k', c'', by omega, h2.trans g2, g3⟩
theorem Rch.done {c : Cfg} {Q : Cfg → Prop} (h : Q c) : Rch 0 c Q := ⟨0, c, Nat.le_refl _, Go.refl c, h⟩

variable (st : Nat) (o : Bool) (li : Int) (fs : List Sre.Frame) (w : Nat)

/-- the lazy run up to the closing bracket -/
theorem take_yes (hw : w + 1 ≤ 1000) : ∀ (r : List Nat) (q j : Nat) (k : Int) (mk : Array (Option Nat)), l.drop q = r → closeAt r = some j →
    Rch (2 * r.length + 4) ⟨l.toArray, l.length, st, o, mk, 2, li, fTake q o k 2 li :: fs, w + 1, 31, q, q, none⟩ (fun c => ∃ k' q', c = ⟨l.toArray, l.length, st, o, mk.setIfInBounds 3 (some (q + j + 1)), 3, 2, fTake q' o k' 2 li :: fs, w + 1, 56, q + j + 1, q + j + 1, some true⟩)
  | [], q, j, k, mk, h, hc => by simp [closeAt] at hc
  | x :: r, q, j, k, mk, h, hc => by
    obtain ⟨h1, h2, h3⟩ := drop_cons h
    rw [closeAt] at hc
    split at hc
    · rename_i hx
      cases hc
      subst hx
      refine Rch.mono (Rch.step (go_lit31 _ _ _ _ _ _ _ _ _ _ _ h1 h2) (Rch.step (go_mark3 _ _ _ _ _ _ _ _ _ _) (Rch.step (go_jump35 _ _ _ _ _ _ _ _ _ _ _) (Rch.step (go_succ _ _ _ _ _ _ _ _ _ _ _) (Rch.done (Q := fun c => ∃ k' q', c = ⟨l.toArray, l.length, st, o, mk.setIfInBounds 3 (some (q + 0 + 1)), 3, 2, fTake q' o k' 2 li :: fs, w + 1, 56, q + 0 + 1, q + 0 + 1, some true⟩) ⟨k, q, rfl⟩))))) (by simp only [List.length_cons]; omega) fun _ h => h
    · rename_i hx
      split at hc
      · cases hc
      · rename_i hx2
        rw [Option.map_eq_some_iff] at hc
        obtain ⟨j', hj, hc⟩ := hc
        subst hc
        have ih := take_yes hw r (q + 1) j' (k + 1) mk h3 hj
        refine Rch.mono (Rch.step (go_litNo31 _ _ _ _ _ _ _ _ _ _ _ (fun e => hx (h2 ▸ e.2))) (Rch.step (go_takeMore _ _ _ _ _ _ _ _ _ _ h1 (by rw [h2]; exact hx2) hw) ih)) (by simp only [List.length_cons]; omega) fun c h => ?_
        obtain ⟨k', q', h⟩ := h
        exact ⟨k', q', by rw [h]; congr 1 <;> first | omega | (congr 2; omega)⟩

theorem take_no (hw : w + 1 ≤ 1000) : ∀ (r : List Nat) (q : Nat) (k : Int) (mk : Array (Option Nat)), l.drop q = r → closeAt r = none →
    Rch (2 * r.length + 2) ⟨l.toArray, l.length, st, o, mk, 2, li, fTake q o k 2 li :: fs, w + 1, 31, q, q, none⟩ (fun c => ∃ p hd, c = ⟨l.toArray, l.length, st, o, mk, 2, li, fs, w, 25, p, hd, some false⟩)
  | [], q, k, mk, h, hc => by
    have hq := drop_nil h
    exact Rch.mono (Rch.step (go_litNo31 _ _ _ _ _ _ _ _ _ _ _ (fun e => by have := e.1; omega)) (Rch.step (go_takeEnd _ _ _ _ _ _ _ _ _ _ (.inl hq)) (Rch.done (Q := fun c => ∃ p hd, c = ⟨l.toArray, l.length, st, o, mk, 2, li, fs, w, 25, p, hd, some false⟩) ⟨_, _, rfl⟩))) (by simp) fun _ h => h
  | x :: r, q, k, mk, h, hc => by
    obtain ⟨h1, h2, h3⟩ := drop_cons h
    rw [closeAt] at hc
    split at hc
    · cases hc
    · rename_i hx
      split at hc
      · rename_i hx2
        exact Rch.mono (Rch.step (go_litNo31 _ _ _ _ _ _ _ _ _ _ _ (fun e => hx (h2 ▸ e.2))) (Rch.step (go_takeEnd _ _ _ _ _ _ _ _ _ _ (.inr (h2.trans hx2))) (Rch.done (Q := fun c => ∃ p hd, c = ⟨l.toArray, l.length, st, o, mk, 2, li, fs, w, 25, p, hd, some false⟩) ⟨_, _, rfl⟩))) (by simp) fun _ h => h
      · rename_i hx2
        have hj : closeAt r = none := by simpa using hc
        have ih := take_no hw r (q + 1) (k + 1) mk h3 hj
        exact Rch.mono (Rch.step (go_litNo31 _ _ _ _ _ _ _ _ _ _ _ (fun e => hx (h2 ▸ e.2))) (Rch.step (go_takeMore _ _ _ _ _ _ _ _ _ _ h1 (by rw [h2]; exact hx2) hw) ih)) (by simp only [List.length_cons]; omega) fun c h => h

/-- the greedy run gives all back -/
theorem give_no (hw : w + 1 ≤ 1000) : ∀ (k p : Nat) (mk : Array (Option Nat)), k ≤ p → p < l.length → (p + 1 = l.length → l.toArray.getD p 0 ≠ 10) →
    Rch (2 * k + 2) ⟨l.toArray, l.length, st, o, mk, 4, li, fGive 42 p o (k : Nat) 4 li :: fs, w + 1, 49, p, p, none⟩ (fun c => ∃ p hd, c = ⟨l.toArray, l.length, st, o, mk, 4, li, fs, w, 42, p, hd, some false⟩)
  | 0, p, mk, hk, hp, hc => Rch.mono (Rch.step (go_atNo _ _ _ _ _ _ _ _ _ _ _ (by omega) (fun e => hc e.1 e.2)) (Rch.step (go_giveEnd _ _ _ _ _ _ _ _ _ _ rfl (by decide)) (Rch.done (Q := fun c => ∃ p hd, c = ⟨l.toArray, l.length, st, o, mk, 4, li, fs, w, 42, p, hd, some false⟩) ⟨_, _, rfl⟩))) (by simp) fun _ h => h
  | k + 1, p, mk, hk, hp, hc => by
    have ih := give_no hw k (p - 1) mk (by omega) (by omega) (fun e => by omega)
    refine Rch.mono (a := 1 + (1 + (2 * k + 2))) (Rch.step (go_atNo _ _ _ _ _ _ _ _ _ _ _ (by omega) (fun e => hc e.1 e.2)) (Rch.step (go_giveNo _ _ _ _ _ _ _ _ _ _ rfl (by omega) hw) ?_)) (by omega) fun _ h => h
    rw [show (((k + 1 : Nat) : Int) - 1) = ((k : Nat) : Int) by omega]
    exact ih
end

theorem getD_set {α : Type} (a : Array (Option α)) (i j : Nat) (v : Option α) : (a.setIfInBounds i v).getD j none = if i = j ∧ j < a.size then v else a.getD j none := by
  simp only [Array.getD_eq_getD_getElem?, Array.getElem?_setIfInBounds]
  by_cases h : i = j
  · subst h
    by_cases h2 : i < a.size
    · simp [h2]
    · simp [h2]
  · simp [h]

noncomputable def MarksOk (mk : Array (Option Nat)) (lm : Int) (b e g : Nat) : Prop :=
  (g = 1 ∧ lm = 1 ∧ mk.getD 0 none = some b ∧ mk.getD 1 none = some e) ∨
  (g = 2 ∧ lm = 3 ∧ mk.getD 0 none = none ∧ mk.getD 1 none = none ∧ mk.getD 2 none = some b ∧ mk.getD 3 none = some e) ∨
  (g = 3 ∧ lm = 5 ∧ mk.getD 0 none = none ∧ mk.getD 1 none = none ∧ mk.getD 2 none = none ∧ mk.getD 3 none = none ∧ mk.getD 4 none = some b ∧ mk.getD 5 none = some e)
noncomputable def Ends (l : List Nat) (x : Option (Nat × Nat × Nat)) (c : Cfg) : Prop := match x with
  | some (b, e, g) => ∃ o mk lm pc pos, c = ⟨l.toArray, l.length, b, o, mk, lm, (g : Int), [], 0, pc, pos, e, some true⟩ ∧ MarksOk mk lm b e g
  | none => ∃ st o mk lm li pc pos hd, c = ⟨l.toArray, l.length, st, o, mk, lm, li, [], 0, pc, pos, hd, some false⟩

section
variable {l : List Nat}
theorem takeWhile_all {c : Nat} : ∀ {r : List Nat}, c ∉ r → (r.takeWhile (· != c)).length = r.length
  | [], _ => rfl
  | x :: r, h => by
    rw [List.mem_cons, not_or] at h
    rw [List.takeWhile_cons_of_pos (by simpa using fun e => h.1 e.symm), List.length_cons, takeWhile_all h.2, List.length_cons]
theorem takeWhile_lt {c : Nat} : ∀ {r : List Nat}, c ∈ r → ∃ y, r.drop (r.takeWhile (· != c)).length = c :: y
  | [], h => nomatch h
  | x :: r, h => by
    by_cases hx : x = c
    · subst hx; exact ⟨r, by simp⟩
    · rcases List.mem_cons.mp h with e | h
      · exact absurd e.symm hx
      · rw [List.takeWhile_cons_of_pos (by simpa using hx), List.length_cons, List.drop_succ_cons]
        exact takeWhile_lt h

theorem search_ok (hn : l.length ≤ 16777216) : ∀ (r : List Nat) (s : Nat) (o : Bool) (mk : Array (Option Nat)), mk.size = 6 → l.drop s = r → s ≤ l.length →
    Rch ((r.length + 1) * (4 * l.length + 60)) ⟨l.toArray, l.length, s, o, mk, -1, -1, [fStart s o], 1, 5, s, s, none⟩ (Ends l (findM s r))
  | [], s, o, mk, hm, h, hs => by
    have hq : s = l.length := by have := drop_nil h; omega
    have hk : runLen 91 l.toArray (l.length - s) s = 0 := by rw [hq, Nat.sub_self]; rfl
    obtain ⟨_, h9⟩ := go_rep9No l.toArray l.length s o (mk.setIfInBounds 0 (some s)) 0 (-1) [fAlt 6 s o, fStart s o] 2 s s hn hs hk
    refine Rch.mono (Rch.step (go_branch _ _ _ _ _ _ _ _ _ _ _ (by decide)) (Rch.step (go_mark0 _ _ _ _ _ _ _ _ _ _) (Rch.step h9 (Rch.step (go_alt _ _ _ _ _ _ _ [fStart s o] 1 s _ 6 20 (by rfl) (by rfl) (by decide) rfl)
      (Rch.step (go_mark2 _ _ _ _ _ _ _ _ _ _) (Rch.step (go_litNo23 _ _ _ _ _ _ _ _ _ _ _ (fun e => by have := e.1; omega)) (Rch.step (go_alt _ _ _ _ _ _ _ [fStart s o] 1 s _ 20 37 (by rfl) (by rfl) (by decide) rfl)
      (Rch.step (go_mark4 _ _ _ _ _ _ _ _ _ _) (Rch.step (go_litNo40 _ _ _ _ _ _ _ _ _ _ _ (fun e => by have := e.1; omega)) (Rch.step (go_altEnd _ _ _ _ _ _ _ [fStart s o] 1 s _ rfl) (Rch.step (go_lastStart _ _ _ _ _ _ _ (by omega)) (Rch.done (Q := Ends l none) ⟨_, _, _, _, _, _, _, _, rfl⟩)))))))))))) (by simp only [List.length_nil]; omega) fun c h => h
  | x :: r, s, o, mk, hm, h, hs => by
    obtain ⟨h1, h2, h3⟩ := drop_cons h
    have hrl : r.length + s + 1 = l.length := by
      have := congrArg List.length h
      simp at this
      omega
    by_cases hx : x = 91
    · subst hx
      have hk : runLen 91 l.toArray (l.length - s) s = 0 := by rw [runLen_drop 91 _ s h]; simp
      obtain ⟨_, h9⟩ := go_rep9No l.toArray l.length s o (mk.setIfInBounds 0 (some s)) 0 (-1) [fAlt 6 s o, fStart s o] 2 s s hn hs hk
      have pre : ∀ {b : Nat} {Q : Cfg → Prop}, (∀ mk' : Array (Option Nat), mk'.size = 6 → mk'.getD 0 none = none → mk'.getD 1 none = none → mk'.getD 2 none = some s → Rch b ⟨l.toArray, l.length, s, o, mk', 2, -1, fTake (s + 1) o 0 2 (-1) :: [fAlt 20 s o, fStart s o], 3, 31, s + 1, s + 1, none⟩ Q) → Rch (8 + b) ⟨l.toArray, l.length, s, o, mk, -1, -1, [fStart s o], 1, 5, s, s, none⟩ Q := fun hb =>
        Rch.mono (Rch.step (go_branch _ _ _ _ _ _ _ _ _ _ _ (by decide)) (Rch.step (go_mark0 _ _ _ _ _ _ _ _ _ _) (Rch.step h9 (Rch.step (go_alt _ _ _ _ _ _ _ [fStart s o] 1 s _ 6 20 (by rfl) (by rfl) (by decide) rfl)
          (Rch.step (go_mark2 _ _ _ _ _ _ _ _ _ _) (Rch.step (go_lit23 _ _ _ _ _ _ _ _ _ _ _ h1 h2) (Rch.step (go_min25 _ _ _ _ _ _ _ _ _ _ _ (by omega) (by decide)) (hb _ (by simp [hm]) (by simp [getD_set, hm]) (by simp [getD_set, hm]) (by simp [getD_set, hm])))))))))
          (by omega) fun _ h => h
      rw [findM, if_neg (by simp)]
      cases hc : closeAt r with
      | some j =>
        simp only
        refine Rch.mono (pre fun mk' hm' e0 e1 e2 => Rch.bind (take_yes s o (-1) [fAlt 20 s o, fStart s o] 2 (by decide) r (s + 1) j 0 mk' h3 hc) fun c' hc' => (?_ : Rch 3 c' (Ends l (some (s, s + j + 2, 2))))) ?_ fun _ h => h
        · obtain ⟨k', q', rfl⟩ := hc'
          refine Rch.mono (Rch.step (go_yes _ _ _ _ _ _ _ _ _ (.inr (.inr (.inl rfl))) rfl) (Rch.step (go_yes _ _ _ _ _ _ _ _ _ (.inl rfl) rfl) (Rch.step (go_yes _ _ _ _ _ _ _ _ _ (.inr (.inr (.inr rfl))) rfl) (Rch.done (Q := Ends l (some (s, s + 1 + j + 1, 2))) ⟨_, _, _, _, _, rfl, .inr (.inl ⟨rfl, rfl, ?_, ?_, ?_, ?_⟩)⟩)))) (Nat.le_refl _) fun _ h => by rw [show s + j + 2 = s + 1 + j + 1 by omega]; exact h
          · rw [getD_set, if_neg (by omega)]; exact e0
          · rw [getD_set, if_neg (by omega)]; exact e1
          · rw [getD_set, if_neg (by omega)]; exact e2
          · rw [getD_set, if_pos (by omega)]
        · simp only [List.length_cons]
          have : (r.length + 1 + 1) * (4 * l.length + 60) ≥ 1 * (4 * l.length + 60) := Nat.mul_le_mul_right _ (by omega)
          omega
      | none =>
        simp only
        have rest : ∀ {b : Nat} {Q : Cfg → Prop}, (∀ mk' : Array (Option Nat), mk'.size = 6 → mk'.getD 0 none = none → mk'.getD 1 none = none → mk'.getD 2 none = none → mk'.getD 3 none = none → mk'.getD 4 none = some s →
            Rch b ⟨l.toArray, l.length, s, o, mk', 4, -1, fGive 42 (s + 1 + runLen 93 l.toArray (l.length - (s + 1)) (s + 1)) o (runLen 93 l.toArray (l.length - (s + 1)) (s + 1) : Nat) 4 (-1) :: [fAlt 37 s o, fStart s o], 3, 49, s + 1 + runLen 93 l.toArray (l.length - (s + 1)) (s + 1), s + 1 + runLen 93 l.toArray (l.length - (s + 1)) (s + 1), none⟩ Q) →
            Rch (8 + (2 * r.length + 2 + (4 + b))) ⟨l.toArray, l.length, s, o, mk, -1, -1, [fStart s o], 1, 5, s, s, none⟩ Q := fun hb => by
          refine pre fun mk' hm' e0 e1 e2 => Rch.bind (take_no s o (-1) [fAlt 20 s o, fStart s o] 2 (by decide) r (s + 1) 0 mk' h3 hc) fun c' hc' => ?_
          obtain ⟨p, hd, rfl⟩ := hc'
          exact Rch.mono (Rch.step (go_alt _ _ _ _ _ _ _ [fStart s o] 1 s _ 20 37 (by rfl) (by rfl) (by decide) rfl)
            (Rch.step (go_mark4 _ _ _ _ _ _ _ _ _ _) (Rch.step (go_lit40 _ _ _ _ _ _ _ _ _ _ _ h1 h2) (Rch.step (go_rep42 _ _ _ _ _ _ _ _ _ _ _ hn (by omega) (by decide)) (hb _ (by simp [hm']) (by simp [getD_set, hm']) (by simp [getD_set, hm']) (by simp [getD_set, hm']) (by simp [getD_set, hm']) (by simp [getD_set, hm']))))))
            (by omega) fun _ h => h
        have hrun := runLen_drop 93 r (s + 1) h3
        rw [hrun] at rest
        by_cases h93 : 93 ∈ r
        · rw [if_pos h93]
          obtain ⟨y, hy⟩ := takeWhile_lt h93
          rw [← h3, List.drop_drop, h3] at hy
          obtain ⟨g1, g2, g3⟩ := drop_cons hy
          have ih := search_ok hn r (s + 1) false
          refine Rch.mono (rest fun mk' hm' e0 e1 e2 e3 e4 => Rch.bind (give_no s o (-1) [fAlt 37 s o, fStart s o] 2 (by decide) (r.takeWhile (· != 93)).length (s + 1 + (r.takeWhile (· != 93)).length) mk' (by omega) g1 (fun _ e => by rw [g2] at e; cases e)) fun c' hc' => (?_ : Rch (1 + (1 + ((r.length + 1) * (4 * l.length + 60)))) c' (Ends l (findM (s + 1) r)))) ?_ fun _ h => h
          · obtain ⟨p, hd, rfl⟩ := hc'
            exact Rch.step (go_altEnd _ _ _ _ _ _ _ [fStart s o] 1 s _ rfl) (Rch.step (go_nextStart _ _ _ _ _ _ _ h1) (ih mk' hm' h3 (by omega)))
          · have hl2 : (r.takeWhile (· != 93)).length ≤ r.length := by have := runLen_le 93 l.toArray (l.length - (s + 1)) (s + 1); omega
            simp only [List.length_cons]
            have : (r.length + 1 + 1) * (4 * l.length + 60) = (r.length + 1) * (4 * l.length + 60) + (4 * l.length + 60) := Nat.succ_mul _ _
            omega
        · rw [if_neg h93]
          have hlen := takeWhile_all h93
          rw [hlen] at rest
          refine Rch.mono (rest fun mk' hm' e0 e1 e2 e3 e4 => Rch.step (go_at _ _ _ _ _ _ _ _ _ _ _ (by omega)) (Rch.step (go_mark5 _ _ _ _ _ _ _ _ _ _) (Rch.step (go_jump53 _ _ _ _ _ _ _ _ _ _ _) (Rch.step (go_succ _ _ _ _ _ _ _ _ _ _ _)
            (Rch.step (go_yes _ _ _ _ _ _ _ _ _ (.inr (.inl rfl)) rfl) (Rch.step (go_yes _ _ _ _ _ _ _ _ _ (.inl rfl) rfl) (Rch.step (go_yes _ _ _ _ _ _ _ _ _ (.inr (.inr (.inr rfl))) rfl)
            (Rch.done (Q := Ends l (some (s, s + 1 + r.length, 3))) ⟨_, _, _, _, _, rfl, .inr (.inr ⟨rfl, rfl, ?_, ?_, ?_, ?_, ?_, ?_⟩)⟩)))))))) ?_ fun _ h => h
          · rw [getD_set, if_neg (by omega)]; exact e0
          · rw [getD_set, if_neg (by omega)]; exact e1
          · rw [getD_set, if_neg (by omega)]; exact e2
          · rw [getD_set, if_neg (by omega)]; exact e3
          · rw [getD_set, if_neg (by omega)]; exact e4
          · rw [getD_set, if_pos (by omega)]
          · simp only [List.length_cons]
            have : (r.length + 1 + 1) * (4 * l.length + 60) ≥ 1 * (4 * l.length + 60) := Nat.mul_le_mul_right _ (by omega)
            omega
    · rw [findM, if_pos hx]
      have hrun := runLen_drop 91 _ s h
      rw [List.takeWhile_cons_of_pos (by simpa using hx), List.length_cons] at hrun
      have h9 := go_rep9 l.toArray l.length s o (mk.setIfInBounds 0 (some s)) 0 (-1) [fAlt 6 s o, fStart s o] 2 s s hn h1 (by rw [hrun]; omega) (by decide)
      rw [hrun] at h9
      refine Rch.mono (Rch.step (go_branch _ _ _ _ _ _ _ _ _ _ _ (by decide)) (Rch.step (go_mark0 _ _ _ _ _ _ _ _ _ _) (Rch.step h9 (Rch.step (go_mark1 _ _ _ _ _ _ _ _ _ _) (Rch.step (go_jump18 _ _ _ _ _ _ _ _ _ _ _) (Rch.step (go_succ _ _ _ _ _ _ _ _ _ _ _)
        (Rch.step (go_yes _ _ _ _ _ _ _ _ _ (.inr (.inl rfl)) rfl) (Rch.step (go_yes _ _ _ _ _ _ _ _ _ (.inl rfl) rfl) (Rch.step (go_yes _ _ _ _ _ _ _ _ _ (.inr (.inr (.inr rfl))) rfl)
        (Rch.done (Q := Ends l (some (s, s + ((r.takeWhile (· != 91)).length + 1), 1))) ⟨_, _, _, _, _, rfl, .inl ⟨rfl, rfl, ?_, ?_⟩⟩)))))))))) ?_ fun _ h => by rw [show s + 1 + (r.takeWhile (· != 91)).length = s + ((r.takeWhile (· != 91)).length + 1) by omega]; exact h
      · rw [getD_set, if_neg (by omega), getD_set, if_pos (by omega)]
      · rw [getD_set, if_pos (by simp [hm])]
      · simp only [List.length_cons]
        have : (r.length + 1 + 1) * (4 * l.length + 60) ≥ 1 * (4 * l.length + 60) := Nat.mul_le_mul_right _ (by omega)
        omega
end
end Mine

end
section
open PySem PySem.W PySem.Calls PyProof.Rows
set_option Elab.async false
set_option maxRecDepth 100000
namespace Mine
open PySem.Builtin.Re

theorem step_stop {m : Sre.M} (h : m.outcome.isSome = true) : m.step = m := by unfold Sre.M.step; rw [if_pos h]
theorem iter_stop {m : Sre.M} (h : m.outcome.isSome = true) : ∀ k, iter k m = m
  | 0 => rfl
  | k + 1 => by rw [iter, step_stop h]; exact iter_stop h k
theorem runFor_eq : ∀ (k : Nat) (m : Sre.M), m.runFor k = iter k m
  | 0, _ => rfl
  | k + 1, m => by
    rw [Sre.M.runFor]
    split
    · rename_i h; rw [iter_stop h]
    · exact runFor_eq k m.step

theorem drive_ok {M : Model} {A : Around} {E : Value → Shared → Prop} {s : Shared} {Q : Sre.M → Shared → Prop} : ∀ (N k : Nat) (m m' : Sre.M), 1 ≤ N → k ≤ 4 * N → iter k m = m' → m'.outcome.isSome = true → Q m' s → wpAny M A (reDrive N m) Q E s
  | 0, _, _, _, h, _, _, _, _ => absurd h (by decide)
  | N + 1, k, m, m', _, hk, he, ho, hQ => by
    rw [reDrive]
    show wpAny _ _ (if (m.runFor 4).outcome.isSome = true then pure (m.runFor 4) else do rule "sre.turn"; reDrive N (m.runFor 4)) _ _ _
    rw [runFor_eq]
    split
    · rename_i h4
      have : iter 4 m = m' := by
        rcases Nat.le_total k 4 with h | h
        · obtain ⟨j, e4⟩ := Nat.exists_eq_add_of_le h
          rw [e4, iter_add, he, iter_stop ho]
        · obtain ⟨j, rfl⟩ := Nat.exists_eq_add_of_le h
          rw [iter_add, iter_stop h4] at he
          exact he
      rw [this]
      exact wpAny_pure hQ
    · rename_i h4
      have hk4 : 4 < k := by
        rcases Nat.lt_or_ge 4 k with h | h
        · exact h
        · obtain ⟨j, e⟩ := Nat.exists_eq_add_of_le h
          exfalso
          apply h4
          rw [e, iter_add, he, iter_stop ho]
          exact ho
      obtain ⟨j, rfl⟩ := Nat.exists_eq_add_of_le (Nat.le_of_lt hk4)
      rw [iter_add] at he
      exact wpAny_bind (wpAny_rule (drive_ok N j _ m' (by omega) (by omega) he ho hQ))

theorem rules_ok {M : Model} {A : Around} {E : Value → Shared → Prop} {s : Shared} {α : Type} (p : α → Bool) (f : α → String) : ∀ (l : List α) {Q : PUnit → Shared → Prop}, Q ⟨⟩ s → wpAny M A (forIn l PUnit.unit fun i r => (if p i = true then do rule (f i); pure (ForInStep.yield PUnit.unit) else pure (ForInStep.yield PUnit.unit)) : Sem PUnit) Q E s
  | [], Q, h => wpAny_pure h
  | x :: l, Q, h => by
    rw [List.forIn_cons]
    refine wpAny_bind ?_
    split
    · exact wpAny_bind (wpAny_rule (wpAny_pure (rules_ok p f l h)))
    · exact wpAny_pure (rules_ok p f l h)

theorem runToEnd_ok {M : Model} {A : Around} {E : Value → Shared → Prop} {s : Shared} {Q : Option Sre.M → Shared → Prop} {m m' : Sre.M} {k : Nat} (hk : k ≤ 4 * 2 ^ 64) (he : iter k m = m')
    (h : (m'.outcome = some .matched ∧ Q (some m') s) ∨ (m'.outcome = some .failed ∧ Q none s)) : wpAny M A (reRunToEnd m) Q E s := by
  unfold reRunToEnd
  have ho : m'.outcome.isSome = true := by rcases h with h | h <;> rw [h.1] <;> rfl
  refine wpAny_bind (drive_ok _ k m m' (by decide) hk he ho (wpAny_bind ?_))
  refine rules_ok (fun i => m'.seen.has i) (fun i => Sre.names.getD i "") _ ?_
  rcases h with ⟨h1, h2⟩ | ⟨h1, h2⟩ <;> rw [h1] <;> exact wpAny_pure h2

noncomputable def FoundOk (l : List Nat) (x : Option (Nat × Nat × Nat)) (y : Option Sre.M) : Prop := match x with
  | some (b, e, g) => ∃ m, y = some m ∧ m.start = b ∧ m.handed = e ∧ m.lastindex = (g : Int) ∧ MarksOk m.marks m.lastmark b e g
  | none => y = none

theorem search_run {M : Model} {A : Around} {E : Value → Shared → Prop} {s : Shared} {l : List Nat} {st : Nat} (hn : l.length ≤ 16777216) (hs : st ≤ l.length) :
    wpAny M A (reRunToEnd (Sre.forSearch theCode l.toArray 3 st l.length false)) (fun x s' => s' = s ∧ FoundOk l (findM st (l.drop st)) x) E s := by
  rcases Nat.lt_or_ge st l.length with hlt | hge
  · have e : Sre.forSearch theCode l.toArray 3 st l.length false = mkc ⟨l.toArray, l.length, st, true, Array.replicate 6 none, -1, -1, [fStart st true], 1, 5, st, st, none⟩ (({} : Sre.Seen).add 14) := by
      unfold Sre.forSearch
      have h1 : ¬ ((decide (st > l.length) || decide (l.length - st < (Sre.header theCode).1)) = true) := by
        rw [show (Sre.header theCode).1 = 1 from rfl]
        simp only [Bool.or_eq_true, decide_eq_true_eq]
        omega
      simp only
      rw [if_neg h1]
      rfl
    obtain ⟨k, c', hk, hg, hc⟩ := search_ok hn (l.drop st) st true (Array.replicate 6 none) (by simp) rfl hs
    obtain ⟨seen', he⟩ := hg (({} : Sre.Seen).add 14)
    rw [e]
    have hlen : (l.drop st).length + 1 ≤ 16777217 := by simp; omega
    have hk2 : ((l.drop st).length + 1) * (4 * l.length + 60) ≤ 16777217 * (4 * 16777216 + 60) := Nat.mul_le_mul hlen (by omega)
    generalize mkc ⟨l.toArray, l.length, st, true, Array.replicate 6 none, -1, -1, [fStart st true], 1, 5, st, st, none⟩ (({} : Sre.Seen).add 14) = m0 at he
    have hb : k + 1 ≤ 4 * 2 ^ 64 := by omega
    have hit : iter (k + 1) m0 = (mkc c' seen').step := by rw [iter_add, he]; rfl
    generalize hff : findM st (l.drop st) = ff at hc
    cases ff with
    | some x =>
      obtain ⟨b, e, g⟩ := x
      obtain ⟨o, mk, lm, pc, pos, hcc, hm⟩ := hc
      refine runToEnd_ok hb hit (.inl ⟨?_, rfl, _, rfl, ?_, ?_, ?_, ?_⟩)
      · rw [hcc]; rfl
      · rw [hcc]; rfl
      · rw [hcc]; rfl
      · rw [hcc]; rfl
      · rw [hcc]; exact hm
    | none =>
      obtain ⟨st, o, mk, lm, li, pc, pos, hd, hcc⟩ := hc
      refine runToEnd_ok hb hit (.inr ⟨?_, rfl, rfl⟩)
      rw [hcc]; rfl
  · have hst : st = l.length := by omega
    subst hst
    rw [List.drop_length]
    refine runToEnd_ok (k := 1) (m' := (Sre.forSearch theCode l.toArray 3 l.length l.length false).step) (by decide) rfl (.inr ⟨?_, rfl, rfl⟩)
    unfold Sre.forSearch
    have h1 : ((decide (l.length > l.length) || decide (l.length - l.length < (Sre.header theCode).1)) = true) := by
      rw [show (Sre.header theCode).1 = 1 from rfl]
      simp
    simp only
    rw [if_pos h1]
    rfl
end Mine

end
section
open PySem PySem.W PySem.Calls PyProof.Rows
set_option Elab.async false
set_option maxRecDepth 100000
namespace Mine
open Sem (wp)

theorem slot_scan_ga : PySem.Slot "_sre.SRE_Scanner" "__getattribute__" "object.__getattribute__" :=
  .of (owner := "object") (n := "__getattribute__") (by rw [typeLookup_type, builtinLookup_eq_fast]; kernel_rfl) (by decide +kernel) (by decide +kernel) (by decide +kernel)
    (by first | exact .inl (by decide +kernel) | exact .inr (by decide +kernel)) (by rw [isSubtype_type]; kernel_rfl)
theorem entry_ga : entryFor table "object.__getattribute__" = some Builtin.«object.__getattribute__» := entryFor_of_tree (by kernel_rfl)
theorem args_ga (a b : Value) : argsOk "object.__getattribute__" ⟨[a, b], []⟩ := by unfold argsOk; kernel_rfl
theorem slot_scan_search : PySem.Slot "_sre.SRE_Scanner" "search" "_sre.SRE_Scanner.search" :=
  .of (owner := "_sre.SRE_Scanner") (n := "search") (by rw [typeLookup_type, builtinLookup_eq_fast]; kernel_rfl) (by decide +kernel) (by decide +kernel) (by decide +kernel)
    (by first | exact .inl (by decide +kernel) | exact .inr (by decide +kernel)) (by rw [isSubtype_type]; kernel_rfl)
theorem type_scan_search : typeOf (.builtin "_sre.SRE_Scanner.search") = pure (.type "method_descriptor") := by show builtinType _ = _; rw [builtinType_eq_fast]; kernel_rfl
theorem entry_scan_search : entryFor table "_sre.SRE_Scanner.search" = some Builtin.«_sre.SRE_Scanner.search» := entryFor_of_tree (by kernel_rfl)
theorem lk_md_get : typeLookup (.type "method_descriptor") "__get__" = pure (some (.builtin "method_descriptor.__get__")) := by rw [typeLookup_type, builtinLookup_eq_fast]; kernel_rfl
theorem lk_md_set : typeLookup (.type "method_descriptor") "__set__" = pure none := by rw [typeLookup_type, builtinLookup_eq_fast]; kernel_rfl
theorem lk_md_del : typeLookup (.type "method_descriptor") "__delete__" = pure none := by rw [typeLookup_type, builtinLookup_eq_fast]; kernel_rfl
theorem slot_md_get : PySem.Slot "method_descriptor" "__get__" "method_descriptor.__get__" :=
  .of (owner := "method_descriptor") (n := "__get__") (by rw [typeLookup_type, builtinLookup_eq_fast]; kernel_rfl) (by decide +kernel) (by decide +kernel) (by decide +kernel)
    (by first | exact .inl (by decide +kernel) | exact .inr (by decide +kernel)) (by rw [isSubtype_type]; kernel_rfl)
theorem entry_md_get : entryFor table "method_descriptor.__get__" = some Builtin.«method_descriptor.__get__» := entryFor_of_tree (by kernel_rfl)
theorem args_md_get (a b c : Value) : argsOk "method_descriptor.__get__" ⟨[a, b, c], []⟩ := by unfold argsOk; kernel_rfl
theorem sub_scan : isSubtype (.type "_sre.SRE_Scanner") (.type "_sre.SRE_Scanner") = pure true := by rw [isSubtype_type]; kernel_rfl
theorem cut_search : "_sre.SRE_Scanner.search".cutAt '.' = ["_sre", "SRE_Scanner", "search"] := by first | rfl | decide +kernel
theorem owner_search : (".".intercalate ("_sre.SRE_Scanner.search".cutAt '.').dropLast) = "_sre.SRE_Scanner" := by rw [cut_search]; decide +kernel

theorem sub_scan_owner : isSubtype (.type "_sre.SRE_Scanner") (.type (".".intercalate ("_sre.SRE_Scanner.search".cutAt '.').dropLast)) = pure true := by rw [owner_search]; exact sub_scan
theorem isType_scan : isType (.type "_sre.SRE_Scanner") = pure true := by kernel_rfl
section
variable {prog : Program} {w : World} {A : Around} {E : Value → Shared → Prop} {h : Heap} {g : Array GenState} {d : Drawn} {t : Nat} {os : OsState} {a : Addr} {o : Obj}
theorem search_get {R : Result → Shared → Prop} (hx : h.get? a = some o) (hc : o.cls = .type "_sre.SRE_Scanner")
    (hq : R (.ok (.ret (.ref h.objs.size))) ⟨h.push { cls := .type "builtin_function_or_method", data := .fields #[.builtin "_sre.SRE_Scanner.search", .ref a] }, g, d, t, os⟩) :
    codeAny (model prog w) A (.call (.builtin "method_descriptor.__get__") ⟨[.builtin "_sre.SRE_Scanner.search", .ref a, .type "_sre.SRE_Scanner"], []⟩) R ⟨h, g, d, t, os⟩ := by
  have hT : (⟨h, g, d, t, os⟩ : Shared).TypeIs (.ref a) "_sre.SRE_Scanner" := ⟨_, hx, hc⟩
  have hT5 : (⟨h, g, d, t, os⟩ : Shared).TypeIs (.builtin "_sre.SRE_Scanner.search") "method_descriptor" := type_scan_search
  have f8 := sub_scan_owner
  have f9 := isType_scan
  refine codeAny_call_builtin slot_md_get.plain entry_md_get (slot_md_get.check _ _ _ _ _ _ _ _ hT5 (args_md_get _ _ _) ?_)
  unfold Builtin.«method_descriptor.__get__»
  repeat (any_goals (first | assumption | wp_step))

theorem search_entry {vs : Array Value} {tk : Tok} {Q : Fin → Shared → Prop} (hx : h.get? a = some { cls := .type "_sre.SRE_Scanner", data := .fields vs })
    (hq : Q (.done (.ret (.ref h.objs.size))) ⟨h.push { cls := .type "builtin_function_or_method", data := .fields #[.builtin "_sre.SRE_Scanner.search", .ref a] }, g, d, t, os⟩) :
    wpAny (model prog w) A (Builtin.«object.__getattribute__» ⟨[.ref a, .str "search" tk], []⟩) Q E ⟨h, g, d, t, os⟩ := by
  have hT : (⟨h, g, d, t, os⟩ : Shared).TypeIs (.ref a) "_sre.SRE_Scanner" := ⟨_, hx, rfl⟩
  have hT5 : (⟨h, g, d, t, os⟩ : Shared).TypeIs (.builtin "_sre.SRE_Scanner.search") "method_descriptor" := type_scan_search
  have f4 := slot_scan_search.lookup
  have f5 := type_scan_search
  have f6 := lk_md_get
  have f7 := lk_md_set
  have f8 := lk_md_del
  repeat (any_goals (first | assumption | wp_step))
  exact search_get hx rfl (wpAny_pure hq)

theorem search_attr {vs : Array Value} {Q : Value → Shared → Prop} (hx : h.get? a = some { cls := .type "_sre.SRE_Scanner", data := .fields vs })
    (hq : Q (.ref h.objs.size) ⟨h.push { cls := .type "builtin_function_or_method", data := .fields #[.builtin "_sre.SRE_Scanner.search", .ref a] }, g, d, t + 1, os⟩) :
    wpAny (model prog w) A (getAttr (.ref a) "search") Q E ⟨h, g, d, t, os⟩ := by
  have hT : (⟨h, g, d, t, os⟩ : Shared).TypeIs (.ref a) "_sre.SRE_Scanner" := ⟨_, hx, rfl⟩
  have hT' : (⟨h, g, d, t + 1, os⟩ : Shared).TypeIs (.ref a) "_sre.SRE_Scanner" := ⟨_, hx, rfl⟩
  have f2 := slot_scan_ga.lookup
  have f3 := slot_scan_ga.bind (.ref a)
  unfold getAttr getAttrBy
  repeat (any_goals (first | assumption | wp_step))
  refine codeAny_call_builtin slot_scan_ga.plain entry_ga (slot_scan_ga.check _ _ _ _ _ _ _ _ hT' (args_ga _ _) (search_entry hx ?_))
  exact wpAny_pure hq
end
end Mine

end
section
open PySem PySem.W PySem.Calls PyProof.Rows
set_option Elab.async false
set_option maxRecDepth 100000
namespace Mine
open PySem.Builtin.Re
open Sem (wp)

section
variable {prog : Program} {w : World} {A : Around} {E : Value → Shared → Prop} {s : Shared}
theorem noColl {stop : String} {Q : Unit → Shared → Prop} (h : Q () s) : wpAny (Mg prog w) A (noCollectionInside stop) Q E s := by
  unfold noCollectionInside
  refine wpAny_bind (wpAny_runValue (codeAny_of_tree ?_))
  show wpAny (Mg prog w) _ (denG (.builtin "gc.ask" ⟨[rawInt 13], []⟩)) _ _ s
  rw [show denG (.builtin "gc.ask" ⟨[rawInt 13], []⟩) = ret (.bool false) from rfl]
  exact wpAny_pure (wpAny_pure h)

theorem code_back : ((theCode.map fun w => (rawInt (w : Nat) : Value)).map reRawOf).map (·.toNat) = theCode := by decide +kernel

structure PatAt (h : Heap) (pat ct : Addr) : Prop where
  obj : ∃ p0 p1 p3 p4, h.get? pat = some { cls := .type "re.Pattern", data := .fields #[p0, p1, rawInt 3, p3, p4, .ref ct, rawInt 0] }
  code : ∃ n, h.get? ct = some { cls := .type "tuple", data := .seq (theCode.map fun w => (rawInt (w : Nat) : Value)) n }

theorem target_ok {pat ct : Addr} {l : List Nat} {tk : Tok} {Q : ReTarget → Shared → Prop} (hp : PatAt s.heap pat ct)
    (h : Q { pattern := .ref pat, string := .str ⟨l.toArray⟩ tk, code := theCode, text := l.toArray, kind := 0, groups := 3, pos := 0, lim := l.toArray.size } s) :
    wpAny (model prog w) A (reWholeTarget (.ref pat) (.str ⟨l.toArray⟩ tk)) Q E s := by
  obtain ⟨p0, p1, p3, p4, ho⟩ := hp.obj
  obtain ⟨n, hc⟩ := hp.code
  obtain ⟨h, g, d, t, os⟩ := s
  unfold reWholeTarget
  repeat (any_goals (first | assumption | wp_step))
  simp only [Option.getD_some, code_back]
  exact h

noncomputable abbrev scanObj (pat : Addr) (l : List Nat) (tk : Tok) (st : Int) : Obj := { cls := .type "_sre.SRE_Scanner", data := .fields #[.ref pat, .str ⟨l.toArray⟩ tk, rawInt st, rawInt 0, rawInt (l.length : Nat), .bool false] }

noncomputable def spansOf (m : Sre.M) : List Value := (List.range 3).flatMap (fun g =>
    match if ((2 * g + 1 : Nat) : Int) ≤ m.lastmark then (m.marks.getD (2 * g) none, m.marks.getD (2 * g + 1) none) else (none, none) with
    | (some b, some e) => [rawInt (b : Nat), rawInt (e : Nat)]
    | _ => [rawInt (-1), rawInt (-1)])
noncomputable def badAt (m : Sre.M) (g : Nat) : Bool := match m.marks.getD (2 * g) none, m.marks.getD (2 * g + 1) none with | some b, some e => ((2 * g + 1 : Nat) : Int) ≤ m.lastmark && e < b | _, _ => false
noncomputable def badSpan (m : Sre.M) : Bool := (List.range 3).any (badAt m)
theorem reNewMatch_eq (p st : Value) (pos lim : Nat) (m : Sre.M) : reNewMatch p st 3 pos lim m = (do
    if badSpan m then reWrongSpan
    newFields "re.Match" [st, p, rawInt pos, rawInt lim, rawInt m.lastindex, ← newTuple (rawInt m.start :: rawInt m.handed :: spansOf m)]) := rfl

theorem spans_ok {m : Sre.M} {b e g : Nat} (h : MarksOk m.marks m.lastmark b e g) : spansOf m = (List.range 3).flatMap fun k => if k + 1 = g then [rawInt (b : Nat), rawInt (e : Nat)] else [rawInt (-1), rawInt (-1)] := by
  unfold spansOf
  rcases h with ⟨rfl, hl, h0, h1⟩ | ⟨rfl, hl, h0, h1, h2, h3⟩ | ⟨rfl, hl, h0, h1, h2, h3, h4, h5⟩
  · simp only [Array.getD_eq_getD_getElem?] at h0 h1
    simp [List.range_succ, hl, h0, h1]
  · simp only [Array.getD_eq_getD_getElem?] at h0 h1 h2 h3
    simp [List.range_succ, hl, h0, h1, h2, h3]
  · simp only [Array.getD_eq_getD_getElem?] at h0 h1 h2 h3 h4 h5
    simp [List.range_succ, hl, h0, h1, h2, h3, h4, h5]
theorem spans_any {m : Sre.M} {b e g : Nat} (h : MarksOk m.marks m.lastmark b e g) (hbe : b ≤ e) : badSpan m = false := by
  have far : ∀ k, ¬ (((2 * k + 1 : Nat) : Int) ≤ m.lastmark) → badAt m k = false := fun k hk => by
    unfold badAt
    split
    · rw [decide_eq_false hk]; rfl
    · rfl
  have near : ∀ k, m.marks.getD (2 * k) none = none → badAt m k = false := fun k hk => by
    unfold badAt
    rw [hk]
  have here : ∀ k, m.marks.getD (2 * k) none = some b → m.marks.getD (2 * k + 1) none = some e → badAt m k = false := fun k h1 h2 => by
    unfold badAt
    rw [h1, h2]
    show (decide _ && decide (e < b)) = false
    rw [show decide (e < b) = false from decide_eq_false (by omega), Bool.and_false]
  show ([0, 1, 2] : List Nat).any (badAt m) = false
  simp only [List.any_cons, List.any_nil, Bool.or_false, Bool.or_eq_false_iff]
  rcases h with ⟨rfl, hl, h0, h1⟩ | ⟨rfl, hl, h0, h1, h2, h3⟩ | ⟨rfl, hl, h0, h1, h2, h3, h4, h5⟩
  · exact ⟨here 0 h0 h1, far 1 (by rw [hl]; decide), far 2 (by rw [hl]; decide)⟩
  · exact ⟨near 0 h0, here 1 h2 h3, far 2 (by rw [hl]; decide)⟩
  · exact ⟨near 0 h0, near 1 h2, here 2 h4 h5⟩

theorem newMatch_ok {M : Model} {pat : Addr} {l : List Nat} {tk : Tok} {m : Sre.M} {b e g : Nat} {Q : Value → Shared → Prop} (hs : m.start = b) (he : m.handed = e) (hi : m.lastindex = (g : Int)) (hm : MarksOk m.marks m.lastmark b e g) (hbe : b ≤ e)
    (h : Q (.ref (s.heap.objs.size + 1)) { s with heap := (s.heap.push { cls := .type "tuple", data := .seq (matSpans b e g).toArray }).push { cls := .type "re.Match", data := .fields #[.str ⟨l.toArray⟩ tk, .ref pat, rawInt 0, rawInt (l.length : Nat), rawInt g, .ref s.heap.objs.size] } }) :
    wpAny M A (reNewMatch (.ref pat) (.str ⟨l.toArray⟩ tk) 3 0 l.length m) Q E s := by
  rw [reNewMatch_eq, spans_ok hm, spans_any hm hbe, hs, he, hi]
  simp only [Bool.false_eq_true, if_false]
  have hsz := szl
  have hlen : (matSpans b e g).length ≤ sizeLine := by
    have : (matSpans b e g).length = 8 := by unfold matSpans; simp [List.range_succ]; split <;> split <;> split <;> rfl
    omega
  refine wpAny_bind (wpAny_newTuple (items := matSpans b e g) ?_ hlen)
  refine wpAny_newObj_type ?_ (by size_fits)
  rw [Heap.size_push]
  exact h

theorem findM_le : ∀ (r : List Nat) (s : Nat) {b e g : Nat}, findM s r = some (b, e, g) → s ≤ b ∧ b < e ∧ e ≤ s + r.length ∧ 1 ≤ g ∧ g ≤ 3
  | [], s, b, e, g, h => by simp [findM] at h
  | c :: r, s, b, e, g, h => by
    rw [findM] at h
    have hc : ∀ (r : List Nat) (k : Nat), closeAt r = some k → k < r.length := fun r => by
      induction r with
      | nil => intro k h; simp [closeAt] at h
      | cons x r ih =>
        intro k h
        rw [closeAt] at h
        split at h
        · cases h; simp
        · split at h
          · cases h
          · rw [Option.map_eq_some_iff] at h
            obtain ⟨k', h1, h2⟩ := h
            have := ih k' h1
            simp; omega
    split at h
    · cases h
      have := (List.takeWhile_sublist (l := r) (fun x => x != 91)).length_le
      simp; omega
    · split at h
      · rename_i k hk
        cases h
        have := hc r k hk
        simp; omega
      · split at h
        · have := findM_le r (s + 1) h
          simp; omega
        · cases h
          simp; omega

/-- a scanner's step -/
theorem scan_ok {pat ct sc : Addr} {l : List Nat} {tk : Tok} {st : Nat} {Q : Fin → Shared → Prop} (hp : PatAt s.heap pat ct) (ho : s.heap.get? sc = some (scanObj pat l tk (st : Nat))) (hst : st ≤ l.length) (hn : l.length ≤ 16777216)
    (hsome : ∀ b e g h', findM st (l.drop st) = some (b, e, g) → h'.get? sc = some (scanObj pat l tk (e : Nat)) → Heap.SameBut sc s.heap h' →
      Q (.done (.ret (.ref (h'.objs.size + 1)))) { s with heap := (h'.push { cls := .type "tuple", data := .seq (matSpans b e g).toArray }).push { cls := .type "re.Match", data := .fields #[.str ⟨l.toArray⟩ tk, .ref pat, rawInt 0, rawInt (l.length : Nat), rawInt g, .ref h'.objs.size] } })
    (hnone : ∀ h', findM st (l.drop st) = none → h'.get? sc = some (scanObj pat l tk (-1)) → Heap.SameBut sc s.heap h' → Q (.done (.ret .none)) { s with heap := h' }) :
    wpAny (Mg prog w) A (Builtin.«_sre.SRE_Scanner.search» ⟨[.ref sc], []⟩) Q E s := by
  unfold Builtin.«_sre.SRE_Scanner.search» reScan
  show wpAny _ _ (fieldsOf (.ref sc) >>= _) _ _ s
  refine wpAny_bind (wpAny_fieldsOf ho rfl ?_)
  show wpAny _ _ (if ((st : Nat) : Int) < 0 then _ else _) _ _ s
  rw [if_neg (by omega)]
  refine wpAny_bind (noColl (wpAny_bind (any_mono_model (target_ok hp ?_))))
  show wpAny _ _ (reRunToEnd (Sre.forSearch theCode l.toArray 3 st l.length false) >>= _) _ _ s
  refine wpAny_bind (wpAny_mono (search_run hn hst) (fun x s' ⟨es, hx⟩ => ?_) fun _ _ h => h)
  subst es
  generalize hf : findM st (l.drop st) = ff at hx
  cases ff with
  | none =>
    have hx' : x = none := hx
    subst hx'
    refine wpAny_bind (wpAny_setField ho rfl (by simp) (wpAny_pure (hnone _ hf ?_ (Heap.SameBut.update ..))))
    exact Heap.get?_update_self _ ho rfl
  | some y =>
    obtain ⟨b, e, g⟩ := y
    obtain ⟨m, rfl, hs, he, hi, hm⟩ := hx
    obtain ⟨hb1, hb2, hb3, hg1, hg2⟩ := findM_le _ _ hf
    simp only
    refine wpAny_bind (wpAny_setField ho rfl (by simp) ?_)
    rw [he]
    have ho1 : (s'.heap.update sc (Obj.mapFields (·.setIfInBounds 2 (rawInt (e : Nat))))).get? sc = some (scanObj pat l tk (e : Nat)) := Heap.get?_update_self _ ho rfl
    refine wpAny_bind (wpAny_setField ho1 rfl (by simp) ?_)
    rw [hs, show (e == b) = false from by rw [beq_eq_false_iff_ne]; omega]
    have ho2 : ((s'.heap.update sc (Obj.mapFields (·.setIfInBounds 2 (rawInt (e : Nat))))).update sc (Obj.mapFields (·.setIfInBounds 5 (.bool false)))).get? sc = some (scanObj pat l tk (e : Nat)) := Heap.get?_update_self _ ho1 rfl
    show wpAny _ _ (reNewMatch (.ref pat) (.str ⟨l.toArray⟩ tk) 3 0 l.length m >>= _) _ _ _
    refine wpAny_bind (newMatch_ok hs he hi hm (Nat.le_of_lt hb2) (wpAny_pure ?_))
    exact hsome b e g _ hf ho2 ((Heap.SameBut.update ..).trans (Heap.SameBut.update ..))
end
end Mine

end
section
open PySem PySem.W PySem.Calls PyProof.Rows
set_option Elab.async false
set_option maxRecDepth 100000
namespace Mine
open PySem.Builtin.Re
open Sem (wp)

theorem kind_search : builtinKind "_sre.SRE_Scanner.search" = some .method := by decide +kernel
theorem sub_scan_mod : isSubtype (.type "_sre.SRE_Scanner") (.type "module") = pure false := by rw [isSubtype_type]; kernel_rfl
theorem sig_search : Manifest.signature? "_sre.SRE_Scanner.search" = some ⟨.nothing, "SRE_Scanner.search", "search", .self, []⟩ := by kernel_rfl
theorem vararg_search : Manifest.varargsMethods.contains "_sre.SRE_Scanner.search" = false := by decide +kernel
section
variable {prog : Program} {w : World} {A : Around} {E : Value → Shared → Prop} {s : Shared}
theorem bound_check {M : Model} {sc : Addr} {vs : Array Value} {Q : Unit → Shared → Prop} (ho : s.heap.get? sc = some { cls := .type "_sre.SRE_Scanner", data := .fields vs }) (h : Q () s) :
    wpAny M A (checkBoundCall "_sre.SRE_Scanner.search" ⟨[.ref sc], []⟩) Q E s := by
  have hT : s.TypeIs (.ref sc) "_sre.SRE_Scanner" := ⟨_, ho, rfl⟩
  unfold checkBoundCall
  rw [sig_search, kind_search]
  show wpAny _ _ (isInstance (.ref sc) (.type "module") >>= _) _ _ _
  refine wpAny_bind (wpAny_isInstance hT sub_scan_mod ?_)
  rw [vararg_search]
  simp only [Bool.or_false, Bool.false_eq_true, if_false]
  show wpAny _ _ (isType (.ref sc) >>= _) _ _ _
  refine wpAny_bind ?_
  show wpAny _ _ (loadHead sc >>= _) _ _ _
  refine wpAny_bind (wpAny_loadPart ho ?_)
  refine wpAny_pure ?_
  simp only [Bool.false_eq_true, if_false]
  refine wpAny_bind (wpAny_typeOf hT ?_)
  exact wpAny_of_eq (a := ()) (by rfl) h

theorem mg_den (c : Code) : (Mg prog w).den c = denG c := rfl
theorem bound_call {sc bm : Addr} {vs : Array Value} {R : Result → Shared → Prop} (hb : s.heap.get? bm = some { cls := .type "builtin_function_or_method", data := .fields #[.builtin "_sre.SRE_Scanner.search", .ref sc] })
    (ho : s.heap.get? sc = some { cls := .type "_sre.SRE_Scanner", data := .fields vs })
    (h : wpAny (Mg prog w) (A.under (.builtin "_sre.SRE_Scanner.search" ⟨[.ref sc], []⟩)) (Builtin.«_sre.SRE_Scanner.search» ⟨[.ref sc], []⟩) (fun fin s' => match fin with | .done f => R (.ok f) s' | .again c' => c'.quiet = true ∧ codeAny (Mg prog w) A c' R s') (fun e s' => R (.error e) s') s) :
    codeAny (Mg prog w) A (.call (.ref bm) ⟨[], []⟩) R s := by
  refine codeAny_of_tree ?_
  show wpAny _ _ (denG (.call (.ref bm) ⟨[], []⟩)) _ _ _
  rw [denG_of_not rfl]
  show wpAny _ _ (load bm >>= _) _ _ _
  refine wpAny_bind (wpAny_load hb ?_)
  show wpAny _ _ (checkBoundCall "_sre.SRE_Scanner.search" ⟨[.ref sc], []⟩ >>= _) _ _ _
  refine wpAny_bind (bound_check ho ?_)
  refine wpAny_bind (wpAny_pure (wpAny_pure ⟨plainId_quiet (by decide +kernel) _, codeAny_of_tree ?_⟩))
  rw [mg_den, denG_of_not rfl, den_builtin, entry_scan_search]
  exact h
end
end Mine

end
section
open PySem PySem.W PySem.Calls PyProof.Rows
set_option Elab.async false
set_option maxRecDepth 100000
namespace Mine
open PySem.Builtin.Re
open Sem (wp)

theorem sub_mat_none : isSubtype (.type "re.Match") (.type "NoneType") = pure false := by rw [isSubtype_type]; kernel_rfl
theorem slot_mat_eq : PySem.Slot "re.Match" (cmpInfo .Eq).2.2 "object.__eq__" :=
  .of (owner := "object") (n := "__eq__") (by rw [typeLookup_type, builtinLookup_eq_fast]; kernel_rfl) (by decide +kernel) (by decide +kernel) (by decide +kernel)
    (by first | exact .inl (by decide +kernel) | exact .inr (by decide +kernel)) (by rw [isSubtype_type]; kernel_rfl)
theorem entry_obj_eq : entryFor table "object.__eq__" = some Builtin.«object.__eq__» := entryFor_of_tree (by kernel_rfl)
theorem args_obj_eq (a b : Value) : argsOk "object.__eq__" ⟨[a, b], []⟩ := by unfold argsOk; kernel_rfl

section
variable {prog : Program} {w : World} {A : Around} {E : Value → Shared → Prop} {s : Shared}
theorem none_eq {m : Addr} {o : Obj} {Q : Bool → Shared → Prop} (hu : A.units < cLine) (ho : s.heap.get? m = some o) (hc : o.cls = .type "re.Match") (h : Q false s) : wpAny (model prog w) A (eqBool .none (.ref m)) Q E s := by
  have hT : s.TypeIs (.ref m) "re.Match" := ⟨o, ho, hc⟩
  have hN : s.TypeIs .none "NoneType" := rfl
  unfold eqBool
  refine wpAny_holding ?_
  show wpAny _ _ (if (Value.none == Value.ref m) = true then _ else _) _ _ _
  rw [if_neg (show ¬ ((Value.none == Value.ref m) = true) from Bool.false_ne_true)]
  show wpAny _ _ (richCompare .Eq .none (.ref m) >>= truthOfDropped) _ _ _
  refine wpAny_bind ?_
  unfold richCompare
  refine wpAny_holding (wpAny_bind (wpAny_cRoomFor hu ?_))
  show wpAny _ _ (typeOf .none >>= _) _ _ _
  refine wpAny_bind (wpAny_typeOf hN (wpAny_bind (wpAny_typeOf hT ?_)))
  show wpAny _ _ (isSubtype (.type "re.Match") (.type "NoneType") >>= _) _ _ _
  refine wpAny_bind (wpAny_of_eq sub_mat_none ?_)
  simp only [Bool.false_eq_true, if_false]
  show wpAny _ _ (tryCompare .none (cmpInfo .Eq).2.1 (.ref m) >>= _) _ _ _
  have t1 : ∀ {Q : Option Value → Shared → Prop}, Q none s → wpAny (model prog w) A (tryCompare .none (cmpInfo .Eq).2.1 (.ref m)) Q E s := fun hq => by
    unfold tryCompare
    refine wpAny_bind (wpAny_callSpecialIfBound?_slot hN F.slot_NoneType_eq (wpAny_call_entry F.slot_NoneType_eq hN F.entry_NoneType_eq ?_ (F.args_NoneType_eq_2 _ _)))
    exact wpAny_pure ⟨_, rfl, wpAny_pure hq⟩
  have t2 : ∀ {Q : Option Value → Shared → Prop}, Q none s → wpAny (model prog w) A (tryCompare (.ref m) (cmpInfo .Eq).2.2 .none) Q E s := fun hq => by
    unfold tryCompare
    refine wpAny_bind (wpAny_callSpecialIfBound?_slot hT slot_mat_eq (wpAny_call_entry slot_mat_eq hT entry_obj_eq ?_ (args_obj_eq _ _)))
    exact wpAny_pure ⟨_, rfl, wpAny_pure hq⟩
  refine wpAny_bind (t1 ?_)
  simp only [Bool.not_false, if_true]
  refine wpAny_bind (t2 ?_)
  exact wpAny_bind (wpAny_rule (wpAny_bind (wpAny_pure (wpAny_pure (wpAny_pure h)))))
end

/-! runs that may raise, in contexts whose callers run no callable iterator -/
noncomputable def W1 {α : Type} (prog : Program) (w : World) (A : Around) (t : Sem α) (Q : α → Shared → Prop) (E : Value → Shared → Prop) (s : Shared) : Prop :=
  ∀ Γ p, Γ.In A → CleanB Γ → Sem.wp (Mg prog w) Γ t (fun a _ s' => Q a s') (fun e _ s' => E e s') p s
noncomputable def C1 (prog : Program) (w : World) (A : Around) (c : Code) (R : Result → Shared → Prop) (s : Shared) : Prop :=
  ∀ Γ p, Γ.code = c → Γ.Below A → CleanB Γ → wpCode (Mg prog w) Γ R p s
section
variable {α β : Type} {prog : Program} {w : World} {A : Around} {E : Value → Shared → Prop} {s : Shared}
theorem W1.of_any {t : Sem α} {Q : α → Shared → Prop} (h : wpAny (Mg prog w) A t Q E s) : W1 prog w A t Q E s := fun Γ p hΓ _ => h Γ p hΓ
theorem W1.bind {m : Sem α} {f : α → Sem β} {Q : β → Shared → Prop} (h : W1 prog w A m (fun a s' => W1 prog w A (f a) Q E s') E s) : W1 prog w A (m >>= f) Q E s := fun Γ p hΓ hc => by
  rw [Sem.wp_bind']
  exact Sem.wp_mono _ Γ m (fun a p' s' h' => h' Γ p' hΓ hc) (fun _ _ _ h' => h') p s (h Γ p hΓ hc)
theorem W1.attempt {m : Sem α} {Q : Except Value α → Shared → Prop} (h : W1 prog w A m (fun a => Q (.ok a)) (fun e => Q (.error e)) s) : W1 prog w A m.attempt Q E s := fun Γ p hΓ hc => by
  rw [Sem.wp_attempt]
  exact h Γ p hΓ hc
theorem W1.holding {vs : List Value} {m : Sem α} {Q : α → Shared → Prop} (h : W1 prog w A m Q E s) : W1 prog w A (PySem.holding vs m) Q E s :=
  fun Γ p hΓ hc => by rw [Sem.wp_holding]; exact h Γ p hΓ hc
theorem W1.pure {a : α} {Q : α → Shared → Prop} (h : Q a s) : W1 prog w A (Pure.pure a) Q E s := fun _ _ _ _ => h
theorem W1.stack {Q : List (Code × Pos) → Shared → Prop} (h : ∀ c p below, (∀ x ∈ below, notCI x.1 = true) → Q ((c, p) :: below) s) : W1 prog w A PySem.stack Q E s := fun Γ p _ hc => by
  show Q ((Γ.code, p) :: Γ.below) s
  exact h _ _ _ hc
theorem C1.of_tree {c : Code} {R : Result → Shared → Prop} (hask : isAsk c = false)
    (h : W1 prog w (A.under c) (denote table c) (fun fin s' => match fin with | .done f => R (.ok f) s' | .again c' => c'.quiet = true ∧ C1 prog w A c' R s') (fun e s' => R (.error e) s') s) : C1 prog w A c R s := fun Γ p hc hΓ hb => by
  rw [wpCode_iff_wp, hc]
  show Sem.wp (Mg prog w) Γ (denG c) _ _ p s
  rw [denG_of_not hask]
  refine Sem.wp_mono _ Γ _ (fun fin p' s' h' => ?_) (fun _ _ _ h' => h') p s (h Γ p (hc ▸ hΓ.in) hb)
  cases fin with
  | done f => exact h'
  | again c' => exact ⟨h'.1, h'.2 (Γ.goto c') p' rfl (hΓ.goto c') hb⟩

end
end Mine

end
section
open PySem PySem.W PySem.Calls PyProof.Rows
set_option Elab.async false
set_option maxRecDepth 100000
namespace Mine
open PySem.Builtin.Re
open Sem (wp)

noncomputable def WE {α : Type} (prog : Program) (w : World) (A : Around) (t : Sem α) (Q : α → Shared → Prop) (E : Value → Shared → Prop) (s : Shared) : Prop :=
  ∀ Γ p, Γ.In A → Clean Γ → Sem.wp (Mg prog w) Γ t (fun a _ s' => Q a s') (fun e _ s' => E e s') p s
section
variable {α β : Type} {prog : Program} {w : World} {A : Around} {E : Value → Shared → Prop} {s : Shared}
theorem WE.of_any {t : Sem α} {Q : α → Shared → Prop} (h : wpAny (Mg prog w) A t Q E s) : WE prog w A t Q E s := fun Γ p hΓ _ => h Γ p hΓ
theorem WE.bind {m : Sem α} {f : α → Sem β} {Q : β → Shared → Prop} (h : WE prog w A m (fun a s' => WE prog w A (f a) Q E s') E s) : WE prog w A (m >>= f) Q E s := fun Γ p hΓ hc => by
  rw [Sem.wp_bind']
  exact Sem.wp_mono _ Γ m (fun a p' s' h' => h' Γ p' hΓ hc) (fun _ _ _ h' => h') p s (h Γ p hΓ hc)
theorem WE.holding {vs : List Value} {m : Sem α} {Q : α → Shared → Prop} (h : WE prog w A m Q E s) : WE prog w A (PySem.holding vs m) Q E s :=
  fun Γ p hΓ hc => by rw [Sem.wp_holding]; exact h Γ p hΓ hc
theorem WE.pure {a : α} {Q : α → Shared → Prop} (h : Q a s) : WE prog w A (Pure.pure a) Q E s := fun _ _ _ _ => h
theorem WE.call {f : Value} {pos : List Value} {Q : Value → Shared → Prop} (hc : C1 prog w A (.call f ⟨pos, []⟩) (fun r s' => match r with | .ok (.ret v) => Q v s' | .ok _ => False | .error e => E e s') s) :
    WE prog w A (PySem.call f pos) Q E s := fun Γ p hΓ hcl => by
  unfold PySem.call
  rw [Sem.wp_runValue]
  exact hc _ p rfl (by have := hΓ.enter (.call f ⟨pos, []⟩) none p (by intro x; cases x); exact this) (clean_enter hcl _ none p)
theorem W.attemptE {m : Sem α} {Q : Except Value α → Shared → Prop} (h : WE prog w A m (fun a => Q (.ok a)) (fun e => Q (.error e)) s) : W prog w A m.attempt Q s := fun _ Γ p hΓ hcl => by
  rw [Sem.wp_attempt]; exact h Γ p hΓ hcl
end

theorem slot_ci_next : PySem.Slot "callable_iterator" "__next__" "callable_iterator.__next__" :=
  .of (owner := "callable_iterator") (n := "__next__") (by rw [typeLookup_type, builtinLookup_eq_fast]; kernel_rfl) (by decide +kernel) (by decide +kernel) (by decide +kernel)
    (by first | exact .inl (by decide +kernel) | exact .inr (by decide +kernel)) (by rw [isSubtype_type]; kernel_rfl)
theorem entry_ci_next : entryFor table "callable_iterator.__next__" = some Builtin.«callable_iterator.__next__» := entryFor_of_tree (by kernel_rfl)
theorem args_ci_next (a : Value) : argsOk "callable_iterator.__next__" ⟨[a], []⟩ := by unfold argsOk; kernel_rfl

structure CIAt (h : Heap) (ci bm sc pat ct : Addr) (l : List Nat) (tk : Tok) (st : Int) : Prop where
  oci : h.get? ci = some { cls := .type "callable_iterator", data := .fields #[.ref bm, .none, .bool false] }
  obm : h.get? bm = some { cls := .type "builtin_function_or_method", data := .fields #[.builtin "_sre.SRE_Scanner.search", .ref sc] }
  osc : h.get? sc = some (scanObj pat l tk st)
  opat : PatAt h pat ct
  ne : ci ≠ sc ∧ bm ≠ sc ∧ pat ≠ sc ∧ ct ≠ sc

theorem PatAt.at {h h' : Heap} {pat ct : Addr} (x : PatAt h pat ct) (h1 : ∀ o, h.get? pat = some o → h'.get? pat = some o) (h2 : ∀ o, h.get? ct = some o → h'.get? ct = some o) : PatAt h' pat ct :=
  let ⟨p0, p1, p3, p4, e⟩ := x.obj
  let ⟨n, e'⟩ := x.code
  ⟨⟨p0, p1, p3, p4, h1 _ e⟩, ⟨n, h2 _ e'⟩⟩
theorem CIAt.next {h h' : Heap} {ci bm sc pat ct : Addr} {l : List Nat} {tk : Tok} {st st' : Int} (x : CIAt h ci bm sc pat ct l tk st) (hs : Heap.SameBut sc h h') (ho : h'.get? sc = some (scanObj pat l tk st')) : CIAt h' ci bm sc pat ct l tk st' :=
  ⟨hs.extBut _ _ x.ne.1 x.oci, hs.extBut _ _ x.ne.2.1 x.obm, ho, x.opat.at (fun o e => hs.extBut _ _ x.ne.2.2.1 e) (fun o e => hs.extBut _ _ x.ne.2.2.2 e), x.ne⟩
section
variable {prog : Program} {w : World} {A : Around} {E : Value → Shared → Prop} {s : Shared}
theorem borrows_no {bm sc : Addr} {Q : Bool → Shared → Prop} {M : Model} (hb : s.heap.get? bm = some { cls := .type "builtin_function_or_method", data := .fields #[.builtin "_sre.SRE_Scanner.search", .ref sc] }) (h : Q false s) : wpAny M A (borrowsExactly (.ref bm)) Q E s := by
  unfold borrowsExactly
  show wpAny _ _ (load bm >>= _) _ _ _
  refine wpAny_bind (wpAny_load hb ?_)
  exact wpAny_pure h

/-- the iterator's call of its scanner -/
theorem slot_call {ci bm sc pat ct : Addr} {l : List Nat} {tk : Tok} {st : Nat} {Q : Value → Shared → Prop} (I : CIAt s.heap ci bm sc pat ct l tk (st : Nat)) (hst : st ≤ l.length) (hn : l.length ≤ 16777216)
    (hsome : ∀ b e g h', findM st (l.drop st) = some (b, e, g) → h'.get? sc = some (scanObj pat l tk (e : Nat)) → Heap.SameBut sc s.heap h' →
      Q (.ref (h'.objs.size + 1)) { s with heap := (h'.push { cls := .type "tuple", data := .seq (matSpans b e g).toArray }).push { cls := .type "re.Match", data := .fields #[.str ⟨l.toArray⟩ tk, .ref pat, rawInt 0, rawInt (l.length : Nat), rawInt g, .ref h'.objs.size] } })
    (hnone : ∀ h', findM st (l.drop st) = none → h'.get? sc = some (scanObj pat l tk (-1)) → Heap.SameBut sc s.heap h' → Q .none { s with heap := h' }) :
    wpAny (Mg prog w) A (callOutOfASlot (.ref bm)) Q E s := by
  unfold callOutOfASlot
  refine wpAny_bind (borrows_no I.obm ?_)
  simp only [Bool.false_eq_true, if_false]
  exact wpAny_call (bound_call I.obm I.osc (scan_ok I.opat I.osc hst hn (fun b e g h' h1 h2 h3 => hsome b e g h' h1 h2 h3) (fun h' h1 h2 h3 => hnone h' h1 h2 h3)))

theorem ci_item {ci bm sc pat ct : Addr} {l : List Nat} {tk : Tok} {st b e g : Nat} {Q : Option Value → Shared → Prop} (hu : A.units + 100 < cLine) (I : CIAt s.heap ci bm sc pat ct l tk (st : Nat)) (hst : st ≤ l.length) (hn : l.length ≤ 16777216) (hf : findM st (l.drop st) = some (b, e, g))
    (hQ : ∀ h', CIAt h' ci bm sc pat ct l tk (e : Nat) → Heap.SameBut sc s.heap h' → 
      Q (some (.ref (h'.objs.size + 1))) { s with heap := (h'.push { cls := .type "tuple", data := .seq (matSpans b e g).toArray }).push { cls := .type "re.Match", data := .fields #[.str ⟨l.toArray⟩ tk, .ref pat, rawInt 0, rawInt (l.length : Nat), rawInt g, .ref h'.objs.size] } }) :
    W prog w A (pyNext (.ref ci)) Q s := by
  have hT : s.TypeIs (.ref ci) "callable_iterator" := ⟨_, I.oci, rfl⟩
  unfold pyNext
  refine W.bind (W.attemptE ?_)
  simp only [callSpecial?]
  refine WE.bind (WE.of_any (wpAny_specialOf hT slot_ci_next.lookup ?_))
  simp only [slot_ci_next.bind]
  refine WE.holding (WE.bind (WE.pure (WE.bind (WE.call ?_))))
  refine C1.of_tree rfl (W1.bind (W1.of_any (slot_ci_next.check _ _ _ _ _ _ _ _ hT (args_ci_next _) ?_)))
  refine W1.pure ⟨plainId_quiet slot_ci_next.plain _, C1.of_tree rfl ?_⟩
  rw [den_builtin, entry_ci_next]
  show W1 _ _ _ (field (.ref ci) 2 >>= _) _ _ _
  refine W1.bind (W1.of_any (wpAny_field I.oci rfl (x := .bool false) rfl ?_))
  show W1 _ _ _ (if (Value.bool false == Value.bool true) = true then _ else _) _ _ _
  rw [if_neg (show ¬ ((Value.bool false == Value.bool true) = true) by decide)]
  show W1 _ _ _ (field (.ref ci) 0 >>= _) _ _ _
  refine W1.bind (W1.of_any (wpAny_field I.oci rfl (x := .ref bm) rfl ?_))
  refine W1.bind (W1.attempt (W1.of_any (slot_call I hst hn ?_ fun h' h1 => by rw [hf] at h1; cases h1)))
  intro b' e' g' h' h1 h2 h3
  rw [hf] at h1
  cases h1
  have I' := I.next h3 h2
  generalize hH : (h'.push { cls := .type "tuple", data := .seq (matSpans b e g).toArray }).push { cls := .type "re.Match", data := .fields #[.str ⟨l.toArray⟩ tk, .ref pat, rawInt 0, rawInt (l.length : Nat), rawInt g, .ref h'.objs.size] } = H
  have hci : ({ s with heap := H } : Shared).heap.get? ci = some { cls := .type "callable_iterator", data := .fields #[.ref bm, .none, .bool false] } := by
    show H.get? ci = _
    rw [← hH]
    exact Heap.get?_push_of_some _ (Heap.get?_push_of_some _ I'.oci)
  have hmt : ({ s with heap := H } : Shared).heap.get? (h'.objs.size + 1) = some { cls := .type "re.Match", data := .fields #[.str ⟨l.toArray⟩ tk, .ref pat, rawInt 0, rawInt (l.length : Nat), rawInt g, .ref h'.objs.size] } := by
    show H.get? _ = _
    rw [← hH, ← Heap.size_push (h := h') (o := { cls := .type "tuple", data := .seq (matSpans b e g).toArray })]
    exact Heap.get?_push_size _ rfl
  show W1 _ _ _ (field (.ref ci) 2 >>= _) _ _ _
  refine W1.bind (W1.of_any (wpAny_field hci rfl (x := .bool false) rfl ?_))
  show W1 _ _ _ (if (Value.bool false == Value.bool true) = true then _ else _) _ _ _
  rw [if_neg (show ¬ ((Value.bool false == Value.bool true) = true) by decide)]
  show W1 _ _ _ (field (.ref ci) 1 >>= _) _ _ _
  refine W1.bind (W1.of_any (wpAny_field hci rfl (x := .none) rfl ?_))
  refine W1.bind (W1.holding (W1.of_any (any_mono_model (none_eq ?_ hmt rfl ?_))))
  · rw [Around.under_plainId slot_ci_next.plain]; show A.units + 1 < cLine; omega
  simp only [Bool.not_false, if_true]
  refine W1.pure ?_
  show WE _ _ _ _ _ _ _
  refine WE.pure (W.pure ?_)
  have := hQ h' I' h3
  rw [hH] at this
  exact this
end
end Mine

end
section
open PySem PySem.W PySem.Calls PyProof.Rows
set_option Elab.async false
set_option maxRecDepth 100000
namespace Mine
open PySem.Builtin.Re
open Sem (wp)

section
variable {prog : Program} {w : World} {A : Around} {E : Value → Shared → Prop} {s : Shared}
theorem lets_go {bm sc : Addr} {who : String} {busy : Code → Bool} {Q : Unit → Shared → Prop} (hb : s.heap.get? bm = some { cls := .type "builtin_function_or_method", data := .fields #[.builtin "_sre.SRE_Scanner.search", .ref sc] }) (hbusy : ∀ c, notCI c = true → busy c = false) (h : Q () s) :
    W1 prog w A (slotLetsGo who (.ref bm) busy) Q E s := by
  unfold slotLetsGo
  refine W1.bind (W1.of_any (borrows_no hb ?_))
  simp only [Bool.false_eq_true, if_false]
  refine W1.bind (W1.stack fun c p below hbl => ?_)
  have : ((List.drop 1 ((c, p) :: below)).any fun x => match x with | (c, _) => busy c) = false := by
    rw [List.any_eq_false]
    intro x hx
    simp at hx
    have := hbusy x.1 (hbl x hx)
    simp [this]
  rw [if_neg (by intro hh; rw [this] at hh; cases hh)]
  exact W1.pure h

theorem busy_no (self : Value) : ∀ c, notCI c = true → (fun (c : Code) => match c with | .builtin "callable_iterator.__next__" x => x.pos.head? == some self | _ => false) c = false := fun c h => by
  simp only
  split
  · cases h
  · rfl

theorem ci_done {ci bm sc pat ct : Addr} {l : List Nat} {tk : Tok} {st : Nat} {Q : Option Value → Shared → Prop} (hh : A.handled = none) (I : CIAt s.heap ci bm sc pat ct l tk (st : Nat)) (hst : st ≤ l.length) (hn : l.length ≤ 16777216) (hf : findM st (l.drop st) = none)
    (hQ : ∀ h', (∀ a o, a ≠ sc → a ≠ ci → s.heap.get? a = some o → h'.get? a = some o) → Q none { s with heap := h' }) :
    W prog w A (pyNext (.ref ci)) Q s := by
  have hT : s.TypeIs (.ref ci) "callable_iterator" := ⟨_, I.oci, rfl⟩
  unfold pyNext
  refine W.bind (W.attemptE ?_)
  simp only [callSpecial?]
  refine WE.bind (WE.of_any (wpAny_specialOf hT slot_ci_next.lookup ?_))
  simp only [slot_ci_next.bind]
  refine WE.holding (WE.bind (WE.pure (WE.bind (WE.call ?_))))
  refine C1.of_tree rfl (W1.bind (W1.of_any (slot_ci_next.check _ _ _ _ _ _ _ _ hT (args_ci_next _) ?_)))
  refine W1.pure ⟨plainId_quiet slot_ci_next.plain _, C1.of_tree rfl ?_⟩
  rw [den_builtin, entry_ci_next]
  show W1 _ _ _ (field (.ref ci) 2 >>= _) _ _ _
  refine W1.bind (W1.of_any (wpAny_field I.oci rfl (x := .bool false) rfl ?_))
  show W1 _ _ _ (if (Value.bool false == Value.bool true) = true then _ else _) _ _ _
  rw [if_neg (show ¬ ((Value.bool false == Value.bool true) = true) by decide)]
  show W1 _ _ _ (field (.ref ci) 0 >>= _) _ _ _
  refine W1.bind (W1.of_any (wpAny_field I.oci rfl (x := .ref bm) rfl ?_))
  refine W1.bind (W1.attempt (W1.of_any (slot_call I hst hn (fun b' e' g' h' h1 => by rw [hf] at h1; cases h1) fun h' _ h2 h3 => ?_)))
  have I' := I.next h3 h2
  have hci : ({ s with heap := h' } : Shared).heap.get? ci = some { cls := .type "callable_iterator", data := .fields #[.ref bm, .none, .bool false] } := I'.oci
  show W1 _ _ _ (field (.ref ci) 2 >>= _) _ _ _
  refine W1.bind (W1.of_any (wpAny_field hci rfl (x := .bool false) rfl ?_))
  show W1 _ _ _ (if (Value.bool false == Value.bool true) = true then _ else _) _ _ _
  rw [if_neg (show ¬ ((Value.bool false == Value.bool true) = true) by decide)]
  show W1 _ _ _ (field (.ref ci) 1 >>= _) _ _ _
  refine W1.bind (W1.of_any (wpAny_field hci rfl (x := .none) rfl ?_))
  have heq : ∀ {Q : Bool → Shared → Prop} {s : Shared} {A : Around} {E : Value → Shared → Prop}, Q true s → wpAny (Mg prog w) A (eqBool .none .none) Q E s := fun hq => by
    unfold eqBool
    refine wpAny_holding ?_
    show wpAny _ _ (if (Value.none == Value.none) = true then _ else _) _ _ _
    rw [if_pos (by decide)]
    exact wpAny_bind (wpAny_rule (wpAny_pure hq))
  refine W1.bind (W1.holding (W1.of_any (heq ?_)))
  simp only [Bool.not_true, Bool.false_eq_true, if_false]
  show W1 _ _ _ (rule "callable_iterator.__next__.sentinel" >>= _) _ _ _
  refine W1.bind (W1.of_any (wpAny_rule ?_))
  show W1 _ _ _ ((field (.ref ci) 0 >>= fun old => slotLetsGo "callable_iterator.__next__" old (fun c => match c with | .builtin "callable_iterator.__next__" x => x.pos.head? == some (.ref ci) | _ => false) >>= fun _ => setField (.ref ci) 0 .none >>= fun _ => setField (.ref ci) 1 .none >>= fun _ => setField (.ref ci) 2 (.bool true)) >>= _) _ _ _
  refine W1.bind (W1.bind (W1.of_any (wpAny_field hci rfl (x := .ref bm) rfl ?_)))
  refine W1.bind (lets_go I'.obm (busy_no _) ?_)
  refine W1.bind (W1.of_any (wpAny_setField hci rfl (by simp) ?_))
  have hc1 : (h'.update ci (Obj.mapFields (·.setIfInBounds 0 .none))).get? ci = some { cls := .type "callable_iterator", data := .fields #[.none, .none, .bool false] } := Heap.get?_update_self _ hci rfl
  refine W1.bind (W1.of_any (wpAny_setField hc1 rfl (by simp) ?_))
  have hc2 : ((h'.update ci (Obj.mapFields (·.setIfInBounds 0 .none))).update ci (Obj.mapFields (·.setIfInBounds 1 .none))).get? ci = some { cls := .type "callable_iterator", data := .fields #[.none, .none, .bool false] } := Heap.get?_update_self _ hc1 rfl
  refine W1.of_any (wpAny_setField hc2 rfl (by simp) ?_)
  have hs3 : Heap.SameBut ci h' (((h'.update ci (Obj.mapFields (·.setIfInBounds 0 .none))).update ci (Obj.mapFields (·.setIfInBounds 1 .none))).update ci (Obj.mapFields (·.setIfInBounds 2 (.bool true)))) := ((Heap.SameBut.update ..).trans (Heap.SameBut.update ..)).trans (Heap.SameBut.update ..)
  generalize (((h'.update ci (Obj.mapFields (·.setIfInBounds 0 .none))).update ci (Obj.mapFields (·.setIfInBounds 1 .none))).update ci (Obj.mapFields (·.setIfInBounds 2 (.bool true)))) = H3 at hs3
  show W1 _ _ _ (newExc (.type "StopIteration") [] >>= _) _ _ _
  refine W1.of_any (wpAny_bind ?_)
  simp only [newExc, newTuple]
  refine wpAny_bind (wpAny_newObj_type ?_ (by size_fits))
  refine wpAny_bind (m := firstArgMember _ _) (wpAny_of_eq (a := Value.none) (by first | rfl | (simp only [firstArgMember]; rfl)) ?_)
  refine wpAny_newObj_type ?_ (by size_fits)
  simp only [raiseNew]
  refine wpAny_bind (wpAny_handled ?_)
  rw [show (A.under (Code.builtin "callable_iterator.__next__" ⟨[.ref ci] ++ [], []⟩)).handled = none from hh]
  refine wpAny_throw ?_
  refine W.bind (W.of_any (wpAny_isInstance (T := "StopIteration") (b := true) ⟨_, Heap.get?_push_size _ rfl, rfl⟩ isSubtype_stop ?_))
  refine W.pure (hQ _ fun a o h1 h2 e => ?_)
  exact Heap.get?_push_of_some _ (Heap.get?_push_of_some _ (hs3.extBut a o h2 (h3.extBut a o h1 e)))
end
end Mine

end
section
open PySem PySem.W PySem.Calls PyProof.Rows
set_option Elab.async false
set_option maxRecDepth 100000
namespace Mine
open PySem.Builtin.Re
open Sem (wp)

theorem canon_ga : (Manifest.canonical "object.__getattribute__" != "object.__getattribute__") = false := by decide +kernel
theorem get_ref {M : Model} {A : Around} {E : Value → Shared → Prop} {s : Shared} {T : String} {name : Str} {id : String} {l : Addr} {o : Obj} {pl : Sem Bool} {Q : Value × List Value → Shared → Prop}
    (hga : typeLookup (.type T) "__getattribute__" = pure (some (.builtin "object.__getattribute__"))) (hgn : typeLookup (.type T) "__getattr__" = pure none) (slot : PySem.Slot T name id) (ty : typeOf (.builtin id) = pure (.type "method_descriptor"))
    (ho : s.heap.get? l = some o) (hc : o.cls = .type T) (hd : o.dict = none) (h : Q (.builtin id, [.ref l]) s) : wpAny M A (getMethod (.ref l) name pl) Q E s := by
  have hT : s.TypeIs (.ref l) T := ⟨o, ho, hc⟩
  unfold getMethod
  refine wpAny_bind (wpAny_specialOf hT hga ?_)
  show wpAny M A (if (Manifest.canonical "object.__getattribute__" != "object.__getattribute__") = true then _ else _) Q E s
  rw [canon_ga, if_neg Bool.false_ne_true]
  refine wpAny_bind (wpAny_specialOf hT hgn ?_)
  refine wpAny_bind (wpAny_specialOf hT slot.lookup ?_)
  refine wpAny_bind (wpAny_of_eq ty ?_)
  refine wpAny_bind (wpAny_loadPart ho ?_)
  rw [hd]
  exact wpAny_bind (wpAny_rule (wpAny_pure h))

theorem lk_pat_ga : typeLookup (.type "re.Pattern") "__getattribute__" = pure (some (.builtin "object.__getattribute__")) := by rw [typeLookup_type, builtinLookup_eq_fast]; kernel_rfl
theorem lk_pat_gn : typeLookup (.type "re.Pattern") "__getattr__" = pure none := by rw [typeLookup_type, builtinLookup_eq_fast]; kernel_rfl
theorem lk_mat_ga : typeLookup (.type "re.Match") "__getattribute__" = pure (some (.builtin "object.__getattribute__")) := by rw [typeLookup_type, builtinLookup_eq_fast]; kernel_rfl
theorem lk_mat_gn : typeLookup (.type "re.Match") "__getattr__" = pure none := by rw [typeLookup_type, builtinLookup_eq_fast]; kernel_rfl
theorem slot_finditer : PySem.Slot "re.Pattern" "finditer" "re.Pattern.finditer" :=
  .of (owner := "re.Pattern") (n := "finditer") (by rw [typeLookup_type, builtinLookup_eq_fast]; kernel_rfl) (by decide +kernel) (by decide +kernel) (by decide +kernel)
    (by first | exact .inl (by decide +kernel) | exact .inr (by decide +kernel)) (by rw [isSubtype_type]; kernel_rfl)
theorem type_finditer : typeOf (.builtin "re.Pattern.finditer") = pure (.type "method_descriptor") := by show builtinType _ = _; rw [builtinType_eq_fast]; kernel_rfl
theorem entry_finditer : entryFor table "re.Pattern.finditer" = some Builtin.«re.Pattern.finditer» := entryFor_of_tree (by kernel_rfl)
theorem args_finditer (a b : Value) : argsOk "re.Pattern.finditer" ⟨[a, b], []⟩ := by unfold argsOk; kernel_rfl

theorem sub_str_ba : isSubtype (.type "str") (.type "bytearray") = pure false := by rw [isSubtype_type]; kernel_rfl
theorem named_one (id f : String) (v : Value) : reNamed id f ["string", "pos", "endpos"] 1 [v] [] = pure [some v, none, none] := by rfl

section
variable {prog : Program} {w : World} {A : Around} {E : Value → Shared → Prop} {s : Shared}
theorem target2_ok {pat ct : Addr} {l : List Nat} {tk : Tok} {id f : String} {Q : ReTarget → Shared → Prop} (hp : PatAt s.heap pat ct) (hn : l.length ≤ 16777216)
    (h : Q { pattern := .ref pat, string := .str ⟨l.toArray⟩ tk, code := theCode, text := l.toArray, kind := 0, groups := 3, pos := 0, lim := l.length } s) :
    wpAny (model prog w) A (reTarget id f ⟨[.ref pat, .str ⟨l.toArray⟩ tk], []⟩) Q E s := by
  obtain ⟨p0, p1, p3, p4, ho⟩ := hp.obj
  obtain ⟨n, hc⟩ := hp.code
  obtain ⟨hh, gs, d, t, os⟩ := s
  unfold reTarget
  simp only [named_one]
  repeat (any_goals (first | assumption | wp_step))
  simp only [Option.getD_some, code_back]
  have e1 : min ((2 ^ 63 - 1 : Int)).toNat l.toArray.size = l.length := by simp; omega
  have e2 : min (0 : Int).toNat l.toArray.size = 0 := by simp
  simp only [e1, e2]
  exact h

theorem notHeld_ok {M : Model} {id : String} {x : Str} {tk : Tok} {Q : Unit → Shared → Prop} (h : Q () s) : wpAny M A (reNotHeld id (.str x tk)) Q E s := by
  unfold reNotHeld
  refine wpAny_bind (wpAny_isInstance (typeIs_str _ _ _) sub_str_ba ?_)
  simp only [Bool.false_eq_true, if_false]
  exact wpAny_pure h

theorem finditer_ok {pat ct : Addr} {l : List Nat} {tk : Tok} {Q : Value → Shared → Prop} (hp : PatAt s.heap pat ct) (hn : l.length ≤ 16777216)
    (hlow : pat < s.heap.objs.size ∧ ct < s.heap.objs.size)
    (hQ : ∀ s', Ext s s' → CIAt s'.heap (s.heap.objs.size + 2) (s.heap.objs.size + 1) s.heap.objs.size pat ct l tk ((0 : Nat) : Int) → s'.heap.objs.size = s.heap.objs.size + 3 → Q (.ref (s.heap.objs.size + 2)) s') :
    wpAny (model prog w) A (PySem.call (.builtin "re.Pattern.finditer") [.ref pat, .str ⟨l.toArray⟩ tk]) Q E s := by
  obtain ⟨p0, p1, p3, p4, ho⟩ := hp.obj
  have hT : s.TypeIs (.ref pat) "re.Pattern" := ⟨_, ho, rfl⟩
  refine wpAny_call_entry slot_finditer hT entry_finditer ?_ (args_finditer _ _)
  unfold Builtin.«re.Pattern.finditer»
  refine wpAny_bind (target2_ok hp hn (wpAny_bind (notHeld_ok (wpAny_bind (wpAny_newObj_type ?_ (by size_fits))))))
  have hsc : (s.heap.push { cls := .type "_sre.SRE_Scanner", data := .fields #[.ref pat, .str ⟨l.toArray⟩ tk, rawInt ((0 : Nat) : Int), rawInt ((0 : Nat) : Int), rawInt (l.length : Nat), .bool false] }).get? s.heap.objs.size = some (scanObj pat l tk ((0 : Nat) : Int)) := Heap.get?_push_size _ rfl
  obtain ⟨hh, gs, d, t, os⟩ := s
  refine wpAny_bind (wpAny_holding (search_attr hsc (wpAny_bind (wpAny_newObj_type (wpAny_pure ⟨_, rfl, ?_⟩) (by size_fits)))))
  have h1 : (hh.push (scanObj pat l tk ((0 : Nat) : Int))).objs.size = hh.objs.size + 1 := Heap.size_push ..
  have h2 : ((hh.push (scanObj pat l tk ((0 : Nat) : Int))).push { cls := .type "builtin_function_or_method", data := .fields #[.builtin "_sre.SRE_Scanner.search", .ref hh.objs.size] }).objs.size = hh.objs.size + 2 := by rw [Heap.size_push, h1]
  have h3 : (((hh.push (scanObj pat l tk ((0 : Nat) : Int))).push { cls := .type "builtin_function_or_method", data := .fields #[.builtin "_sre.SRE_Scanner.search", .ref hh.objs.size] }).push { cls := .type "callable_iterator", data := .fields #[.ref (hh.objs.size + 1), .none, .bool false] }).objs.size = hh.objs.size + 3 := by rw [Heap.size_push, h2]
  have keep : ∀ a o, hh.get? a = some o → (((hh.push (scanObj pat l tk ((0 : Nat) : Int))).push { cls := .type "builtin_function_or_method", data := .fields #[.builtin "_sre.SRE_Scanner.search", .ref hh.objs.size] }).push { cls := .type "callable_iterator", data := .fields #[.ref (hh.objs.size + 1), .none, .bool false] }).get? a = some o := fun a o e => Heap.get?_push_of_some _ (Heap.get?_push_of_some _ (Heap.get?_push_of_some _ e))
  have hq := hQ ⟨((hh.push (scanObj pat l tk ((0 : Nat) : Int))).push { cls := .type "builtin_function_or_method", data := .fields #[.builtin "_sre.SRE_Scanner.search", .ref hh.objs.size] }).push { cls := .type "callable_iterator", data := .fields #[.ref (hh.objs.size + 1), .none, .bool false] }, gs, d, t + 1, os⟩
    ⟨rfl, rfl, by show hh.objs.size ≤ Array.size _; rw [h3]; exact Nat.le_add_right _ _, keep⟩
    ⟨by rw [← h2]; exact Heap.get?_push_size _ rfl, by rw [← h1]; exact Heap.get?_push_of_some _ (Heap.get?_push_size _ rfl), Heap.get?_push_of_some _ (Heap.get?_push_of_some _ hsc), hp.at (fun o e => keep _ o e) (fun o e => keep _ o e),
      Nat.ne_of_gt (Nat.lt_add_of_pos_right (by decide)), Nat.ne_of_gt (Nat.lt_add_of_pos_right (by decide)), Nat.ne_of_lt hlow.1, Nat.ne_of_lt hlow.2⟩ h3
  rw [← h2, ← h1] at hq
  exact hq
end
end Mine

end
section
open PySem PySem.W PySem.Calls PyProof.Rows
set_option Elab.async false
set_option maxRecDepth 100000
namespace Mine
open PySem.Builtin.Re
open Sem (wp)

theorem fn_call {cx : Cx} {k : Nat} {a : Addr} {o : Obj} {name : Str} {params : Arguments} {body : List Stmt} {scope : Scope} {pm cd doc : Value} {xs rest : List Str}
    (ho : cx.h₁.get? a = some o) (hd : o.data = .func (docDef name params body scope pm cd doc)) (hcd : cx.h₁.CodeRec cd name)
    (hbind : ∀ vs : List Value, vs.length = xs.length → bindArgs (docDef name params body scope pm cd doc) ⟨vs, []⟩ = pure (xs.zip vs))
    {A : Around} {V : Avd} {s : Shared} {ds : List D} {vs : List Value} {Q : Value → Shared → Prop} (hA : Room A (k + 1)) (hV : ∀ p, V p → p < s.heap.objs.size) (hbase' : Base cx s.heap) (ra : RdAll cx s.heap V ds vs) (hlen : ds.length = xs.length)
    (hQ : ∀ (env : Env) (vm : Str → Option Value) (s' : Shared), FrV cx scope ((xs ++ rest).map some) env V (fun _ => none) vm s' (ds.map .val ++ List.replicate rest.length .unb) → Ext s s' → Room (A.deeper env) k →
      W cx.prog cx.w (A.deeper env) (execs body env) (fun f s₂ => Q (match f with | .ret v => v | _ => .none) s₂) s')
    (hnd : decide (xs ++ rest).Nodup = true := by decide) (hnames : decide (scope.names.map (·.1)).Nodup = true := by decide)
    (hknown : ((xs ++ rest).all fun x => scope.names.lookup x == some .local || scope.names.lookup x == some .cell) = true := by decide)
    (hco : scope.isCoroutine = false := by rfl) (hgen : scope.isGenerator = false := by rfl) (hk : scope.kind = .function := by rfl) : W cx.prog cx.w A (PySem.call (.ref a) vs) Q s := by
  have hbase := hbase'.2
  have hnd := of_decide_eq_true hnd
  have hnames := of_decide_eq_true hnames
  have hkn : ∀ x ∈ xs ++ rest, scope.names.lookup x = some .local ∨ scope.names.lookup x = some .cell := fun x hx => by
    have := List.all_eq_true.mp hknown x hx
    simpa using this
  have hlv : vs.length = xs.length := by rw [ra.length, hlen]
  refine W.call (C.call_function (by have := hA.2.1; omega) (hbase a o ho) hd hco hgen rfl (hcd.keeps hbase) ?_)
  rw [hbind vs hlv]
  have hmem : ∀ x, scope.names.lookup x = some .cell → (x, NameKind.cell) ∈ scope.names := fun x hx => mem_of_lookup hx
  refine wpAny_pure (wpAny_newFunctionEnv_cells hk (fun x hx => ?_) fun env he s' x => ?_)
  · have hx' : x.1 ∈ xs := (List.of_mem_zip hx).1
    rcases hkn x.1 (List.mem_append_left _ hx') with h1 | h1
    · exact .inl h1
    · exact .inr ⟨h1, cellsFrom_has _ _ _ _ (hmem _ h1)⟩
  refine ⟨(cx.lim.keeps hbase).keeps x.toInCall.keep, C.func ?_⟩
  obtain ⟨hh, tk, hs'⟩ := x.toInCall.same
  have hkeep := x.toInCall.keep
  have hEs : env.scope = scope := by rw [he]; rfl
  have hEl : env.locals = s.heap.objs.size := by rw [he]; rfl
  have hEc : env.cells = cellsFrom (s.heap.objs.size + 1) scope.names [] := by rw [he]; rfl
  have hEg : env.globals = mainGlobals := by rw [he]; rfl
  have hEb : env.builtins = builtinsNs := by rw [he]; rfl
  have hsz : s.heap.objs.size ≤ s'.heap.objs.size := by
    have h0 := x.toInCall.ns.lt
    rw [hEl] at h0; exact Nat.le_of_lt h0
  have X : Ext s s' := ⟨by rw [hs'], by rw [hs'], hsz, hkeep⟩
  have hkind : ∀ y, env.kindOf y = scope.names.lookup y := fun y => by show env.scope.names.lookup y = _; rw [hEs]
  have hge1 : cx.h₁.objs.size ≤ s.heap.objs.size := hbase'.1
  let vm : Str → Option Value := fun y => if scope.names.lookup y = some .local then bindL env.kindOf (xs.zip vs) (fun _ => none) y else bindC env.kindOf (xs.zip vs) (fun _ => none) y
  have hvm : ∀ y, vm y = (xs.zip vs).reverse.lookup y := fun y => by
    show (if scope.names.lookup y = some .local then _ else _) = _
    split
    · rename_i hy; rw [bindL_get _ _ _ _ (by rw [hkind]; exact hy)]; simp
    · rename_i hy; rw [bindC_get _ _ _ _ (by rw [hkind]; exact hy)]; simp
  have F : FrV cx scope ((xs ++ rest).map some) env V (fun _ => none) vm s' (ds.map .val ++ List.replicate rest.length .unb) := {
    scope := hEs, kind := hk, glob := hEg, blt := hEb
    base := fun b o' e => hkeep b o' (hbase b o' e)
    ns := ⟨_, x.toInCall.ns, fun y hy => by show _ = (if scope.names.lookup y = some .local then _ else _); rw [if_pos hy]⟩
    cell := fun y c hc => by
      have := x.cell y c hc
      have hy : scope.names.lookup y ≠ some .local := by
        have hm := mem_of_lookup hc
        rw [hEc] at hm
        rcases cellsFrom_mem _ _ _ _ _ hm with h' | h'
        · cases h'
        · rw [lookup_of_mem hnames h']; intro e; cases e
      show s'.heap.IsCell c (if scope.names.lookup y = some .local then _ else _)
      rw [if_neg hy]; exact this
    apart := x.apart
    fresh := fun b hb => by
      rcases hb with ⟨j, hj⟩ | hb | ⟨y, hy⟩
      · cases hj
      · subst hb; exact ⟨by rw [hEl]; exact hge1, x.toInCall.ns.lt⟩
      · have h0 := x.above y b (mem_of_lookup hy)
        exact ⟨by rw [hEl] at h0; exact Nat.le_trans hge1 (Nat.le_of_lt h0), (x.cell y b hy).lt⟩
    nsCell := fun y hy => Nat.lt_irrefl _ (x.above y _ (mem_of_lookup hy))
    av := fun b hb => Nat.lt_of_lt_of_le (hV b hb) hsz
    len := by simp [hlen]
    tabInj := fun i j y h1 h2 => by
      rw [List.getElem?_map, Option.map_eq_some_iff] at h1 h2
      obtain ⟨y1, h1, e1⟩ := h1
      obtain ⟨y2, h2, e2⟩ := h2
      cases e1; cases e2
      have hi : i < (xs ++ rest).length := by
        rcases Nat.lt_or_ge i (xs ++ rest).length with h' | h'
        · exact h'
        · rw [List.getElem?_eq_none h'] at h1; cases h1
      exact (List.getElem?_inj hi hnd).mp (h1.trans h2.symm)
    cellNL := fun y c hc => by
      have hm := mem_of_lookup hc
      rw [hEc] at hm
      rcases cellsFrom_mem _ _ _ _ _ hm with h' | h'
      · cases h'
      · rw [lookup_of_mem hnames h']; intro e; cases e
    known := fun i y h1 => by
      rw [List.getElem?_map, Option.map_eq_some_iff] at h1
      obtain ⟨y1, h1, e1⟩ := h1
      cases e1
      rcases hkn y (List.mem_of_getElem? h1) with h' | h'
      · exact .inl h'
      · exact .inr ⟨.inl h', by rw [hEc]; exact cellsFrom_has _ _ _ _ (hmem _ h')⟩
    slots := fun i y sl h1 h2 => by
      rw [List.getElem?_map, Option.map_eq_some_iff] at h1
      obtain ⟨y1, h1, e1⟩ := h1
      cases e1
      rcases Nat.lt_or_ge i xs.length with hi | hi
      · rw [List.getElem?_append_left hi] at h1
        rw [List.getElem?_append_left (by simpa [hlen] using hi), List.getElem?_map, Option.map_eq_some_iff] at h2
        obtain ⟨d', h2, e2⟩ := h2
        subst e2
        obtain ⟨v', hv', q⟩ := ra.get h2
        refine ⟨v', by rw [hvm]; exact lookup_zip_rev (List.nodup_append.mp hnd).1 hlv h1 hv', ?_⟩
        refine q.mono (fun b o' _ e => hkeep b o' e) fun b hb => ?_
        rcases hb with hb | ⟨j, hj⟩ | hb | ⟨z, hz⟩
        · exact .inl hb
        · cases hj
        · exact .inr (get_none (by rw [hb, hEl]; exact Nat.le_refl _))
        · exact .inr (get_none (by have h0 := x.above z b (mem_of_lookup hz); rw [hEl] at h0; exact Nat.le_of_lt h0))
      · rw [List.getElem?_append_right (by simpa [hlen] using hi)] at h2
        have := List.mem_of_getElem? h2
        rw [List.mem_replicate] at this
        rw [this.2]; trivial
    ownInj := fun i j b h1 _ => by cases h1
    ownSlot := fun i b h1 => by cases h1
    ownApart := fun i b h1 => by cases h1
    ownNP := fun i b h1 => by cases h1 }
  have hA' : Room (A.deeper env) k := ⟨hA.1, by show A.depth + 1 + k < _; have := hA.2.1; omega, by show A.units + 3 + 8 * k + 200 < _; have := hA.2.2; omega⟩
  exact W.mono (hQ env vm s' F X hA') fun f s₂ h₂ => ⟨_, rfl, h₂⟩

end Mine

end
section
open PySem PySem.W PySem.Calls PyProof.Rows
set_option Elab.async false
set_option maxRecDepth 100000
namespace Mine
open PySem.Builtin.Re
open Sem (wp)

/-- what a call of separate gives -/
noncomputable def ConI (cx : Cx) (ct : Addr) (k : Nat) (fv : Value) : Prop :=
  ∀ (A : Around) (V : Avd) (s : Shared) (l : List Nat) (tk : Tok), Room A k → (∀ p, V p → p < s.heap.objs.size) → Base cx s.heap → (∀ c ∈ l, c < 0x110000) → l.length ≤ sizeLine →
    W cx.prog cx.w A (PySem.call fv [.str ⟨l.toArray⟩ tk]) (fun r s' => Ext s s' ∧ ∃ ci bm sc tk', r = .ref ci ∧ CIAt s'.heap ci bm sc cx.pat ct l tk' ((0 : Nat) : Int) ∧ ∀ b ∈ [ci, bm, sc], s.heap.objs.size ≤ b ∧ b < s'.heap.objs.size) s

theorem sep_con {cx : Cx} {ct : Addr} {k : Nat} {a : Addr} {o : Obj} {name px gx : Str} {params : Arguments} {scope : Scope} {pm cd doc : Value} {p1 p2 ap pos rpos : Pos}
    (ho : cx.h₁.get? a = some o) (hd : o.data = .func (docDef name params [.Return (some (.Call (.Attribute (.Name gx p1) "finditer" ap) [.Name px p2] [] pos)) rpos] scope pm cd doc)) (hcd : cx.h₁.CodeRec cd name)
    (hbind : ∀ vs : List Value, vs.length = [px].length → bindArgs (docDef name params [.Return (some (.Call (.Attribute (.Name gx p1) "finditer" ap) [.Name px p2] [] pos)) rpos] scope pm cd doc) ⟨vs, []⟩ = pure ([px].zip vs))
    (hp : PatAt cx.h₁ cx.pat ct) (hg : (cx.mg gx).or (cx.mb gx) = some (.ref cx.pat))
    (hgl : scope.names.lookup gx = some .globalImplicit) (hpx : scope.names.lookup px = some .local) (hgx : (gx == ("__debug__" : Str)) = false) (hpd : (px == ("__debug__" : Str) || px == ("__classdict__" : Str)) = false) (hline : ap.endLine = pos.line)
    (hnames : decide (scope.names.map (·.1)).Nodup = true) (hco : scope.isCoroutine = false) (hgen : scope.isGenerator = false) (hk : scope.kind = .function) : ConI cx ct (k + 1) (.ref a) := fun A V s l tk hA hV hb hl hz => by
  have hsz := szl
  have hr : RdAll cx s.heap V [.str l] [.str ⟨l.toArray⟩ tk] := RdAll.cons (rd_str hl hz) RdAll.nil
  refine fn_call (rest := []) ho hd hcd hbind hA hV hb hr rfl ?_ (by rw [List.append_nil]; simp) hnames (by simp [hpx]) hco hgen hk
  intro env vm s' F X hA'
  rw [execs_cons]
  refine W.bind ?_
  rw [exec_Return_some]
  refine W.bind (W.standAt (W.bind ?_))
  rw [method_split rfl rfl (by show 1 < 29; decide) hline]
  rw [eval_Name env gx p1 hgx]
  refine W.bind (W.bind (W.standAt (F.glob_ hgl hg ?_)))
  have hp' : PatAt s'.heap cx.pat ct := hp.at (fun o e => F.base _ o e) (fun o e => F.base _ o e)
  obtain ⟨q0, q1, q3, q4, hpo⟩ := hp'.obj
  refine W.bind (W.standAt (W.bind (W.holding (W.of_any (get_ref lk_pat_ga lk_pat_gn slot_finditer type_finditer hpo rfl rfl ?_)))))
  have hbk := backTo_plain pos env (es := [.Name px p2]) rfl
  have hes : SEs ⟨cx, scope, ([px] ++ []).map some, k⟩ [.Name px p2] (consF (vE 0) nilF) := ses_cons (se_var (J := ⟨cx, scope, ([px] ++ []).map some, k⟩) (i := 0) rfl hpd) ses_nil
  refine callWith_ok hbk.1 (by rw [hbk.2]; show 1 ≤ 30; decide) (W.mono (hes (A.deeper env) env V (fun _ => none) vm s' _ [.str l] pos hA' F rfl) fun vs s₁ ⟨X1, r1⟩ => ⟨.inr (by intro a e; cases e), ?_⟩)
  rw [RdAll] at r1
  obtain ⟨v, l', rfl, r1, r2⟩ := r1
  rw [RdAll] at r2
  subst r2
  rw [Rd] at r1
  obtain ⟨tk', rfl, _, _⟩ := r1
  have hp1 : PatAt s₁.heap cx.pat ct := hp'.at (fun o e => X1.keep _ o e) (fun o e => X1.keep _ o e)
  obtain ⟨n, hpc⟩ := hp1.code
  refine W.of_any (finditer_ok hp1 (by omega) ⟨Heap.lt_size (X1.keep _ _ hpo), Heap.lt_size hpc⟩ fun s₂ X2 I hs2 => ?_)
  have X02 : Ext s s₂ := (X.trans X1).trans X2
  have hle : s.heap.objs.size ≤ s₁.heap.objs.size := (X.trans X1).size
  refine W.pure (W.pure ⟨X02, _, _, _, _, rfl, I, fun b hb => ?_⟩)
  simp at hb
  rw [hs2]
  rcases hb with rfl | rfl | rfl
  · exact ⟨Nat.le_trans hle (Nat.le_add_right _ _), Nat.lt_succ_self _⟩
  · exact ⟨Nat.le_trans hle (Nat.le_add_right _ _), Nat.lt_succ_of_lt (Nat.lt_succ_self _)⟩
  · exact ⟨hle, Nat.lt_add_of_pos_right (by decide)⟩

/-! the pieces of a text -/
noncomputable def allFrom : Nat → List Nat → Nat → List (Nat × Nat × Nat)
  | 0, _, _ => []
  | f + 1, l, s => match findM s (l.drop s) with
    | none => []
    | some x => x :: allFrom f l x.2.1
noncomputable def allM (l : List Nat) : List (Nat × Nat × Nat) := allFrom (l.length + 1) l 0
noncomputable def matsOf (l : List Nat) : List D := (allM l).map fun x => .mat l x.1 x.2.1 x.2.2
noncomputable def asPieces : D → Option (List D)
  | .str l => some (matsOf l)
  | _ => none

theorem slot_ci_iter : PySem.Slot "callable_iterator" "__iter__" "callable_iterator.__iter__" :=
  .of (owner := "callable_iterator") (n := "__iter__") (by rw [typeLookup_type, builtinLookup_eq_fast]; kernel_rfl) (by decide +kernel) (by decide +kernel) (by decide +kernel)
    (by first | exact .inl (by decide +kernel) | exact .inr (by decide +kernel)) (by rw [isSubtype_type]; kernel_rfl)
theorem args_ci_iter (a : Value) : argsOk "callable_iterator.__iter__" ⟨[a], []⟩ := by unfold argsOk; kernel_rfl
theorem entry_ci_iter : entryFor table "callable_iterator.__iter__" = some Builtin.«dict_keyiterator.__iter__» :=
  entryFor_alias (id' := "dict_keyiterator.__iter__") (by kernel_rfl) (by first | rfl | decide +kernel) (by decide +kernel) (by kernel_rfl)
theorem iter_ci {prog : Program} {w : World} {A : Around} {E : Value → Shared → Prop} {s : Shared} {ci : Addr} {o : Obj} {Q : Value → Shared → Prop} (ho : s.heap.get? ci = some o) (hc : o.cls = .type "callable_iterator") (h : Q (.ref ci) s) : wpAny (model prog w) A (pyIter (.ref ci)) Q E s := by
  have hT : s.TypeIs (.ref ci) "callable_iterator" := ⟨o, ho, hc⟩
  refine wpAny_pyIter_slot hT slot_ci_iter (wpAny_call_entry slot_ci_iter hT entry_ci_iter ?_ (args_ci_iter _))
  show wpAny _ _ (ret (.ref ci)) _ _ s
  exact wpAny_pure ⟨_, rfl, "callable_iterator", _, hT, slot_ci_next.lookup, h⟩
end Mine

end
section
open PySem PySem.W PySem.Calls PyProof.Rows
set_option Elab.async false
set_option maxRecDepth 100000
namespace Mine
open PySem.Builtin.Re
open Sem (wp)

noncomputable def CISt (l : List Nat) (ci bm sc pat : Addr) (tk : Tok) (i : Nat) (h : Heap) : Prop :=
  h.get? ci = some { cls := .type "callable_iterator", data := .fields #[.ref bm, .none, .bool false] } ∧
  h.get? bm = some { cls := .type "builtin_function_or_method", data := .fields #[.builtin "_sre.SRE_Scanner.search", .ref sc] } ∧
  ∃ st f : Nat, h.get? sc = some (scanObj pat l tk (st : Nat)) ∧ st ≤ l.length ∧ l.length - st < f ∧ allFrom f l st = (allM l).drop i

theorem allFrom_len : ∀ (f : Nat) (l : List Nat) (s : Nat), s ≤ l.length → (allFrom f l s).length ≤ l.length - s
  | 0, _, _, _ => Nat.zero_le _
  | f + 1, l, s, h => by
    rw [allFrom]
    split
    · exact Nat.zero_le _
    · rename_i x hx
      obtain ⟨b, e, g⟩ := x
      obtain ⟨k1, k2, k3, _, _⟩ := findM_le _ _ hx
      simp only [List.length_drop] at k3
      have := allFrom_len f l e (by omega)
      simp only [List.length_cons]
      omega

theorem wk_sep {cx : Cx} {A : Around} {tgt : PySem.Expr} {ct ci bm sc : Addr} {l : List Nat} {tk : Tok} {N : Nat} {U : Avd} (hh : A.handled = none) (hu : A.units + 100 < cLine) (hl : ∀ c ∈ l, c < 0x110000) (hz : l.length ≤ sizeLine)
    (hp : PatAt cx.h₁ cx.pat ct) (hne : ci ≠ sc ∧ bm ≠ sc ∧ bm ≠ ci) (hnew : ∀ b ∈ [ci, bm, sc], ¬ U b ∧ b < N ∧ cx.h₁.objs.size ≤ b) :
    Wk cx A tgt (ci) [ci, sc] N (matsOf l) U (CISt l ci bm sc cx.pat tk) := by
  have hsz := szl
  obtain ⟨q0, q1, q3, q4, hpo⟩ := id hp.obj
  obtain ⟨nn, hpc⟩ := id hp.code
  have hps : cx.pat ≠ sc := fun e => Nat.lt_irrefl _ (Nat.lt_of_lt_of_le (Heap.lt_size hpo) (e ▸ (hnew sc (by simp)).2.2))
  have hcs : ct ≠ sc := fun e => Nat.lt_irrefl _ (Nat.lt_of_lt_of_le (Heap.lt_size hpc) (e ▸ (hnew sc (by simp)).2.2))
  have mk : ∀ {s : Shared} {st : Nat}, Base cx s.heap → s.heap.get? ci = some { cls := .type "callable_iterator", data := .fields #[.ref bm, .none, .bool false] } → s.heap.get? bm = some { cls := .type "builtin_function_or_method", data := .fields #[.builtin "_sre.SRE_Scanner.search", .ref sc] } →
      s.heap.get? sc = some (scanObj cx.pat l tk (st : Nat)) → CIAt s.heap ci bm sc cx.pat ct l tk (st : Nat) := fun hb h1 h2 h3 => ⟨h1, h2, h3, hp.at (fun o e => hb.2 _ o e) (fun o e => hb.2 _ o e), hne.1, hne.2.1, hps, hcs⟩
  exact {
    frame := fun i h h' ⟨h1, h2, st, f, h3, h4, h5, h6⟩ hk => ⟨hk _ _ (hnew ci (by simp)).1 (hnew ci (by simp)).2.1 h1, hk _ _ (hnew bm (by simp)).1 (hnew bm (by simp)).2.1 h2, st, f, hk _ _ (hnew sc (by simp)).1 (hnew sc (by simp)).2.1 h3, h4, h5, h6⟩
    item := fun i d s V Q hd ⟨h1, h2, st, f, h3, h4, h5, h6⟩ hb hV hQ => by
      unfold matsOf at hd
      rw [List.getElem?_map, Option.map_eq_some_iff] at hd
      obtain ⟨⟨b, e, g⟩, hm, rfl⟩ := hd
      have hi : i < (allM l).length := by
        rcases Nat.lt_or_ge i (allM l).length with h | h
        · exact h
        · rw [List.getElem?_eq_none h] at hm; cases hm
      have hdr : (allM l).drop i = (b, e, g) :: (allM l).drop (i + 1) := by
        rw [List.drop_eq_getElem_cons hi]
        rw [List.getElem?_eq_getElem hi] at hm
        rw [Option.some.inj hm]
      cases f with
      | zero => omega
      | succ f =>
        rw [hdr, allFrom] at h6
        split at h6
        · cases h6
        · rename_i x hx
          have e1 : x = (b, e, g) := (List.cons.inj h6).1
          subst e1
          have e2 := (List.cons.inj h6).2
          obtain ⟨k1, k2, k3, k4, k5⟩ := findM_le _ _ hx
          simp only [List.length_drop] at k3
          refine W.mono (ci_item (b := b) (e := e) (g := g) hu (mk hb h1 h2 h3) h4 (by omega) hx (Q := fun r s₁ => ∃ v, r = some v ∧ W cx.prog cx.w A (letOwnedTupleGo tgt (.ref ci) v) (fun _ s₂ => Q v s₂) s₁) fun h' I' hs' => ?_) fun r s₁ h => h
          have hci : ((h'.push { cls := .type "tuple", data := .seq (matSpans b e g).toArray }).push { cls := .type "re.Match", data := .fields #[.str ⟨l.toArray⟩ tk, .ref cx.pat, rawInt 0, rawInt (l.length : Nat), rawInt g, .ref h'.objs.size] }).get? ci = some { cls := .type "callable_iterator", data := .fields #[.ref bm, .none, .bool false] } := Heap.get?_push_of_some _ (Heap.get?_push_of_some _ I'.oci)
          refine ⟨_, rfl, go_skip hci rfl (by decide) (hQ _ _ ⟨rfl, rfl, ?_, ?_⟩ ?_ ⟨hci, Heap.get?_push_of_some _ (Heap.get?_push_of_some _ I'.obm), e, f, Heap.get?_push_of_some _ (Heap.get?_push_of_some _ I'.osc), (by show e ≤ l.length; omega), (by show l.length - e < f; omega), e2⟩)⟩
          · show s.heap.objs.size ≤ Array.size _
            rw [Heap.size_push, Heap.size_push, hs'.1]; exact Nat.le_add_right _ 2
          · intro a o ha ea
            exact Heap.get?_push_of_some _ (Heap.get?_push_of_some _ (hs'.extBut a o (fun e' => ha (by rw [e']; simp)) ea))
          · rw [Rd]
            refine ⟨_, h'.objs.size, rfl, ⟨tk, ?_⟩, ⟨0, Heap.get?_push_of_some _ (Heap.get?_push_size _ rfl)⟩, ⟨hl, hz, (by show b ≤ e; omega), (by show e ≤ l.length; omega), k4, k5⟩, ?_, ?_⟩
            · rw [← Heap.size_push (h := h') (o := { cls := .type "tuple", data := .seq (matSpans b e g).toArray })]
              exact Heap.get?_push_size _ rfl
            · intro hv
              have := (hV _ hv).2
              rw [← hs'.1] at this
              exact Nat.lt_irrefl _ (Nat.lt_of_succ_lt this)
            · intro hv
              have := (hV _ hv).2
              rw [← hs'.1] at this
              exact Nat.lt_irrefl _ this
    done := fun s Q ⟨h1, h2, st, f, h3, h4, h5, h6⟩ hb hQ => by
      unfold matsOf at h6
      rw [List.length_map, List.drop_length] at h6
      cases f with
      | zero => omega
      | succ f =>
        rw [allFrom] at h6
        split at h6
        · rename_i hx
          exact W.mono (W.size (ci_done hh (mk hb h1 h2 h3) h4 (by omega) hx (Q := fun r s' => s.heap.objs.size ≤ s'.heap.objs.size → r = none ∧ Q s') fun h' hk hsz' => ⟨rfl, hQ _ ⟨rfl, rfl, hsz', fun a o ha e => hk a o (fun e' => ha (by rw [e']; simp)) (fun e' => ha (by rw [e']; simp)) e⟩⟩)) fun r s' ⟨g1, g2⟩ => g2 g1
        · cases h6
    self := fun i s ⟨h1, _⟩ => W.of_any (iter_ci h1 rfl ⟨rfl, rfl⟩) }

theorem si_sep {J : Jd} {tgt e : PySem.Expr} {fn : Str} {fv : Value} {p pos : Pos} {ct : Addr} {k : Nat} {f : Rho → Option D} (hc : ConI J.cx ct k fv) (hp : PatAt J.cx.h₁ J.cx.pat ct) (he : SE J e f)
    (hv : (J.cx.mg fn).or (J.cx.mb fn) = some fv) (hkeep : KeepOk fv J.cx.h₁) (hk : k ≤ J.k := by decide)
    (hl : J.sc.names.lookup fn = some .globalImplicit := by rfl) (hst : isStarred e = false := by rfl) (hdb : (fn == ("__debug__" : Str)) = false := by decide) :
    SI J tgt (.Call (.Name fn p) [e] [] pos) (itE asPieces f) := fun A env P O vm s ρ ds hA F h => by
  unfold itE at h
  rw [Option.bind_eq_some_iff] at h
  obtain ⟨d, hd, h⟩ := h
  unfold asPieces at h
  split at h
  · rename_i l
    cases h
    show W _ _ A (do callWith pos (← eval (.Name fn p) env) [] (backTo pos (starEach [e] env)) []) _ s
    rw [eval_Name env fn p hdb]
    refine W.bind (W.bind (W.standAt (F.glob_ hl hv ?_)))
    have hb := backTo_plain pos env (es := [e]) (by simp [hst])
    have hes : SEs J [e] (consF f nilF) := ses_cons he ses_nil hst
    refine callWith_ok hb.1 (by rw [hb.2]; show 1 ≤ 30; decide) (W.mono (hes A env P O vm s ρ [.str l] pos hA F (by simp [consF, nilF, hd])) fun vs s₁ ⟨X1, r1⟩ => ⟨?_, ?_⟩)
    · rcases hkeep with ⟨a, o, fd, e, ho, hd⟩ | hk
      · exact .inl ⟨a, o, fd, e, (F.ext X1).base a o ho, hd⟩
      · exact .inr hk
    rw [RdAll] at r1
    obtain ⟨v, l', rfl, r1, r2⟩ := r1
    rw [RdAll] at r2
    subst r2
    rw [Rd] at r1
    obtain ⟨tk, rfl, hcp, hz⟩ := r1
    have F1 := F.ext X1
    refine W.mono (hc A (Av env P O) s₁ l tk (hA.le hk) (fun q hq => F1.avLt hq) F1.baseOf hcp hz) fun r s₂ ⟨X2, ci, bm, sc, tk', e1, I, hnew⟩ => ?_
    subst e1
    refine ⟨rfl, W.of_any (iter_ci I.oci rfl ?_)⟩
    have hne : bm ≠ ci := fun e => by
      have h1 := I.oci
      have h2 := I.obm
      rw [e, h1] at h2
      have h3 := congrArg (fun o : Option Obj => o.map (·.cls)) h2
      simp at h3
    refine ⟨X1.trans X2, ?_, ci, [ci, sc], _, rfl, wk_sep hA.1 hA.units hcp hz hp ⟨I.ne.1, I.ne.2.1, hne⟩ (fun b hb => ⟨F1.new (hnew b hb).1, (hnew b hb).2, Nat.le_trans F1.baseOf.1 (hnew b hb).1⟩), ⟨I.oci, I.obm, 0, l.length + 1, I.osc, Nat.zero_le _, by omega, rfl⟩, fun b hb => ?_⟩
    · unfold matsOf allM
      rw [List.length_map]
      exact Nat.le_trans (allFrom_len _ _ 0 (Nat.zero_le _)) hz
    · have hb' : b ∈ [ci, bm, sc] := by simp at hb ⊢; rcases hb with h | h <;> simp [h]
      exact ⟨Nat.le_trans X1.size (hnew b hb').1, (hnew b hb').2⟩
  · cases h
end Mine

end
section
open PySem PySem.W PySem.Calls PyProof.Rows
set_option Elab.async false
set_option maxRecDepth 100000
namespace Mine
open PySem.Builtin.Re
open Sem (wp)

theorem slot_group : PySem.Slot "re.Match" "group" "re.Match.group" :=
  .of (owner := "re.Match") (n := "group") (by rw [typeLookup_type, builtinLookup_eq_fast]; kernel_rfl) (by decide +kernel) (by decide +kernel) (by decide +kernel)
    (by first | exact .inl (by decide +kernel) | exact .inr (by decide +kernel)) (by rw [isSubtype_type]; kernel_rfl)
theorem type_group : typeOf (.builtin "re.Match.group") = pure (.type "method_descriptor") := by show builtinType _ = _; rw [builtinType_eq_fast]; kernel_rfl
theorem entry_group : entryFor table "re.Match.group" = some Builtin.«re.Match.group» := entryFor_of_tree (by kernel_rfl)
theorem args_group (a b : Value) : argsOk "re.Match.group" ⟨[a, b], []⟩ := by unfold argsOk; kernel_rfl
theorem get_mat {name : Str} {id : String} (slot : PySem.Slot "re.Match" name id) (ty : typeOf (.builtin id) = pure (.type "method_descriptor")) : GetOk name id isMatD := fun cx A V s d v pl Q hp r h => by
  unfold isMatD at hp
  split at hp
  · rw [Rd] at r
    obtain ⟨a, sp, M⟩ := r
    obtain ⟨tk, ho⟩ := M.obj
    rw [M.val] at h ⊢
    exact get_ref lk_mat_ga lk_mat_gn slot ty ho rfl rfl h
  · cases hp

/-- a group's text -/
noncomputable def groupD (t : List Nat) (b e g i : Nat) : D := if i = 0 ∨ i = g then .str ((t.drop b).take (e - b)) else .none

noncomputable abbrev spanA (b e g : Nat) : Array Int := (matSpans b e g).toArray.map reRawOf
theorem span_size (b e g : Nat) : (spanA b e g).size = 8 := by
  unfold spanA matSpans
  simp [List.range_succ]
  split <;> split <;> split <;> rfl
theorem span_get {b e g i : Nat} (hi : i ≤ 3) (hg1 : 1 ≤ g) (hg3 : g ≤ 3) : (spanA b e g).getD (2 * i) (-1) = (if i = 0 ∨ i = g then (b : Int) else -1) ∧ (spanA b e g).getD (2 * i + 1) (-1) = (if i = 0 ∨ i = g then (e : Int) else -1) := by
  have hi' : i = 0 ∨ i = 1 ∨ i = 2 ∨ i = 3 := by omega
  have hg' : g = 1 ∨ g = 2 ∨ g = 3 := by omega
  have e1 : spanA b e 1 = #[(b : Int), e, b, e, -1, -1, -1, -1] := by simp [spanA, matSpans, List.range_succ, reRawOf, rawInt]
  have e2 : spanA b e 2 = #[(b : Int), e, -1, -1, b, e, -1, -1] := by simp [spanA, matSpans, List.range_succ, reRawOf, rawInt]
  have e3 : spanA b e 3 = #[(b : Int), e, -1, -1, -1, -1, b, e] := by simp [spanA, matSpans, List.range_succ, reRawOf, rawInt]
  rcases hi' with rfl | rfl | rfl | rfl <;> rcases hg' with rfl | rfl | rfl <;> simp [e1, e2, e3]

theorem lk_str_index : typeLookup (.type "str") "__index__" = pure none := by rw [typeLookup_type, builtinLookup_eq_fast]; kernel_rfl

structure PatG (cx : Cx) : Prop where
  pat : ∃ (p0 p1 p4 : Value) (ct gd : Addr) (t1 t2 : Tok), cx.h₁.get? cx.pat = some { cls := .type "re.Pattern", data := .fields #[p0, p1, rawInt 3, .ref gd, p4, .ref ct, rawInt 0] } ∧
    cx.h₁.get? gd = some { cls := .type "dict", data := .dict #[⟨PyData.keyHash cx.w.params "set", .str "set" t1, .int 2 t2⟩] 1 }

section
variable {prog : Program} {w : World} {A : Around} {E : Value → Shared → Prop} {s : Shared}
theorem group_text {fs : Array Value} {t : List Nat} {tk : Tok} {b e g i : Nat} {Q : Value → Shared → Prop} {M : Model} (h0 : fs.getD 0 .none = .str ⟨t.toArray⟩ tk) (hz : t.length ≤ sizeLine) (hi : i ≤ 3) (hg1 : 1 ≤ g) (hg3 : g ≤ 3)
    (hs : (i = 0 ∨ i = g) → Q (.str ⟨t.toArray.extract b e⟩ s.toks) { s with toks := s.toks + 1 }) (hn : ¬ (i = 0 ∨ i = g) → Q .none s) : wpAny M A (reGroupText ⟨fs, spanA b e g⟩ i .none) Q E s := by
  unfold reGroupText
  obtain ⟨e1, e2⟩ := span_get (b := b) (e := e) hi hg1 hg3
  simp only [e1, e2, h0]
  by_cases h : i = 0 ∨ i = g
  · simp only [h, if_true]
    rw [if_neg (by simp)]
    show wpAny _ _ (mkStr ⟨t.toArray.extract b e⟩) _ _ _
    exact wpAny_mkStr (hs h) (by show (t.toArray.extract b e).size ≤ sizeLine; rw [Array.size_extract]; simp; omega)
  · simp only [h, if_false]
    rw [if_pos (by decide)]
    exact wpAny_pure (hn h)

theorem found_ok {M : Model} {m sp pat : Addr} {t : List Nat} {tk : Tok} {b e g n : Nat} {Q : ReFound → Shared → Prop} (ho : s.heap.get? m = some { cls := .type "re.Match", data := .fields #[.str ⟨t.toArray⟩ tk, .ref pat, rawInt 0, rawInt (t.length : Nat), rawInt g, .ref sp] })
    (hs : s.heap.get? sp = some { cls := .type "tuple", data := .seq (matSpans b e g).toArray n }) (h : Q ⟨#[.str ⟨t.toArray⟩ tk, .ref pat, rawInt 0, rawInt (t.length : Nat), rawInt g, .ref sp], spanA b e g⟩ s) : wpAny M A (reFound (.ref m)) Q E s := by
  unfold reFound
  refine wpAny_bind (wpAny_fieldsOf ho rfl ?_)
  refine wpAny_bind ?_
  unfold reRawItems
  refine wpAny_bind (wpAny_seqItems hs rfl ?_)
  exact wpAny_pure (wpAny_pure h)

theorem num_int {fs : Array Value} {b e g : Nat} {i : Nat} {tk : Tok} {Q : Nat → Shared → Prop} (hi : i ≤ 3) (h : Q i s) : wpAny (model prog w) A (reGroupNumber ⟨fs, spanA b e g⟩ (.int (i : Nat) tk)) Q E s := by
  have hsz := span_size b e g
  unfold reGroupNumber
  obtain ⟨hp, gs, d, t, os⟩ := s
  simp only [hsz]
  repeat (any_goals (first | assumption | wp_step))
  rw [if_neg (by simp only [Bool.or_eq_true, decide_eq_true_eq, not_or]; omega)]
  rw [Int.toNat_natCast]
  exact wpAny_pure h

theorem num_set {fs : Array Value} {b e g : Nat} {pat gd : Addr} {tk t1 t2 : Tok} {vs : Array Value} {Q : Nat → Shared → Prop} (h1 : fs.getD 1 .none = .ref pat) (hp : s.heap.get? pat = some { cls := .type "re.Pattern", data := .fields vs }) (h3 : vs.getD 3 .none = .ref gd)
    (hd : s.heap.get? gd = some { cls := .type "dict", data := .dict #[⟨PyData.keyHash w.params "set", .str "set" t1, .int 2 t2⟩] 1 }) (h : Q 2 { s with toks := s.toks + 1 }) : wpAny (model prog w) A (reGroupNumber ⟨fs, spanA b e g⟩ (.str "set" tk)) Q E s := by
  have hsz := span_size b e g
  unfold reGroupNumber
  simp only [hsz, h1]
  refine wpAny_bind (m := asInt? (.str "set" tk)) (wpAny_of_eq (a := none) rfl ?_)
  simp only [Option.isSome_none, Bool.false_eq_true, if_false]
  refine wpAny_bind (wpAny_specialOf (typeIs_str _ _ _) lk_str_index ?_)
  simp only [Option.isSome_none, Bool.false_eq_true, if_false]
  refine wpAny_bind (wpAny_fieldsOf hp rfl ?_)
  simp only [h3]
  have hm : s.heap.MapOf (strKind prog w) gd fun x => if x = "set" then some (.int 2 t2) else none := by
    refine ⟨_, _, _, hd, ⟨rfl, rfl, rfl⟩, rfl, ?_, fun k => ?_⟩
    · intro e' he
      simp at he
      subst he
      exact ⟨"set", by rfl, by rfl⟩
    · have hb : (strKind prog w).is k (.str "set" t1) = decide (k = "set") := by
        show (("set" : Str) == k) = decide (k = "set")
        by_cases hk : k = "set"
        · subst hk; simp
        · rw [decide_eq_false hk, beq_false_of_ne (Ne.symm hk)]
      by_cases hk : k = "set"
      · subst hk
        simp only [decide_true] at hb
        simp [findBy, hb]
      · simp [findBy, hb, hk]
  refine wpAny_bind (wpAny_dictGet_of (knd := strKind prog w) (k := "set") (by rfl) hm ?_)
  simp only [if_true]
  refine wpAny_bind (m := asInt? (.int 2 t2)) (wpAny_of_eq (a := some 2) rfl ?_)
  exact wpAny_pure h
end

theorem PatG.at {cx : Cx} {h : Heap} (x : PatG cx) (hb : Base cx h) : ∃ (vs : Array Value) (gd : Addr) (t1 t2 : Tok), h.get? cx.pat = some { cls := .type "re.Pattern", data := .fields vs } ∧ vs.getD 3 .none = .ref gd ∧
    h.get? gd = some { cls := .type "dict", data := .dict #[⟨PyData.keyHash cx.w.params "set", .str "set" t1, .int 2 t2⟩] 1 } := by
  obtain ⟨p0, p1, p4, ct, gd, t1, t2, h1, h2⟩ := x.pat
  exact ⟨_, gd, t1, t2, hb.2 _ _ h1, rfl, hb.2 _ _ h2⟩

noncomputable def setName : List Nat := [115, 101, 116]
noncomputable def groupF : List D → Option D
  | [.mat t b e g, .int i] => if 0 ≤ i ∧ i ≤ 3 then some (groupD t b e g i.toNat) else none
  | [.mat t b e g, .str n] => if n = setName then some (groupD t b e g 2) else none
  | _ => none
theorem extract_eq (t : List Nat) (b e : Nat) : t.toArray.extract b e = ((t.drop b).take (e - b)).toArray := by
  simp
theorem con_group {cx : Cx} {k : Nat} (hP : PatG cx) : Con cx k (.builtin "re.Match.group") groupF := fun A V s ds vs r hA hV hb ra h => by
  have fin : ∀ {t : List Nat} {b e g i : Nat} {m sp : Addr} {tk : Tok} {s₁ : Shared} {x : ReFound}, MatAt cx s.heap V t b e g (.ref m) m sp → Ext s s₁ → i ≤ 3 → x = ⟨#[.str ⟨t.toArray⟩ tk, .ref cx.pat, rawInt 0, rawInt (t.length : Nat), rawInt g, .ref sp], spanA b e g⟩ →
      wpAny (model cx.prog cx.w) A.in1 (reGroupText x i .none) (fun v s' => Ext s s' ∧ Rd cx s'.heap V (groupD t b e g i) v) (fun _ _ => False) s₁ := fun M X hi hx => by
    subst hx
    obtain ⟨o1, o2, o3, o4, o5, o6⟩ := M.ok
    refine group_text rfl o2 hi o5 o6 (fun hc => ⟨X.trans (Ext.toks _), ?_⟩) (fun hc => ⟨X, ?_⟩)
    · unfold groupD
      rw [if_pos hc, extract_eq]
      refine rd_str (fun c hcm => o1 c (List.mem_of_mem_drop (List.mem_of_mem_take hcm))) ?_
      rw [List.length_take, List.length_drop]; omega
    · unfold groupD
      rw [if_neg hc, Rd]
  unfold groupF at h
  split at h
  · rename_i t b e g i
    split at h
    · rename_i hi
      cases h
      rw [RdAll] at ra; obtain ⟨v, l1, rfl, ra, rb⟩ := ra
      rw [RdAll] at rb; obtain ⟨v2, l2, rfl, rb, rc⟩ := rb
      rw [RdAll] at rc; subst rc
      rw [Rd] at ra; obtain ⟨m, sp, M⟩ := ra
      rw [Rd] at rb; obtain ⟨ti, rfl⟩ := rb
      obtain ⟨tk, ho⟩ := M.obj
      obtain ⟨n, hs⟩ := M.spans
      have hv := M.val
      subst hv
      refine W.of_any (wpAny_call_entry slot_group ⟨_, ho, rfl⟩ entry_group ?_ (args_group _ _))
      unfold Builtin.«re.Match.group»
      show wpAny _ _ (reFound (.ref m) >>= _) _ _ _
      refine wpAny_bind (found_ok ho hs ?_)
      obtain ⟨j, rfl⟩ := Int.eq_ofNat_of_zero_le hi.1
      refine wpAny_bind (num_int (by omega) ?_)
      refine wpAny_bind (wpAny_mono (fin M (Ext.refl _) (by omega) rfl) (fun v s' hv => wpAny_pure ⟨v, rfl, ?_⟩) fun _ _ x => x)
      rw [Int.toNat_natCast]
      exact hv
    · cases h
  · rename_i t b e g nm
    split at h
    · rename_i hi
      cases h
      subst hi
      rw [RdAll] at ra; obtain ⟨v, l1, rfl, ra, rb⟩ := ra
      rw [RdAll] at rb; obtain ⟨v2, l2, rfl, rb, rc⟩ := rb
      rw [RdAll] at rc; subst rc
      rw [Rd] at ra; obtain ⟨m, sp, M⟩ := ra
      rw [Rd] at rb; obtain ⟨ti, rfl, _, _⟩ := rb
      obtain ⟨tk, ho⟩ := M.obj
      obtain ⟨n, hs⟩ := M.spans
      have hv := M.val
      subst hv
      obtain ⟨pv, gd, t1, t2, hp1, hp2, hp3⟩ := hP.at hb
      refine W.of_any (wpAny_call_entry slot_group ⟨_, ho, rfl⟩ entry_group ?_ (args_group _ _))
      unfold Builtin.«re.Match.group»
      show wpAny _ _ (reFound (.ref m) >>= _) _ _ _
      refine wpAny_bind (found_ok ho hs ?_)
      refine wpAny_bind (num_set (tk := ti) rfl hp1 hp2 hp3 ?_)
      exact wpAny_bind (wpAny_mono (fin M (Ext.toks _) (by omega) rfl) (fun v s' hv => wpAny_pure ⟨v, rfl, hv⟩) fun _ _ x => x)
    · cases h
  · cases h
end Mine

end
section
open PySem PySem.W PySem.Calls PyProof.Rows
set_option Elab.async false
set_option maxRecDepth 100000
namespace Mine
open Sem (wp)

noncomputable def strsOf : List D → Option (List (List Nat))
  | [] => some []
  | .str l :: r => (strsOf r).map (l :: ·)
  | _ => none
noncomputable def joinF : List D → Option D
  | [.str [], .list ds] => (strsOf ds).bind fun ls => if ls.flatten.length ≤ sizeLine then some (.str ls.flatten) else none
  | _ => none

theorem strs_read {cx : Cx} {h : Heap} {V : Avd} : ∀ {ds : List D} {vs : List Value} {ls : List (List Nat)}, RdAll cx h V ds vs → strsOf ds = some ls →
    ∃ l : List (Str × Tok), vs = strValues l ∧ l.map (·.1) = ls.map (fun x => (⟨x.toArray⟩ : Str)) ∧ ∀ c ∈ ls.flatten, c < 0x110000
  | [], vs, ls, r, hs => by
    rw [RdAll] at r
    subst r
    cases hs
    exact ⟨[], rfl, rfl, fun c hc => by simp at hc⟩
  | d :: ds, vs, ls, r, hs => by
    cases d with
    | str l =>
      rw [RdAll] at r
      obtain ⟨v, l2, rfl, r1, r2⟩ := r
      rw [strsOf, Option.map_eq_some_iff] at hs
      obtain ⟨ls', h1, rfl⟩ := hs
      rw [Rd] at r1
      obtain ⟨t, rfl, hc, _⟩ := r1
      obtain ⟨l', e1, e2, e3⟩ := strs_read r2 h1
      refine ⟨(⟨l.toArray⟩, t) :: l', by rw [e1]; rfl, by simp [e2], fun c hm => ?_⟩
      rw [List.flatten_cons, List.mem_append] at hm
      exact hm.elim (hc c) (e3 c)
    | _ => simp [strsOf] at hs

theorem glue_acc (ls : List (List Nat)) : ∀ acc : List Nat, (ls.map (fun x => (⟨x.toArray⟩ : Str))).foldl (fun acc p => acc ++ (⟨#[]⟩ : Str).cps ++ p.cps) acc.toArray = (acc ++ ls.flatten).toArray := by
  induction ls with
  | nil => intro acc; simp
  | cons x ls ih => intro acc; simp only [List.map_cons, List.foldl_cons]; rw [show acc.toArray ++ (#[] : Array Nat) ++ x.toArray = (acc ++ x).toArray by simp]; rw [ih]; simp
theorem glued_nil (ls : List (List Nat)) : Builtin.Str.glued ⟨#[]⟩ (ls.map (fun x => (⟨x.toArray⟩ : Str))) = ⟨ls.flatten.toArray⟩ := by
  unfold Builtin.Str.glued
  cases ls with
  | nil => rfl
  | cons x ls =>
    simp only [List.map_cons, List.drop_succ_cons, List.drop_zero, List.headD_cons]
    rw [glue_acc ls x]; rfl
theorem len_sum (ls : List (List Nat)) : ∀ n : Nat, (ls.map (fun x => (⟨x.toArray⟩ : Str))).foldl (· + ·.length + (⟨#[]⟩ : Str).length) n = n + ls.flatten.length := by
  induction ls with
  | nil => intro n; simp
  | cons x ls ih => intro n; simp only [List.map_cons, List.foldl_cons]; rw [ih]; simp [Str.length]; omega

theorem con_join {cx : Cx} {k : Nat} : Con cx k (.builtin "str.join") joinF := fun A V s ds vs r hA hV hb ra h => by
  unfold joinF at h
  split at h
  · rename_i es
    rw [Option.bind_eq_some_iff] at h
    obtain ⟨ls, hls, h⟩ := h
    split at h
    · rename_i hz
      cases h
      rw [RdAll] at ra; obtain ⟨v, l1, rfl, ra, rb⟩ := ra
      rw [RdAll] at rb; obtain ⟨v2, l2, rfl, rb, rc⟩ := rb
      rw [RdAll] at rc; subst rc
      rw [Rd] at ra; obtain ⟨t1, rfl, _, _⟩ := ra
      rw [Rd] at rb; obtain ⟨a, us, n, rfl, ho, _, _, rb⟩ := rb
      obtain ⟨l, e1, e2, e3⟩ := strs_read rb hls
      have hus : us = (strValues l).toArray := by rw [← e1]
      refine W.of_any (SC.join (l := l) ⟨_, ho, rfl, n, by rw [hus]⟩ e2 ?_ fun t' k => ⟨Ext.toks _, ?_⟩)
      · unfold JoinOk
        rw [List.foldl_toArray, len_sum, Nat.zero_add]
        unfold Builtin.Str.tooLong
        simpa using hz
      · have : Txt.join ⟨([] : List Nat).toArray⟩ (ls.map (fun x => (⟨x.toArray⟩ : Str))) = ⟨ls.flatten.toArray⟩ := glued_nil ls
        rw [this]
        exact rd_str e3 hz
    · cases h
  · cases h
end Mine

end
section
open PySem PySem.W PySem.Calls PyProof.Rows
set_option Elab.async false
set_option maxRecDepth 100000
namespace Mine
open Sem (wp)

noncomputable def opIAdd : D → D → Option D
  | .int a, .int b => some (.int (a + b))
  | .str a, .str b => if a.length + b.length ≤ sizeLine then some (.str (a ++ b)) else none
  | _, _ => none
noncomputable def AugOk (op : Operator) (F : D → D → Option D) : Prop :=
  ∀ (cx : Cx) (A : Around) (V : Avd) (s : Shared) (a b : D) (x y : Value) (r : D), Rd cx s.heap V a x → Rd cx s.heap V b y → F a b = some r →
    W cx.prog cx.w A (inplaceOp op x y) (fun v s' => Ext s s' ∧ Rd cx s'.heap V r v) s
theorem aug_add : AugOk .Add opIAdd := fun cx A V s a b x y r ra rb h => by
  unfold opIAdd at h
  split at h
  · cases h; rw [Rd] at ra rb; obtain ⟨t, rfl⟩ := ra; obtain ⟨u, rfl⟩ := rb
    exact W.of_any (wpAny_iadd_int ⟨Ext.toks _, by rw [Rd]; exact ⟨_, rfl⟩⟩)
  · rename_i p q
    split at h
    · rename_i hz
      cases h; rw [Rd] at ra rb; obtain ⟨t, rfl, h1, z1⟩ := ra; obtain ⟨u, rfl, h2, z2⟩ := rb
      have hr : ∀ t, Rd cx s.heap V (.str (p ++ q)) (.str (⟨p.toArray⟩ ++ ⟨q.toArray⟩) t) := fun t => by
        rw [str_append]
        exact rd_str (fun c hc => (List.mem_append.mp hc).elim (h1 c) (h2 c)) (by rw [List.length_append]; exact hz)
      exact W.of_any (iadd_str (fun t' tk => ⟨Ext.toks _, hr t'⟩) (by rw [str_len, str_len]; exact hz))
    · cases h
  · cases h
noncomputable def augS (i : Nat) (F : D → D → Option D) (g : Rho → Option D) : Rho → Option (Out × Rho) := fun ρ => (vE i ρ).bind fun a => (g ρ).bind fun b => (F a b).map fun c => (.next, ρ.set i (.val c))
theorem s1_aug {J : Jd} {x : Str} {p pos : Pos} {op : Operator} {value : PySem.Expr} {i : Nat} {F : D → D → Option D} {g : Rho → Option D} (hF : AugOk op F) (hv : SE J value g) (ht : J.tab[i]? = some (some x) := by rfl) (hf : J.sc.names.lookup x ≠ some .free := by decide)
    (hd : (x == ("__classdict__" : Str)) = false := by decide) : S1 J (.AugAssign (.Name x p) op value pos) (augS i F g) := fun A env P O vm s ρ out ρ' hA Fr h => by
  unfold augS at h
  rw [Option.bind_eq_some_iff] at h
  obtain ⟨a, ha, h⟩ := h
  rw [Option.bind_eq_some_iff] at h
  obtain ⟨b, hb, h⟩ := h
  rw [Option.map_eq_some_iff] at h
  obtain ⟨c, hc, h⟩ := h
  cases h
  rw [exec_AugAssign_Name]
  unfold vE at ha
  split at ha
  · rename_i d' hr
    cases ha
    obtain ⟨v, hvv, r⟩ := Fr.slots i x _ ht hr
    refine W.bind (W.standAt (W.bind (Fr.load ht hvv ?_ hd)))
    refine W.bind (W.holding (W.mono (hv A env P O vm s ρ b hA Fr hb) fun y s₁ ⟨X1, r1⟩ => ?_))
    refine W.bind (W.standAt (W.bind (W.operate (W.mono (hF J.cx A (Av env P O) s₁ _ b v y c (r.keep X1.keep) r1 hc) fun z s₂ ⟨X2, r2⟩ => ?_))))
    refine W.bind (W.standAt (W.bind ?_))
    unfold bindName
    have X := X1.trans X2
    exact W.bind (W.holding (W.point (W.bind ((Fr.ext X).store ht (fun e => hf e) r2 fun s' F' T' => W.point (W.pure ⟨rfl, _, _, F', X.tr.trans T'⟩)))))
  · cases ha
end Mine

end
section
open PySem PySem.W PySem.Calls PyProof.Rows
set_option Elab.async false
set_option maxRecDepth 100000
namespace Mine

/-! the rules again, their side conditions by rfl -/
section
variable {J : Jd}
theorem le_of_ble {k n : Nat} (h : Nat.ble k n = true) : k ≤ n := Nat.le_of_ble_eq_true h
theorem ne_of_beqf {a b : Option NameKind} (h : (a == b) = false) : a ≠ b := fun e => by rw [e] at h; simp at h

theorem x_name {x : Str} {pos : Pos} (i : Nat) (ht : J.tab[i]? = some (some x) := by rfl) (hf : (J.sc.names.lookup x == some .free) = false := by rfl) : SA J (.Name x pos) (nameA i) := sa_name ht (ne_of_beqf hf)
theorem x_var {x : Str} {pos : Pos} (i : Nat) (ht : J.tab[i]? = some (some x) := by rfl) (hd : (x == ("__debug__" : Str) || x == ("__classdict__" : Str)) = false := by rfl) : SE J (.Name x pos) (vE i) := se_var ht hd
theorem x_call {fn : Str} {fv : Value} {p pos : Pos} {es : List PySem.Expr} {F : List D → Option D} {g : Rho → Option (List D)} {k : Nat} (hc : Con J.cx k fv F) (hv : (J.cx.mg fn).or (J.cx.mb fn) = some fv) (hkeep : KeepOk fv J.cx.h₁) (hes : SEs J es g)
    (hk : Nat.ble k J.k = true := by rfl) (hl : J.sc.names.lookup fn = some .globalImplicit := by rfl) (hst : es.any isStarred = false := by rfl) (hlen : Nat.ble es.length 30 = true := by rfl) (hdb : (fn == ("__debug__" : Str)) = false := by rfl) :
    SE J (.Call (.Name fn p) es [] pos) (callE F g) := se_call hc hes hv hkeep (le_of_ble hk) hl hst (le_of_ble hlen) hdb
theorem x_meth {o : PySem.Expr} {name : Str} {id : String} {apos pos : Pos} {es : List PySem.Expr} {f : Rho → Option D} {g : Rho → Option (List D)} {p : D → Bool} {F : List D → Option D} (hg : GetOk name id p) (hc : Con J.cx 0 (.builtin id) F) (ho : SE J o f) (hes : SEs J es g)
    (hs : notSuperCall o = true := by rfl) (hst : es.any isStarred = false := by rfl) (hlen : Nat.ble (es.length + 1) 29 = true := by rfl) (hp : apos.endLine = pos.line := by rfl) :
    SE J (.Call (.Attribute o name apos) es [] pos) (methE p F f g) := se_method hg hc ho hes (Nat.zero_le _) hs hst (le_of_ble hlen) hp
theorem x_aug {x : Str} {p pos : Pos} {op : Operator} {value : PySem.Expr} {F : D → D → Option D} {g : Rho → Option D} (i : Nat) (hF : AugOk op F) (hv : SE J value g) (ht : J.tab[i]? = some (some x) := by rfl) (hf : (J.sc.names.lookup x == some .free) = false := by rfl)
    (hd : (x == ("__classdict__" : Str)) = false := by rfl) : S1 J (.AugAssign (.Name x p) op value pos) (augS i F g) := s1_aug hF hv ht (ne_of_beqf hf) hd
theorem x_own {x : Str} {p pos : Pos} {value : PySem.Expr} {f : Rho → Option (List D)} (i : Nat) (hv : SEF J value f) (hc : notComp value = true := by rfl) (ht : J.tab[i]? = some (some x) := by rfl) (hf : (J.sc.names.lookup x == some .free) = false := by rfl) :
    S1 J (.Assign [.Name x p] value pos) (ownS i f) := s1_own hv hc ht (ne_of_beqf hf)
theorem x_sep {tgt e : PySem.Expr} {fn : Str} {fv : Value} {p pos : Pos} {ct : Addr} {k : Nat} {f : Rho → Option D} (hc : ConI J.cx ct k fv) (hp : PatAt J.cx.h₁ J.cx.pat ct) (hv : (J.cx.mg fn).or (J.cx.mb fn) = some fv) (hkeep : KeepOk fv J.cx.h₁) (he : SE J e f)
    (hk : Nat.ble k J.k = true := by rfl) (hl : J.sc.names.lookup fn = some .globalImplicit := by rfl) (hst : isStarred e = false := by rfl) (hdb : (fn == ("__debug__" : Str)) = false := by rfl) :
    SI J tgt (.Call (.Name fn p) [e] [] pos) (itE asPieces f) := si_sep hc hp he hv hkeep (le_of_ble hk) hl hst hdb

noncomputable def nodupB : List Str → Bool
  | [] => true
  | x :: r => !r.contains x && nodupB r
theorem nodupB_ok : ∀ {l : List Str}, nodupB l = true → l.Nodup
  | [], _ => .nil
  | x :: r, h => by
    unfold nodupB at h
    rw [Bool.and_eq_true] at h
    rw [List.nodup_cons]
    refine ⟨fun hm => ?_, nodupB_ok h.2⟩
    have := h.1
    simp [hm] at this
noncomputable def compOkB (tab : List (Option Str)) (sc scope : Scope) (vars : List Str) : Bool :=
  nodupB (scope.names.map (·.1)) && (scope.names.all fun x => !(x.2 == .cell)) && (scope.names.all fun x => !(x.2 == .free) || (tab.contains (some x.1) && !(sc.names.lookup x.1 == some .local))) && (vars.all fun x => scope.names.lookup x == some .local) && nodupB vars
theorem x_cs {scope : Scope} {vars : List Str} (hk : scope.kind = .function := by rfl) (h : compOkB J.tab J.sc scope vars = true := by rfl) : CompSc J scope vars := by
  unfold compOkB at h
  simp only [Bool.and_eq_true, List.all_eq_true] at h
  obtain ⟨⟨⟨⟨h1, h2⟩, h3⟩, h4⟩, h5⟩ := h
  refine ⟨hk, nodupB_ok h1, fun x hx e => ?_, fun x hx e => ?_, fun x hx => ?_, nodupB_ok h5⟩
  · have := h2 x hx
    rw [e] at this
    simp at this
  · have := h3 x hx
    rw [e] at this
    simp at this
    refine ⟨this.1, fun e' => ?_⟩
    have := this.2
    simp [e'] at this
  · have := h4 x hx
    simpa using this
theorem x_comp {scope : Scope} {elt tgt iter : PySem.Expr} {ifs : List PySem.Expr} {pos : Pos} {g : D → Rho → Option Rho} {t : Rho → Option Bool} {fe : Rho → Option D} {f : Rho → Option (List D)} (vars : List Str) (cs : CompSc J scope vars) (hi : SI J tgt iter f) (ht : SAL (Jc J scope vars) tgt g) (hts : TsOk (Jc J scope vars) ifs t) (he : SE (Jc J scope vars) elt fe) :
    SEF J (.ListComp elt [⟨tgt, iter, ifs, 0⟩] scope pos) (compF vars f g t (emE fe)) := sef_comp cs turn_one hi ht hts (em_last he)
theorem x_lname {x : Str} {pos : Pos} (i : Nat) (ht : J.tab[i]? = some (some x) := by rfl) (hl : J.sc.names.lookup x = some .local := by rfl) : SAL J (.Name x pos) (nameA i) := sal_name ht hl
theorem x_str {x : Str} {k pos} (l : List Nat) (e : x = ⟨l.toArray⟩ := by rfl) (h1 : (l.all (· < 0x110000) && decide (l.length ≤ 1000)) = true := by rfl) : SE J (.Constant (.str x) k pos) (cE (.str l)) := se_str e h1
end
end Mine

end
section
open PySem PySem.W PySem.Calls PyProof.Rows
set_option Elab.async false
set_option maxRecDepth 100000
namespace Mine

theorem ints_of_items {R : WRecords} : ∀ {xs : List WData}, WShape.hasItems R xs .int = true → ∃ ns : List Int, xs = ns.map WData.int
  | [], _ => ⟨[], rfl⟩
  | x :: xs, h => by
    rw [WShape.hasItems, Bool.and_eq_true] at h
    obtain ⟨ns, rfl⟩ := ints_of_items h.2
    have h1 := h.1
    cases x with
    | int i => exact ⟨i :: ns, rfl⟩
    | _ => rw [WShape.has] at h1; exact Bool.noConfusion (show false = true from h1)
theorem script_shape {R : WRecords} {args : List WData} (h : WShape.hasAll R args [.list .int] = true) : ∃ ns : List Int, args = [.list (ns.map WData.int)] := by
  obtain ⟨d, r, rfl, h1, h2⟩ := hasAllW_cons h
  have := hasAllW_nil h2
  subst this
  cases d with
  | list xs =>
    rw [WShape.has] at h1
    have h1' : (WShape.hasItems R xs .int || false) = true := h1
    rw [Bool.or_false] at h1'
    obtain ⟨ns, rfl⟩ := ints_of_items h1'
    exact ⟨ns, rfl⟩
  | _ => rw [WShape.has] at h1; exact Bool.noConfusion (show false = true from h1)

theorem rd_ints {cx : Cx} {P : Params} {h : Heap} {V : Avd} : ∀ {ns : List Int} {vs : List Value}, WellAll P h vs (ns.map WData.int) → RdAll cx h V (ns.map D.int) vs
  | [], vs, w => by cases w; exact RdAll.nil
  | n :: ns, vs, w => by
    cases w with
    | cons w1 w2 =>
      refine RdAll.cons ?_ (rd_ints w2)
      cases w1
      rw [Rd]
      exact ⟨_, rfl⟩

noncomputable abbrev A0 : Around := { handled := none, depth := 301, units := 4 }
theorem rl : recursionLimit = 1000 := by decide
theorem cl_line : cLine = 9900 := by decide
theorem caller_in : callerG.In A0 := ⟨rfl, by decide, fun l h => (nomatch h : False).elim, fun g h => (nomatch h : False).elim, by decide⟩

/-- the end of a law's walk -/
theorem law_end {l : OpenLaw} (hm : l.most = some 63) (hbn : l.bound = none) {s₀ s₁ : Shared} {cx : Cx} (hh : cx.h₁ = s₁.heap) (hpr : cx.prog = l.row.toRowW.prog) {a : Addr} {k : Nat} {F : List D → Option D} (hc : Con cx k (.ref a) F) (hk : k ≤ 600)
    (hF : ∀ ns : List Int, ns.length ≤ 63 → F [.list (ns.map .int)] = some (.bool true)) (hg : s₁.gens = #[]) (htk : 0 < s₁.toks) {args : List WData} {vals : List Value} (hpre : l.row.toRowW.claim.pre args = true) (hwl : WellAll cx.w.params s₁.heap vals args) :
    Sem.wp (Mg l.row.toRowW.prog cx.w) callerG (PySem.call (.ref a) vals) (fun v _ s' => GoodWG l.row.toRowW.claim (classAt s₀.heap) (ExcName.means s₀.heap) args s₁ (.ok (.ret v)) s') (fun _ _ _ => False) default s₁ := by
  obtain ⟨h1, h2⟩ := pre_splitW hpre
  obtain ⟨ns, rfl⟩ := script_shape h1
  have hn : ns.length ≤ 63 := by
    have e : l.row.toRowW.pre = .and (.not (.lt (.lit (.int 63)) (.len (.arg 0)))) (.lit (.bool true)) := by
      show l.pre = _
      unfold OpenLaw.pre
      rw [hm, hbn]
      rfl
    rw [e] at h2
    simp [WTm.holds, WTm.value] at h2
    have e2 : less? (WData.int 63) (WData.int (ns.length : Nat)) = some (decide ((63 : Int) < (ns.length : Nat))) := by
      first | rfl | simp [less?]
    rw [e2] at h2
    rcases Nat.lt_or_ge 63 ns.length with hgt | hle
    · rw [decide_eq_true (by omega)] at h2
      simp at h2
    · exact hle
  cases hwl with
  | cons w1 w2 =>
    cases w2
    cases w1 with
    | list ho hi =>
      rename_i b vs
      have hr := rd_ints (cx := cx) (V := fun _ => False) hi
      have hl := hr.length
      rw [List.length_map] at hl
      have hsz := szl
      have hra : RdAll cx s₁.heap (fun _ => False) [.list (ns.map .int)] [.ref b] := RdAll.cons (by
        rw [Rd]
        exact ⟨b, vs.toArray, 0, rfl, ho, id, by simp; omega, hr⟩) RdAll.nil
      have hw := hc A0 (fun _ => False) s₁ [.list (ns.map .int)] [.ref b] (.bool true) ⟨rfl, by rw [rl]; show 301 + k < 1000; omega, by rw [cl_line]; show 4 + 8 * k + 200 < 9900; omega⟩ (fun _ h => h.elim) (by rw [← hh]; exact ⟨Nat.le_refl _, fun _ _ e => e⟩) hra (hF ns hn)
      rw [hpr] at hw
      refine Sem.wp_mono _ _ _ (fun v p' s' h => ?_) (fun _ _ _ x => x) _ _ (hw htk callerG default caller_in clean_caller)
      obtain ⟨X, r⟩ := h
      rw [Rd] at r
      subst r
      refine ⟨.inl ⟨_, .bool true, [], rfl, fun cls => by rfl, .bool true, ?_, fun _ => ⟨List.nodup_nil, fun _ h => nomatch h⟩⟩, .of_keep X.keep, X.os, .of_eq (X.gens.trans hg)⟩
      show (WShape.has [] (.bool true) .bool && WTm.holds [] (.eq .res (.lit (.bool true))) { args := [WData.list (List.map WData.int ns)], res := some (.bool true), after := [WData.list (List.map WData.int ns)] }) = true
      have e3 : same (WData.bool true) (WData.bool true) = true := by first | rfl | decide | simp [same]
      rw [show WShape.has [] (.bool true) .bool = true from by rw [WShape.has]; rfl, Bool.true_and]
      simp [WTm.holds, WTm.value, e3]
end Mine

end
section
open PySem PySem.W PySem.Calls PyProof.Rows
set_option Elab.async false
set_option maxRecDepth 100000
namespace Mine

/-! the first place of a sign -/
/-! equality of plain data -/
theorem flat_str (a : List Nat) : flatD (.str a) = true := by simp [flatD, pureD, toPy, PyData.depth]
theorem deq_str (a b : List Nat) : deq (.str a) (.str b) = decide (a = b) := by
  simp only [deq, toPy, PyData.eqv]
  rw [Bool.eq_iff_iff]; simp
theorem eq_str (a b : List Nat) : opEq (.str a) (.str b) = some (decide (a = b)) := by simp [opEq, flat_str, deq_str]
/-! cuts at plain places -/
theorem clip_nat (n k : Nat) : clipAt n (k : Int) = min k n := by unfold clipAt; split <;> omega
theorem cut_both {α : Type} (l : List α) (i j : Nat) (h : i ≤ l.length) : cut l (some (i : Int)) (some (j : Int)) = (l.drop i).take (j - i) := by
  unfold cut
  simp only [Option.elim, clip_nat]
  rw [Nat.min_eq_left h]
  rcases Nat.le_total j l.length with h' | h'
  · rw [Nat.min_eq_left h']
  · rw [Nat.min_eq_right h', List.take_of_length_le (by rw [List.length_drop]; omega), List.take_of_length_le (by rw [List.length_drop]; omega)]

theorem seqIndex_nat (k n : Nat) (h : k < n) : seqIndex? (k : Int) n = some k := by
  have h0 : ¬ (k : Int) < 0 := by omega
  simp only [seqIndex?, if_neg h0]
  rw [if_pos (by first | omega | (simp; omega))]; simp
theorem item_str (l : List Nat) (k : Nat) (h : k < l.length) : opItem (.str l) (.int (k : Int)) = some (.str [l[k]]) := by
  simp [opItem, seqIndex_nat k _ h, h]
/-! what the pattern finds -/
theorem seqS_next {f g : Rho → Option (Out × Rho)} {ρ ρ' : Rho} (h : f ρ = some (.next, ρ')) : seqS f g ρ = g ρ' := by rw [seqS, h]; rfl
theorem seqS_ret {f g : Rho → Option (Out × Rho)} {ρ ρ' : Rho} {d : D} (h : f ρ = some (.ret d, ρ')) : seqS f g ρ = some (.ret d, ρ') := by rw [seqS, h]; rfl
theorem loopS_next {g : D → Rho → Option Rho} {b : Rho → Option (Out × Rho)} {d : D} {ds : List D} {ρ ρ1 ρ2 : Rho} (h1 : g d ρ = some ρ1) (h2 : b ρ1 = some (.next, ρ2)) : loopS g b (d :: ds) ρ = loopS g b ds ρ2 := by rw [loopS, h1, Option.bind_some, h2]; rfl

/-! comprehensions by one name -/
theorem loopC_name {i : Nat} {t : Rho → Option Bool} {f : Rho → Option D} {F : D → D} {T : D → Bool} {ρ0 : Rho} : ∀ {ds : List D} {ρ : Rho}, (∀ x, ρ.set i x = ρ0.set i x) → (∀ d ∈ ds, t (ρ0.set i (.val d)) = some (T d)) → (∀ d ∈ ds, T d = true → f (ρ0.set i (.val d)) = some (F d)) →
    ∃ ρ', loopC (nameA i) t (emE f) ds ρ = some ((ds.filter T).map F, ρ')
  | [], ρ, _, _, _ => ⟨ρ, rfl⟩
  | d :: ds, ρ, h0, h1, h2 => by
    obtain ⟨ρ', ih⟩ := loopC_name (i := i) (t := t) (f := f) (F := F) (T := T) (ρ0 := ρ0) (ds := ds) (ρ := ρ0.set i (.val d)) (fun x => by rw [List.set_set]) (fun d hd => h1 d (List.mem_cons_of_mem _ hd)) (fun d hd => h2 d (List.mem_cons_of_mem _ hd))
    refine ⟨ρ', ?_⟩
    rw [loopC, nameA, Option.bind_some, h0, h1 d (List.mem_cons_self ..), Option.bind_some]
    cases hT : T d with
    | false => rw [if_neg (by simp), ih, List.filter_cons_of_neg (by simp [hT])]
    | true =>
      rw [if_pos rfl, emE, h2 d (List.mem_cons_self ..) hT, List.filter_cons_of_pos hT]
      simp [ih]
end Mine

end
section
open PySem PySem.W PySem.Calls PyProof.Rows
set_option Elab.async false
set_option maxRecDepth 100000
set_option linter.unusedSimpArgs false
namespace Mine

/-! the pieces of a text, as texts with their group -/
noncomputable def parse : Nat → List Nat → List (List Nat × Nat)
  | 0, _ => []
  | _ + 1, [] => []
  | f + 1, c :: r => if c ≠ 91 then (c :: r.takeWhile (· != 91), 1) :: parse f (r.dropWhile (· != 91))
    else match closeAt r with
      | some k => (91 :: r.take (k + 1), 2) :: parse f (r.drop (k + 1))
      | none => if 93 ∈ r then parse f r else [(91 :: r, 3)]
noncomputable def toks (l : List Nat) : List (List Nat × Nat) := parse (l.length + 1) l

theorem tw_len {p : Nat → Bool} : ∀ t : List Nat, (t.takeWhile p).length + (t.dropWhile p).length = t.length
  | [] => rfl
  | x :: t => by
    have := tw_len (p := p) t
    by_cases h : p x = true
    · simp [h]; omega
    · simp [h]
theorem take_tw {p : Nat → Bool} : ∀ t : List Nat, t.take (t.takeWhile p).length = t.takeWhile p
  | [] => rfl
  | x :: t => by
    by_cases h : p x = true
    · simp [h, take_tw t]
    · simp [h]
theorem drop_tw {p : Nat → Bool} : ∀ t : List Nat, t.drop (t.takeWhile p).length = t.dropWhile p
  | [] => rfl
  | x :: t => by
    by_cases h : p x = true
    · simp [h, drop_tw t]
    · simp [h]
theorem closeAt_lt : ∀ (t : List Nat) (k : Nat), closeAt t = some k → k < t.length
  | [], k, h => by simp [closeAt] at h
  | c :: r, k, h => by
    unfold closeAt at h
    split at h
    · simp at h; subst h; simp
    · split at h
      · cases h
      · rw [Option.map_eq_some_iff] at h
        obtain ⟨j, hj, rfl⟩ := h
        have := closeAt_lt r j hj
        simp; omega

noncomputable abbrev rdT (l : List Nat) (x : Nat × Nat × Nat) : List Nat × Nat := ((l.drop x.1).take (x.2.1 - x.1), x.2.2)
theorem all_parse {l : List Nat} : ∀ (f' : Nat) (r : List Nat) (s f : Nat), l.drop s = r → r.length < f → r.length < f' → (allFrom f l s).map (rdT l) = parse f' r
  | 0, r, s, f, _, _, h => absurd h (Nat.not_lt_zero _)
  | f' + 1, [], s, f, hd, hf, _ => by
    cases f with
    | zero => rfl
    | succ f => rw [allFrom, hd]; rfl
  | f' + 1, c :: r, s, f, hd, hf, hf' => by
    cases f with
    | zero => exact absurd hf (Nat.not_lt_zero _)
    | succ f =>
      simp only [List.length_cons] at hf hf'
      have hd1 : l.drop (s + 1) = r := by rw [← List.drop_drop, hd]; rfl
      rw [allFrom, hd, parse, findM]
      by_cases hc : c = 91
      · subst hc
        simp only [ne_eq, not_true_eq_false, if_false]
        cases hk : closeAt r with
        | some k =>
          have hkl := closeAt_lt r k hk
          have hd2 : l.drop (s + k + 2) = r.drop (k + 1) := by rw [show s + k + 2 = (s + 1) + (k + 1) by omega, ← List.drop_drop, hd1]
          dsimp only
          rw [List.map_cons, all_parse f' (r.drop (k + 1)) (s + k + 2) f hd2 (by rw [List.length_drop]; omega) (by rw [List.length_drop]; omega)]
          simp only [rdT, hd]
          rw [show s + k + 2 - s = (k + 1) + 1 by omega, List.take_succ_cons]
        | none =>
          dsimp only
          by_cases hm : 93 ∈ r
          · rw [if_pos hm, if_pos hm, ← all_parse f' r (s + 1) (f + 1) hd1 (by omega) (by omega), allFrom, hd1]
          · rw [if_neg hm, if_neg hm]
            have : allFrom f l (s + 1 + r.length) = [] := by
              cases f with
              | zero => rfl
              | succ f => rw [allFrom, ← List.drop_drop, hd1, List.drop_length]; rfl
            dsimp only
            rw [List.map_cons, this]
            simp only [rdT, hd, List.map_nil]
            rw [show s + 1 + r.length - s = (91 :: r).length by simp; omega, List.take_length]
      · rw [if_pos hc, if_pos hc]
        have hd2 : l.drop (s + 1 + (r.takeWhile (· != 91)).length) = r.dropWhile (· != 91) := by rw [← List.drop_drop, hd1, drop_tw]
        have hl := tw_len (p := (· != 91)) r
        dsimp only
        rw [List.map_cons, all_parse f' _ _ f hd2 (by omega) (by omega)]
        simp only [rdT, hd]
        rw [show s + 1 + (r.takeWhile (· != 91)).length - s = (r.takeWhile (· != 91)).length + 1 by omega, List.take_succ_cons, take_tw]
/-! the matches, read -/
inductive ReadAs (l : List Nat) : List D → List (List Nat × Nat) → Prop
  | nil : ReadAs l [] []
  | cons {b e g : Nat} {p : List Nat} {ms : List D} {ps : List (List Nat × Nat)} (h : (l.drop b).take (e - b) = p) (r : ReadAs l ms ps) : ReadAs l (.mat l b e g :: ms) ((p, g) :: ps)
theorem readAs_map (l : List Nat) : ∀ xs : List (Nat × Nat × Nat), ReadAs l (xs.map fun x => .mat l x.1 x.2.1 x.2.2) (xs.map (rdT l))
  | [] => .nil
  | x :: xs => .cons rfl (readAs_map l xs)
theorem readAs_mats (l : List Nat) : ReadAs l (matsOf l) (toks l) := by
  have h := readAs_map l (allM l)
  rw [allM, all_parse (l.length + 1) l 0 (l.length + 1) rfl (Nat.lt_succ_self _) (Nat.lt_succ_self _)] at h
  exact h
theorem group_whole {l p : List Nat} {b e g : Nat} (h : (l.drop b).take (e - b) = p) : groupF [.mat l b e g, .int 0] = some (.str p) := by
  simp [groupF, groupD, h]
theorem group_set {l p : List Nat} {b e g : Nat} (h : (l.drop b).take (e - b) = p) : groupF [.mat l b e g, .str [115, 101, 116]] = some (if g = 2 then .str p else .none) := by
  simp [groupF, groupD, setName, h, eq_comm]
end Mine

end
section
open PySem PySem.W PySem.Calls PyProof.Rows
set_option Elab.async false
set_option maxRecDepth 100000
set_option linter.unusedSimpArgs false
namespace Mine

/-! equality of a datum with itself -/
mutual
theorem deq_self : ∀ d : D, pureD d = true → PyData.eqv (toPy d) (toPy d) = true
  | .none, _ => by simp [toPy, PyData.eqv]
  | .bool _, _ => by simp [toPy, PyData.eqv]
  | .int _, _ => by simp [toPy, PyData.eqv]
  | .str _, _ => by simp [toPy, PyData.eqv]
  | .list ds, h => by rw [toPy, PyData.eqv]; exact deqs_self ds (by rw [pureD] at h; exact h)
  | .tup ds, h => by rw [toPy, PyData.eqv]; exact deqs_self ds (by rw [pureD] at h; exact h)
  | .mat .., h => by rw [pureD] at h; cases h
  | .inst _, h => by rw [pureD] at h; cases h
theorem deqs_self : ∀ ds : List D, pureDs ds = true → PyData.eqvAll (toPys ds) (toPys ds) = true
  | [], _ => by simp [toPys, PyData.eqvAll]
  | d :: ds, h => by
    rw [pureDs, Bool.and_eq_true] at h
    rw [toPys, PyData.eqvAll, deq_self d h.1, deqs_self ds h.2]; rfl
end
theorem eq_self {d : D} (h : flatD d = true) : opEq d d = some true := by
  have hp : pureD d = true := (Bool.and_eq_true _ _ ▸ h : pureD d = true ∧ _).1
  unfold opEq deq
  rw [h, deq_self d hp]; rfl
theorem ne_self {d : D} (h : flatD d = true) : opNe d d = some false := by rw [opNe, eq_self h]; rfl
/-! comprehensions, whole -/
theorem comp1 {x : Str} {it : Rho → Option (List D)} {i : Nat} {t : Rho → Option Bool} {f : Rho → Option D} {ρ ρ0 : Rho} {ds : List D} (F : D → D) (T : D → Bool) (h0 : rhoC [x] ρ = ρ0) (hit : it ρ = some ds)
    (ht : ∀ d ∈ ds, t (ρ0.set i (.val d)) = some (T d)) (hf : ∀ d ∈ ds, T d = true → f (ρ0.set i (.val d)) = some (F d)) (hz : ds.length ≤ 10000000) : compF [x] it (nameA i) t (emE f) ρ = some ((ds.filter T).map F) := by
  obtain ⟨ρ', hc⟩ := loopC_name (i := i) (t := t) (f := f) (F := F) (T := T) (ds := ds) (ρ0 := ρ0) (ρ := ρ0) (fun _ => rfl) ht hf
  have hsz : sizeLine = 16777216 := rfl
  have := List.length_filter_le T ds
  rw [compF, hit, Option.bind_some, h0, hc, Option.bind_some, if_pos (by simp; omega)]
theorem strsOf_strs : ∀ ls : List (List Nat), strsOf (ls.map D.str) = some ls
  | [] => rfl
  | l :: ls => by simp [strsOf, strsOf_strs ls]
theorem join_strs {ls : List (List Nat)} (h : ls.flatten.length ≤ 10000000) : joinF [.str [], .list (ls.map D.str)] = some (.str ls.flatten) := by
  have hsz : sizeLine = 16777216 := rfl
  simp only [joinF, strsOf_strs, Option.bind_some]
  rw [if_pos (by omega)]
theorem flat_ones : ∀ l : List Nat, (l.map fun c => [c]).flatten = l
  | [] => rfl
  | c :: l => by simp [flat_ones l]
theorem add_strs {a b : List Nat} (h : a.length + b.length ≤ 10000000) : opAdd (.str a) (.str b) = some (.str (a ++ b)) := by
  have hsz : sizeLine = 16777216 := rfl
  rw [opAdd, if_pos (by omega)]
/-! the forms, step by step -/
section
variable {ρ ρ' ρ'' : Rho} {a b c d r : D}
theorem setS_of {g : D → Rho → Option Rho} {f : Rho → Option D} (h : f ρ = some d) (hg : g d ρ = some ρ') : setS g f ρ = some (.next, ρ') := by rw [setS, h, Option.bind_some, hg]; rfl
theorem augS_of {i : Nat} {F : D → D → Option D} {g : Rho → Option D} (h1 : vE i ρ = some a) (h2 : g ρ = some b) (h3 : F a b = some c) (h4 : ρ.set i (.val c) = ρ') : augS i F g ρ = some (.next, ρ') := by rw [augS, h1, Option.bind_some, h2, Option.bind_some, h3, ← h4]; rfl
theorem ifS_f {t : Rho → Option Bool} {f g : Rho → Option (Out × Rho)} (h : t ρ = some false) : ifS t f g ρ = g ρ := by rw [ifS, h]; rfl
theorem ifS_t {t : Rho → Option Bool} {f g : Rho → Option (Out × Rho)} (h : t ρ = some true) : ifS t f g ρ = f ρ := by rw [ifS, h]; rfl
theorem forS_of {f : Rho → Option (List D)} {g : D → Rho → Option Rho} {bd : Rho → Option (Out × Rho)} {ds : List D} (h : f ρ = some ds) : forS f g bd ρ = loopS g bd ds ρ := by rw [forS, h]; rfl
theorem call1_of {F : List D → Option D} {f : Rho → Option D} (h : f ρ = some d) (hF : F [d] = some r) : callE F (consF f nilF) ρ = some r := by simp [callE, consF, nilF, h, hF]
theorem call2_of {F : List D → Option D} {f g : Rho → Option D} (h : f ρ = some d) (h' : g ρ = some c) (hF : F [d, c] = some r) : callE F (consF f (consF g nilF)) ρ = some r := by simp [callE, consF, nilF, h, h', hF]
theorem cmpB_of {F : D → D → Option Bool} {f g : Rho → Option D} {x : Bool} (h1 : f ρ = some a) (h2 : g ρ = some b) (h3 : F a b = some x) : cmpB F f g ρ = some x := by rw [cmpB, h1, Option.bind_some, h2, Option.bind_some, h3]
theorem binE_of {F : D → D → Option D} {f g : Rho → Option D} (h1 : f ρ = some a) (h2 : g ρ = some b) (h3 : F a b = some r) : binE F f g ρ = some r := by rw [binE, h1, Option.bind_some, h2, Option.bind_some, h3]
theorem andB_of {f g : Rho → Option Bool} {x y : Bool} (h1 : f ρ = some x) (h2 : g ρ = some y) : andB f g ρ = some (x && y) := by rw [andB, h1, Option.bind_some]; cases x <;> simp [h2]
theorem retS_of {f : Rho → Option D} (h : f ρ = some d) : retS f ρ = some (.ret d, ρ) := by rw [retS, h]; rfl
theorem runF_of {n m : Nat} {g : Rho → Option (Out × Rho)} {ds : List D} (h : ds.length = n) (hg : g (ds.map .val ++ List.replicate m .unb) = some (.ret r, ρ')) : runF n m g ds = some r := by rw [runF, if_pos h, hg]; rfl
end

/-- the block gives back r -/
noncomputable def Ret (g : Rho → Option (Out × Rho)) (ρ : Rho) (r : D) : Prop := ∃ ρ', g ρ = some (.ret r, ρ')
theorem Ret.next {f g : Rho → Option (Out × Rho)} {ρ ρ1 : Rho} {r : D} (h : f ρ = some (.next, ρ1)) (h2 : Ret g ρ1 r) : Ret (seqS f g) ρ r := let ⟨ρ', e⟩ := h2; ⟨ρ', (seqS_next h).trans e⟩
theorem Ret.stop {f g : Rho → Option (Out × Rho)} {ρ : Rho} {r : D} (h : Ret f ρ r) : Ret (seqS f g) ρ r := let ⟨ρ', e⟩ := h; ⟨ρ', seqS_ret e⟩
theorem Ret.of {f : Rho → Option D} {ρ : Rho} {r : D} (h : f ρ = some r) : Ret (retS f) ρ r := ⟨ρ, retS_of h⟩
theorem Ret.frz {i : Nat} {g : Rho → Option (Out × Rho)} {ρ ρ1 : Rho} {r : D} {xs : List D} (h1 : ρ[i]? = some (.own xs)) (h2 : ρ.set i (.val (.list xs)) = ρ1) (h : Ret g ρ1 r) : Ret (frzS i g) ρ r := let ⟨ρ', e⟩ := h; ⟨ρ', by rw [frzS, h1]; dsimp only; rw [h2]; exact e⟩
theorem Ret.t {t : Rho → Option Bool} {f g : Rho → Option (Out × Rho)} {ρ : Rho} {r : D} (h : t ρ = some true) (h2 : Ret f ρ r) : Ret (ifS t f g) ρ r := let ⟨ρ', e⟩ := h2; ⟨ρ', (ifS_t h).trans e⟩
theorem runF_ret {n m : Nat} {g : Rho → Option (Out × Rho)} {ds : List D} {r : D} (h : ds.length = n) (hg : Ret g (ds.map .val ++ List.replicate m .unb) r) : runF n m g ds = some r := let ⟨_, e⟩ := hg; runF_of h e
end Mine

end
section
open PySem PySem.W PySem.Calls PyProof.Rows
set_option Elab.async false
set_option maxRecDepth 100000
namespace Mine

/-! range(n) -/
end Mine

end
section
open PySem PySem.W PySem.Calls PyProof.Rows
set_option Elab.async false
set_option maxRecDepth 100000
namespace Mine

/-! a look at an own list -/
noncomputable def peekE {α : Type} (i : Nat) (f : Rho → Option α) : Rho → Option α := fun ρ => match ρ[i]? with | some (.own xs) => f (ρ.set i (.val (.list xs))) | _ => none
section
variable {J : Jd}
theorem st_peek {e : PySem.Expr} {f : Rho → Option Bool} (i : Nat) (he : ST J e f) : ST J e (peekE i f) := fun A env P O vm s ρ b hA F h => by
  unfold peekE at h
  split at h
  · rename_i xs hi
    exact he A env P (off O i) vm s _ b hA (F.freeze hi) h
  · cases h

theorem load_own {x : Str} {p : Pos} {A : Around} {env : Env} {P : Avd} {O : Nat → Option Addr} {vm : Str → Option Value} {s : Shared} {ρ : Rho} {i : Nat} {xs : List D} {Q : Value → Shared → Prop} (F : FrV J.cx J.sc J.tab env P O vm s ρ) (ht : J.tab[i]? = some (some x)) (hr : ρ[i]? = some (.own xs))
    (hd : (x == ("__debug__" : Str) || x == ("__classdict__" : Str)) = false)
    (h : ∀ a vs n, O i = some a → s.heap.get? a = some { cls := .type "list", data := .seq vs n } → vs.size ≤ sizeLine → RdAll J.cx s.heap (Av env P O) xs vs.toList → Q (.ref a) s) : W J.cx.prog J.cx.w A (eval (.Name x p) env) Q s := by
  rw [Bool.or_eq_false_iff] at hd
  rw [eval_Name env x p hd.1]
  refine W.bind (W.standAt ?_)
  obtain ⟨a, vs, n, e1, e2, e3, e4, r⟩ := F.slots i x _ ht hr
  exact F.load ht e2 (h a vs n e1 e3 e4 r) hd.2

end

/-! own lists, changed -/
noncomputable def appS (i : Nat) (f : Rho → Option D) : Rho → Option (Out × Rho) := fun ρ => match ρ[i]? with | some (.own xs) => (f ρ).bind fun d => if xs.length < 10000000 then some (.next, ρ.set i (.own (xs ++ [d]))) else none | _ => none
section
variable {J : Jd}
theorem inter_false {env : Env} (h : env.scope.kind = .function) : interactive env = false := by unfold interactive; rw [h]; rfl
theorem s1_append {x : Str} {p apos cpos pos : Pos} {e : PySem.Expr} {f : Rho → Option D} (i : Nat) (he : SE J e f) (ht : J.tab[i]? = some (some x) := by rfl) (hd : (x == ("__debug__" : Str) || x == ("__classdict__" : Str)) = false := by rfl)
    (hst : isStarred e = false := by rfl) (hp : apos.endLine = cpos.line := by rfl) : S1 J (.Expr (.Call (.Attribute (.Name x p) "append" apos) [e] [] cpos) pos) (appS i f) := fun A env P O vm s ρ out ρ' hA F h => by
  unfold appS at h
  split at h
  · rename_i xs hr
    rw [Option.bind_eq_some_iff] at h
    obtain ⟨d, hd', h⟩ := h
    split at h
    · rename_i hz
      cases h
      have hk : env.scope.kind = .function := by rw [F.scope]; exact F.kind
      have hsz := szl
      have hst' : [e].any isStarred = false := by simp [hst]
      rw [exec_Expr env _ _ (inter_false hk) rfl]
      refine W.bind (W.standAt ?_)
      rw [method_split rfl hst' (by show 1 < 29; decide) hp]
      refine W.bind (W.bind (load_own F ht hr hd fun a vs n e1 ho hvz ra => W.bind (W.standAt (W.bind (W.holding (W.of_any (getMethod_list_append ho rfl rfl ?_)))))))
      have hb := backTo_plain cpos env (es := [e]) hst'
      have hes : SEs J [e] (consF f nilF) := ses_cons he ses_nil hst
      refine callWith_ok hb.1 (by rw [hb.2]; show 1 ≤ 30; decide) (W.mono (hes A env P O vm s ρ [d] cpos hA F (by simp [consF, nilF, hd'])) fun us s₁ ⟨X1, r1⟩ => ⟨.inr (fun a e => by cases e), ?_⟩)
      rw [RdAll] at r1
      obtain ⟨v, l', rfl, r1, r2⟩ := r1
      rw [RdAll] at r2
      subst r2
      have hl := ra.length
      rw [Array.length_toList] at hl
      have F1 := F.ext X1
      refine W.of_any (wpAny_list_append_plain (hsz := hvz) ⟨n, X1.keep _ _ ho⟩ fun h' hp' hs' => ?_)
      obtain ⟨n', ho'⟩ := hp'
      obtain ⟨F2, T2⟩ := F1.mutate (s' := { s₁ with heap := h' }) (ds := xs ++ [d]) ht hr e1 rfl rfl hs' ho' (by rw [Array.size_push]; omega) (by rw [Array.toList_push]; exact (ra.keep X1.keep).append (RdAll.cons r1 RdAll.nil))
      rw [dropValue_plain (by intro a e; cases e)]
      exact W.pure ⟨rfl, O, vm, F2, X1.tr.trans T2⟩
    · cases h
  · cases h
end
end Mine

end
section
open PySem PySem.W PySem.Calls PyProof.Rows
set_option Elab.async false
set_option maxRecDepth 100000
namespace Mine
open PySem.Builtin.Re
open Sem (wp)

/-! the parts of a text between a sign -/
theorem sub_at (l : List Nat) (a b : Nat) : Builtin.Str.strSub ⟨l.toArray⟩ a b = ⟨((l.drop a).take (b - a)).toArray⟩ := by
  apply Str.ext'
  apply Array.toList_inj.mp
  rw [StrLaws.strSub_toList]
/-! a new list from a call -/
/-! a match's places -/
end Mine

end
section
open PySem PySem.W PySem.Calls PyProof.Rows
set_option Elab.async false
set_option maxRecDepth 100000
namespace Mine

noncomputable def listL (f : Rho → Option (List D)) : Rho → Option (List D) := fun ρ => (f ρ).bind fun ds => if ds.length ≤ 1000 then some ds else none
section
variable {J : Jd}
theorem x_listF {es : List PySem.Expr} {pos : Pos} {f : Rho → Option (List D)} (hes : SEs J es f) : SEF J (.List es pos) (listL f) := sef_list hes
end
end Mine

end
section
open PySem PySem.W PySem.Calls PyProof.Rows
set_option Elab.async false
set_option maxRecDepth 100000
namespace Mine

/-! a text ahead of and behind a sign -/
/-! an own list's item, changed -/
section
variable {J : Jd}
end
end Mine

end
section
open PySem PySem.W PySem.Calls PyProof.Rows
set_option Elab.async false
set_option maxRecDepth 100000
namespace Mine

/-! enumerate(list) -/
end Mine

end
section
open PySem PySem.W PySem.Calls PyProof.Rows
set_option Elab.async false
set_option maxRecDepth 100000
namespace Mine

/-! a text, repeated -/
/-! a text, replaced -/
theorem sub_mem {x : Str} {a b c : Nat} (h : c ∈ (Builtin.Str.strSub x a b).cps.toList) : c ∈ x.cps.toList := by
  rw [StrLaws.strSub_toList] at h
  exact List.mem_of_mem_drop (List.mem_of_mem_take h)
theorem glued_mem {z : Str} {c : Nat} : ∀ (ps : List Str) (acc : Array Nat), c ∈ (ps.foldl (fun acc p => acc ++ z.cps ++ p.cps) acc).toList → c ∈ acc.toList ∨ c ∈ z.cps.toList ∨ ∃ p ∈ ps, c ∈ p.cps.toList
  | [], acc, h => .inl h
  | p :: ps, acc, h => by
    rw [List.foldl_cons] at h
    rcases glued_mem ps _ h with h | h | ⟨q, hq, h⟩
    · simp only [Array.toList_append, List.mem_append] at h
      rcases h with (h | h) | h
      · exact .inl h
      · exact .inr (.inl h)
      · exact .inr (.inr ⟨p, List.mem_cons_self .., h⟩)
    · exact .inr (.inl h)
    · exact .inr (.inr ⟨q, List.mem_cons_of_mem _ hq, h⟩)
noncomputable def replD (l y z : List Nat) : List Nat := (Txt.replace ⟨l.toArray⟩ ⟨y.toArray⟩ ⟨z.toArray⟩).cps.toList
theorem parts_mem {x : Str} {cuts : List Nat} {w c : Nat} {p : Str} (h : p ∈ Builtin.Str.partsBetween x cuts w) (hc : c ∈ p.cps.toList) : c ∈ x.cps.toList := by
  unfold Builtin.Str.partsBetween at h
  rw [List.mem_map] at h
  obtain ⟨⟨i, j⟩, _, rfl⟩ := h
  exact sub_mem hc
theorem replD_mem {l y z : List Nat} {c : Nat} (h : c ∈ replD l y z) : c ∈ l ∨ c ∈ z := by
  unfold replD Txt.replace at h
  split at h
  · exact .inl h
  · unfold Builtin.Str.glued at h
    rcases glued_mem _ _ h with h | h | ⟨p, hp, h⟩
    · cases hps : Builtin.Str.partsBetween ⟨l.toArray⟩ (Builtin.Str.occurrences ⟨l.toArray⟩ ⟨y.toArray⟩ 0 (⟨l.toArray⟩ : Str).length ((⟨l.toArray⟩ : Str).length + 1)) (⟨y.toArray⟩ : Str).length with
      | nil => rw [hps] at h; simp [Str.empty] at h
      | cons p ps =>
        rw [hps] at h
        exact .inl (parts_mem (p := p) (by rw [hps]; exact List.mem_cons_self ..) h)
    · exact .inr h
    · exact .inl (parts_mem (List.mem_of_mem_drop hp) h)
theorem str_eta (x : Str) : x = ⟨x.cps.toList.toArray⟩ := by cases x; rfl
noncomputable def replE (y z : List Nat) (f : Rho → Option D) : Rho → Option D := fun ρ => (f ρ).bind fun a => match a with
  | .str l => if l.length ≤ 100000 ∧ (replD l y z).length ≤ sizeLine then some (.str (replD l y z)) else none
  | _ => none
section
variable {J : Jd}
theorem se_repl {o : PySem.Expr} {apos pos p1 p2 : Pos} {x1 x2 : Str} {k1 k2 : Nat} {f : Rho → Option D} (y z : List Nat) (ho : SE J o f) (e1 : x1 = ⟨y.toArray⟩ := by rfl) (e2 : x2 = ⟨z.toArray⟩ := by rfl)
    (hz : (z.all (· < 0x110000) && decide (z.length ≤ 100) && !decide (y = z) && decide (y.length ≤ 100)) = true := by rfl) (hs : notSuperCall o = true := by rfl) (hp : apos.endLine = pos.line := by rfl) :
    SE J (.Call (.Attribute o "replace" apos) [.Constant (.str x1) k1 p1, .Constant (.str x2) k2 p2] [] pos) (replE y z f) := fun A env P O vm s ρ d hA Fr h => by
  subst e1 e2
  simp only [Bool.and_eq_true, decide_eq_true_eq, Bool.not_eq_true', decide_eq_false_iff_not] at hz
  obtain ⟨⟨⟨hz1, hz2⟩, hz3⟩, hz4⟩ := hz
  unfold replE at h
  rw [Option.bind_eq_some_iff] at h
  obtain ⟨a, ha, h⟩ := h
  split at h
  · rename_i l
    split at h
    · rename_i hl
      cases h
      have hsz := szl
      rw [method_split hs rfl (by show 2 < 29; decide) hp]
      refine W.bind (W.mono (ho A env P O vm s ρ _ hA Fr ha) fun v s₁ ⟨X1, r1⟩ => W.bind (W.standAt (W.bind (W.holding ?_))))
      rw [Rd] at r1
      obtain ⟨t, rfl, hc1, hl1⟩ := r1
      refine W.of_any (GM.replace ?_)
      refine callWith_ok rfl (by show 2 ≤ 30; decide) ?_
      show W _ _ A (do
        let v ← eval (.Constant (.str ⟨y.toArray⟩) k1 p1) env
        let rest ← holding [v] (do
          let v2 ← eval (.Constant (.str ⟨z.toArray⟩) k2 p2) env
          let rest ← holding [v2] (pure [])
          pure (v2 :: rest))
        pure (v :: rest)) _ s₁
      refine W.tok fun ht => W.bind (W.of_any (wpAny_mkText (W.bind (W.holding (W.bind (W.of_any (wpAny_mkText (W.bind (W.holding (W.pure (W.pure (W.pure ⟨.inr (fun a e => by cases e), ?_⟩)))))))))) ))
      refine W.of_any (SC.replace (x := ⟨l.toArray⟩) (by show s₁.toks ≠ 0; omega) (by show s₁.toks + 1 ≠ 0; omega) (by show s₁.toks ≠ s₁.toks + 1; omega) ?_ ?_ fun t' k => ⟨X1.trans ((Ext.toks _).trans (Ext.toks _)), ?_⟩)
      · rw [beq_eq_false_iff_ne]
        intro e
        apply hz3
        have := congrArg (fun s : Str => s.cps.toList) e
        simpa using this
      · rw [str_len, str_len]
        have : (l.length + 1) * z.length ≤ (100000 + 1) * 100 := Nat.mul_le_mul (by omega) hz2
        omega
      · rw [str_eta (Txt.replace _ _ _)]
        exact rd_str (l := replD l y z) (fun c hc => (replD_mem hc).elim (hc1 c) fun hc => of_decide_eq_true (List.all_eq_true.mp hz1 c hc)) hl.2
    · cases h
  · cases h
end

/-! every second sign -/
end Mine

end
section
open PySem PySem.W PySem.Calls PyProof.Rows
set_option Elab.async false
set_option maxRecDepth 100000
namespace Mine
open Sem (wp)
open AutoSeq1 (wpAny_loadPart')

/-! reversed(text) -/
section
variable {prog : Program} {w : World} {A : Around} {E : Value → Shared → Prop} {s : Shared}
end
end Mine

end
section
open PySem PySem.W PySem.Calls PyProof.Rows
set_option Elab.async false
set_option maxRecDepth 100000
namespace Mine
open Sem (wp)

/-! for .. in reversed(text) -/
end Mine

end
section
open PySem PySem.W PySem.Calls PyProof.Rows
set_option Elab.async false
set_option maxRecDepth 100000
namespace Mine
open Sem (wp)

/-! a text's iterator, asked by zip -/
section
variable {prog : Program} {w : World} {A : Around} {E : Value → Shared → Prop} {s : Shared}
end
end Mine

end
section
open PySem PySem.W PySem.Calls PyProof.Rows
set_option Elab.async false
set_option maxRecDepth 100000
namespace Mine
open Sem (wp)

/-! for .. in zip(text, list) -/
end Mine

end
section
open PySem PySem.W PySem.Calls PyProof.Rows
set_option Elab.async false
set_option maxRecDepth 100000
namespace Mine

/-! own += list -/
end Mine

end
section
open PySem PySem.W PySem.Calls PyProof.Rows
set_option Elab.async false
set_option maxRecDepth 100000
namespace Mine
open Sem (wp)

/-! set(text) where the text is slashes -/
noncomputable abbrev slash : Str := ⟨#[47]⟩
noncomputable def someS (i : Nat) : Str → Bool := fun k => decide (0 < i) && decide (k = slash)
section
variable {prog : Program} {w : World} {A : Around} {R : Result → Shared → Prop} {I : Addr} {n : Nat} {P : Nat → Value → Prop} {St : Nat → Heap → Prop}
theorem set_loop (W : Walks prog w A.in1 I [I] [I] n P St) (S : Addr) (hSI : S ≠ I) (hP : ∀ i v, P i v → ∃ t, v = .str slash t) :
    ∀ (k i : Nat) (s : Shared), n - i = k → i ≤ n → St i s.heap → s.heap.SetOf (strKind prog w) S (someS i) (if i = 0 then 0 else 1) →
      (∀ h' tk, (∀ b o, b ≠ S → b ≠ I → s.heap.get? b = some o → h'.get? b = some o) → h'.SetOf (strKind prog w) S (someS n) (if n = 0 then 0 else 1) → R (.ok (.ret .none)) { s with heap := h', toks := tk }) →
      codeAny (model prog w) A (.builtin "set.update.loop" ⟨[.ref S, .ref I], []⟩) R s := by
  intro k
  induction k with
  | zero =>
    intro i s hk hi hst hS hR
    have hin : i = n := by omega
    subst hin
    refine codeAny_builtin F.entry_set_update_loop ?_
    rw [Around.under_plainId F.plain_set_update_loop _]
    show wpAny _ A.in1 (pyNext (.ref I) >>= _) _ _ s
    refine wpAny_bind (W.done s _ _ hst fun h' tk hm => ?_)
    show wpAny _ A.in1 (ret Value.none) _ _ _
    refine wpAny_pure (hR h' tk (fun b o _ hb e => hm b o (by simpa using hb) e) ?_)
    obtain ⟨o, es, ep, t, ho, rest⟩ := hS
    exact ⟨o, es, ep, t, hm S _ (by simpa using hSI) ho, rest⟩
  | succ k ih =>
    intro i s hk hi hst hS hR
    have hlt : i < n := by omega
    refine codeAny_builtin F.entry_set_update_loop ?_
    rw [Around.under_plainId F.plain_set_update_loop _]
    show wpAny _ A.in1 (pyNext (.ref I) >>= _) _ _ s
    refine wpAny_bind (W.item i s _ _ hlt hst fun v h₁ tk hPv hst' hm => ?_)
    obtain ⟨t, rfl⟩ := hP i v hPv
    have hS' : h₁.SetOf (strKind prog w) S (someS i) (if i = 0 then 0 else 1) := by
      obtain ⟨o, es, ep, tb, ho, rest⟩ := hS
      exact ⟨o, es, ep, tb, hm S _ (by simpa using hSI) ho, rest⟩
    show wpAny _ A.in1 (holding [Value.str slash t] (setAdd S (.str slash t)) >>= _) _ _ _
    refine wpAny_bind (wpAny_holding ?_)
    unfold setAdd
    refine wpAny_holding ?_
    refine wpAny_bind ((strKind prog w).pyHash (k := slash) (strKind_is _ _ _ _) ?_)
    refine wpAny_setAddHashed_of (knd := strKind prog w) (s := { s with heap := h₁, toks := tk + 1 }) (strKind_is _ _ _ _) rfl hS' (by unfold scanBound; split <;> omega) fun h' hsb hS2 => ?_
    have hSi : h'.SetOf (strKind prog w) S (someS (i + 1)) (if i + 1 = 0 then 0 else 1) := by
      refine SetOf_congr hS2 (fun k' => ?_) ?_
      · unfold someS
        by_cases h0 : 0 < i <;> simp [h0]
      · unfold someS
        rw [if_neg (Nat.succ_ne_zero i)]
        by_cases h0 : i = 0
        · subst h0; simp
        · have : 0 < i := by omega
          simp [this, h0]
    refine wpAny_pure ⟨plainId_quiet F.plain_set_update_loop _, ih (i + 1) _ (by omega) hlt (W.frame _ h₁ _ hst' fun b hb o e => ?_) hSi fun h'' tk'' hm'' hS'' => ?_⟩
    · rw [hsb.2 b (fun h : b = S => hSI (h ▸ (by simpa using hb)))]; exact e
    · refine hR h'' tk'' (fun b o h1 h2 e => hm'' b o h1 h2 ?_) hS''
      show h'.get? b = some o
      rw [hsb.2 b h1]
      exact hm b o (by simpa using h2) e
end
theorem sub_str_set : isSubtype (.type "str") (.type "set") = pure false := by rw [isSubtype_type]; kernel_rfl
theorem sub_str_fs : isSubtype (.type "str") (.type "frozenset") = pure false := by rw [isSubtype_type]; kernel_rfl
section
variable {prog : Program} {w : World} {A : Around} {E : Value → Shared → Prop} {s : Shared}
set_option maxHeartbeats 3200000 in
theorem call_set {x : Str} {tk0 : Tok} {Q : Value → Shared → Prop} (hh : A.handled = none) (hx : ∀ (i c : Nat), x.cps[i]? = some c → c = 47) (hn : x.cps.size ≠ 0)
    (h : ∀ (h' : Heap) (tk : Nat), h'.SetOf (strKind prog w) s.heap.objs.size (someS 1) 1 → (∀ b o, s.heap.get? b = some o → h'.get? b = some o) → Q (.ref s.heap.objs.size) { s with heap := h', toks := tk }) :
    wpAny (model prog w) A (call (.type "set") [.str x tk0]) Q E s := by
  obtain ⟨c, tl, hmro⟩ := F.called_set.mro
  have hmade := F.called_set.made
  have hsub := F.called_set.sub
  refine wpAny_call (codeAny_of_tree ?_)
  show wpAny _ _ (callAny (.type "set") _) _ _ _
  refine wpAny_pure ⟨Code.quiet_builtin _ (by decide +kernel), codeAny_builtin F.entry_type_call ?_⟩
  rw [Around.under_plain (weight_type_call_type "set" [.str x tk0] []) rfl]
  have h1 := F.called_set.notType
  have h2 := F.called_set.canCreate
  have hct := F.typeCall_set_1 (.str x tk0)
  repeat (any_goals (first | with_reducible assumption | wp_step | assumption))
  refine codeAny_mono (code_set_new_1 (.str x tk0) (E := E) (Q₁ := fun obj s₁ => ∃ led : Bool, obj = .ref s.heap.objs.size ∧ s₁ = { s with heap := s.heap.push { cls := .type "set", dict := none, data := .set #[] 0 (.fresh 0 0 led) } }) fun led => ⟨led, rfl, rfl⟩) fun r s₁ hr => ?_
  cases r with
  | error e => exact hr
  | ok fl =>
    cases fl with
    | ret obj =>
      obtain ⟨led, rfl, rfl⟩ := hr
      have hS : (s.heap.push { cls := .type "set", dict := none, data := .set #[] 0 (.fresh 0 0 led) }).get? s.heap.objs.size = some { cls := .type "set", dict := none, data := .set #[] 0 (.fresh 0 0 led) } := Heap.get?_push_size _ rfl
      have hT : Shared.TypeIs { s with heap := s.heap.push { cls := .type "set", dict := none, data := .set #[] 0 (.fresh 0 0 led) } } (.ref s.heap.objs.size) "set" := ⟨_, hS, rfl⟩
      have hli := F.called_set.init.lookup
      have hbi := F.called_set.init.bind (.ref s.heap.objs.size)
      repeat (any_goals (first | with_reducible assumption | wp_step | assumption))
      refine codeAny_mono (codeAny_call_builtin (R := wants (fun r s₂ => r = .none ∧ ∃ h' tk, s₂ = { s with heap := h', toks := tk } ∧
          h'.SetOf (strKind prog w) s.heap.objs.size (someS 1) 1 ∧ (∀ b o, s.heap.get? b = some o → h'.get? b = some o)) E) F.called_set.init.plain F.entry_set_init (check_set_init_1 hT ?_)) fun r₂ s₂ hr₂ => ?_
      · have hss := sub_str_set
        have hsf := sub_str_fs
        have hne : (Value.type "str" == Value.type "dict") = false := by decide
        unfold Builtin.«set.__init__» noKeywords Builtin.Frozenset.updateFrom
        generalize hPI : pyIter = PI
        wp_walk
        subst hPI
        refine wpAny_pyIter_str fun o St hW hst => ?_
        refine wpAny_bind (wpAny_runValue ?_)
        have hh3 : A.in1.in1.in1.handled = none := by simp [hh]
        refine set_loop (hW _ hh3) s.heap.objs.size (by rw [Heap.size_push]; exact Nat.ne_of_lt (Nat.lt_succ_self _)) (fun i v hv => ?_) (x.cps.size - 0) 0 _ (by omega) (Nat.zero_le _) hst ?hS0 ?hR
        · obtain ⟨c, u, hc, rfl⟩ := hv
          exact ⟨u, by rw [hx i c hc]⟩
        case hS0 =>
          have hget : ((s.heap.push { cls := .type "set", dict := none, data := .set #[] 0 (.fresh 0 0 led) }).push o).get? s.heap.objs.size
              = some { cls := .type "set", dict := none, data := .set #[] 0 (.fresh 0 0 led) } := Heap.get?_push_of_some _ hS
          exact SetOf_congr ((setObjOf_fresh (knd := strKind prog w) led).setOf hget (by unfold scanBound; omega)) (fun _ => rfl) rfl
        case hR =>
          intro h' tk hm hS'
          rw [if_neg hn] at hS'
          show wpAny _ _ _ _ _ _
          refine wpAny_pure ?_
          show wpAny _ _ (ret Value.none) _ _ _
          refine wpAny_pure ⟨rfl, h', tk, rfl, SetOf_congr hS' (fun k => ?_) rfl, fun b o' e => ?_⟩
          · unfold someS
            have : 0 < x.cps.size := by omega
            simp [this]
          · have hb := Heap.lt_size e
            exact hm b o' (Nat.ne_of_lt hb) (by rw [Heap.size_push]; exact Nat.ne_of_lt (Nat.lt_succ_of_lt hb)) (Heap.get?_push_of_some _ (Heap.get?_push_of_some _ e))
      · cases r₂ with
        | error e => exact hr₂
        | ok fl₂ =>
          cases fl₂ with
          | ret r =>
            obtain ⟨rfl, h', tk, rfl, hS', hk'⟩ := hr₂
            repeat (any_goals (first | with_reducible assumption | wp_step | assumption))
            exact h _ _ hS' hk'
          | _ => exact hr₂.elim
    | _ => exact hr.elim
end
end Mine

end
section
open PySem PySem.W PySem.Calls PyProof.Rows
set_option Elab.async false
set_option maxRecDepth 100000
namespace Mine
open Sem (wp)
theorem entry_set_le : entryFor table "set.__le__" = some Builtin.«frozenset.__le__» :=
  entryFor_alias (id' := "frozenset.__le__") (by kernel_rfl) (by first | rfl | decide +kernel | (unfold String.splitOn; simp +decide [String.splitOnAux])) (by decide +kernel) (by kernel_rfl)
theorem one_elem {prog : Program} {w : World} {es : Array (Int × Value)} (hn : es.size = 1) (he : ElemsOf (PySem.strKind prog w) es.toList) (hm : ∀ k : Str, someS 1 k = true ↔ ∃ e ∈ es.toList, (PySem.strKind prog w).is k e.2 = true) :
    ∃ t, es = #[((PySem.strKind prog w).hash slash, .str slash t)] := by
  obtain ⟨l⟩ := es
  match l, hn with
  | [(h0, x0)], _ =>
    obtain ⟨e, h1, h2⟩ := (hm slash).mp rfl
    have : e = (h0, x0) := by simpa using h1
    subst this
    obtain ⟨⟨k, hk, hh⟩, _⟩ := he (h0, x0) (by simp)
    have hks := (PySem.strKind prog w).inj x0 k slash hk h2
    subst hks
    have hs : ∃ t, x0 = .str slash t := by
      simp only [PySem.strKind] at h2
      cases x0 <;> simp [Value.isStrOf] at h2
      exact ⟨_, by rw [h2]⟩
    obtain ⟨t, rfl⟩ := hs
    exact ⟨t, by simp only at hh; rw [hh]⟩
theorem quiet_str (x : Str) (t : Tok) : Builtin.Frozenset.quietEq (.str x t) = pure true := rfl
theorem sub_set_set : isSubtype (.type "set") (.type "set") = pure true := by rw [isSubtype_type]; kernel_rfl
section
variable {prog : Program} {w : World} {A : Around} {E : Value → Shared → Prop} {s : Shared}
set_option maxHeartbeats 3200000 in
theorem set_le {a b : Addr} {Q : Value → Shared → Prop} (ha : s.heap.SetOf (strKind prog w) a (someS 1) 1) (hb : s.heap.SetOf (strKind prog w) b (someS 1) 1) (hu : A.units < cLine) (h : Q (.bool true) s) :
    wpAny (model prog w) A (richCompare .LtE (.ref a) (.ref b)) Q E s := by
  have ha' := ha
  have hb' := hb
  obtain ⟨oa, ea, pa, ta, hoa, ⟨hca, _, _⟩, hda, hela, hma, _, hfa, hna⟩ := ha
  obtain ⟨ob, eb, pb, tb, hob, ⟨hcb, _, _⟩, hdb, helb, hmb, _, hfb, hnb⟩ := hb
  have hTa : s.TypeIs (.ref a) "set" := ⟨_, hoa, hca⟩
  have hTb : s.TypeIs (.ref b) "set" := ⟨_, hob, hcb⟩
  refine wpAny_richCompare_same_room hTa hTb F.slot_set_le ?_ hu
  refine wpAny_call_entry F.slot_set_le hTa entry_set_le ?_ (F.args_set_le_2 _ _)
  obtain ⟨t0, hea⟩ := one_elem hna hela hma
  obtain ⟨t1, heb⟩ := one_elem hnb helb hmb
  have hsub := sub_set_set
  have hcond : ∀ {n : Nat} {t : SetTable}, t.fits n = true → ¬ ((t.place.size != n || decide (t.fill > t.mask)) = true) := fun hf => by
    simp only [SetTable.fits, Bool.and_eq_true, beq_iff_eq, decide_eq_true_eq] at hf
    simp [hf.1, Nat.not_lt.mpr hf.2]
  wp_walk
  rw [hda]
  dsimp only
  rw [if_neg (hcond hfa)]
  refine wpAny_pure (wpAny_pure (wpAny_pure (wpAny_bind ?_)))
  unfold Builtin.Frozenset.sizeOf
  refine wpAny_bind (wpAny_setEntries_of hob hdb hfb (wpAny_pure ?_))
  refine wpAny_bind ?_
  unfold Builtin.Frozenset.subsetOf Builtin.Frozenset.sizeOf
  refine wpAny_bind (wpAny_bind (wpAny_setEntries_of hoa hda hfa (wpAny_pure ?_)))
  refine wpAny_bind (wpAny_bind (wpAny_setEntries_of hob hdb hfb (wpAny_pure ?_)))
  rw [if_neg (by omega)]
  refine wpAny_bind (wpAny_setEpoch_of hoa hda hfa ?_)
  unfold Builtin.Frozenset.walkUnseen
  refine wpAny_bind (wpAny_bind (wpAny_setEntries_of hoa hda hfa (wpAny_bind (wpAny_setEntries_of hob hdb hfb ?_))))
  subst hea heb
  show wpAny _ _ (forIn ([_, _] : List (Int × Value)) _ _ >>= _) _ _ _
  simp only [List.forIn_cons, List.forIn_nil, quiet_str, pure_bind, Bool.not_true, Bool.false_eq_true, if_false]
  refine wpAny_pure ?_
  show wpAny _ _ (forIn ([_] : List (Int × Value)) _ _ >>= _) _ _ _
  simp only [List.forIn_cons, List.forIn_nil]
  refine wpAny_bind (wpAny_bind (wpAny_bind (wpAny_holding (wpAny_setFind_of (knd := PySem.strKind prog w) (strKind_is _ _ _ _) rfl hb' fun r hr => ?_))))
  rw [if_neg (by rw [Option.isNone_iff_eq_none]; intro e; rw [e] at hr; exact absurd hr (by decide))]
  unfold Builtin.Frozenset.unchanged
  refine wpAny_bind (wpAny_bind (wpAny_setEpoch_of hoa hda hfa ?_))
  rw [if_neg (by simp)]
  exact wpAny_pure (wpAny_pure (wpAny_pure (wpAny_pure (wpAny_pure ⟨_, rfl, ⟨(by intro e; cases e), h⟩⟩))))
end
end Mine

end
section
open PySem PySem.W PySem.Calls PyProof.Rows
set_option Elab.async false
set_option maxRecDepth 100000
namespace Mine
open Sem (wp)

/-! an object of the one class -/
noncomputable def sepsObj (P : Params) (tk : Tok) (v : Value) : Obj := { cls := .type "dict", data := .dict #[{ hash := PyData.keyHash P (Str.ofString "seps"), key := .str (Str.ofString "seps") tk, val := v }] 1 }
noncomputable def instRel (P : Params) (C : Addr) : Heap → Avd → List Nat → Value → Prop := fun h Av q v =>
  ∃ x dx tk t, v = .ref x ∧ h.get? x = some (instObj C dx) ∧ h.get? dx = some (sepsObj P tk (.str ⟨q.toArray⟩ t)) ∧ ¬ Av x ∧ ¬ Av dx ∧ (∀ c ∈ q, c = 47) ∧ q.length ≤ 1000
theorem instRel_mono {P : Params} {C : Addr} {h h' : Heap} {Av Av' : Avd} {q : List Nat} {v : Value} (hk : ∀ a o, ¬ Av a → h.get? a = some o → h'.get? a = some o) (ha : ∀ a, Av' a → Av a ∨ h.get? a = Option.none) : instRel P C h Av q v → instRel P C h' Av' q v := by
  rintro ⟨x, dx, tk, t, e, h1, h2, a1, a2, hq⟩
  exact ⟨x, dx, tk, t, e, hk _ _ a1 h1, hk _ _ a2 h2, not_av ha a1 h1, not_av ha a2 h2, hq⟩
theorem put_seps (P : Params) (tk : Tok) (v : Value) : Obj.putName (Str.ofString "seps") (PyData.keyHash P (Str.ofString "seps")) (.str (Str.ofString "seps") tk) v emptyDict = sepsObj P tk v := rfl

theorem glob_any {cx : Cx} {M : Model} {A : Around} {E : Value → Shared → Prop} {s : Shared} {env : Env} {x : Str} {v : Value} {Q : Value → Shared → Prop} (hb : ∀ a o, cx.h₁.get? a = some o → s.heap.get? a = some o)
    (hk : env.scope.kind = .function) (hkx : env.kindOf x = some .globalImplicit) (hg : env.globals = mainGlobals) (hbl : env.builtins = builtinsNs) (hv : (cx.mg x).or (cx.mb x) = some v) (hQ : Q v s) : wpAny M A (loadName env x) Q E s := by
  have hgn : s.heap.Ns mainGlobals cx.mg := cx.hg.keeps hb
  have hbn : s.heap.Ns builtinsNs cx.mb := cx.hb.keeps hb
  unfold loadName
  simp only [Env.blockKind, hk, hkx, ScopeKind.isAnnotationScope, Bool.false_and, Bool.false_eq_true, if_false]
  unfold loadGlobal
  rw [hg, hbl]
  refine wpAny_bind (wpAny_nsGet hgn ?_)
  cases hm : cx.mg x with
  | some v' =>
    rw [hm] at hv
    cases hv
    exact wpAny_pure hQ
  | none =>
    rw [hm] at hv
    refine wpAny_bind (wpAny_nsGet hbn ?_)
    have hv' : cx.mb x = some v := hv
    rw [hv']
    exact wpAny_pure hQ

theorem callWith_type1' {M : Model} {A : Around} {E : Value → Shared → Prop} {s : Shared} {pos : Pos} {Q : Value → Shared → Prop} {T : String} {t : Sem Value} (h : wpAny M A t (fun v s₁ => wpAny M A (call (.type T) [v]) Q E s₁) E s) : wpAny M A (callWith pos (.type T) [] [(false, t)] []) Q E s :=
  PyProof.Rows.callWith_type rfl (Calls.evalArgs_plain (Calls.spliced_cons (wpAny_mono h (fun _ _ h₁ => Calls.spliced_nil h₁) fun _ _ e => e)))
noncomputable abbrev initScope : Scope := { kind := .function, names := [(Str.ofString "self", .local), (Str.ofString "seps", .local), (Str.ofString "set", .globalImplicit), (Str.ofString "_default_seps", .globalImplicit)], isGenerator := false, isCoroutine := false }
noncomputable abbrev initBody (p1 p2 p3 p4 p5 p6 p7 p8 p9 p10 p11 p12 p13 p14 : Pos) (msg : Option PySem.Expr) : List Stmt :=
  [.Assert (.BoolOp .And [.Name (Str.ofString "seps") p1, .Compare (.Call (.Name (Str.ofString "set") p2) [.Name (Str.ofString "seps") p3] [] p4) [.LtE] [.Call (.Name (Str.ofString "set") p5) [.Name (Str.ofString "_default_seps") p6] [] p7] p8] p9) msg p10,
   .Assign [.Attribute (.Name (Str.ofString "self") p11) (Str.ofString "seps") p12] (.Name (Str.ofString "seps") p13) p14]

noncomputable def makeF : List D → Option D
  | [.str q] => if q ≠ [] ∧ (∀ c ∈ q, c = 47) ∧ q.length ≤ 1000 then some (.inst q) else none
  | _ => none

theorem con_class {cx : Cx} {K : Frag} {C fI : Addr} {o : Obj} {fd : FuncData} {dt : Tok} {p1 p2 p3 p4 p5 p6 p7 p8 p9 p10 p11 p12 p13 p14 : Pos} {msg : Option PySem.Expr}
    (hI : cx.inst = instRel cx.w.params C) (X : K.In cx.h₁) (hm : makesIn K C = true) (hi : findIn K (.ref C) "__init__" = some (some (.ref fI))) (hf : typeIn K (.ref fI) = some (.type "function"))
    (ho : cx.h₁.get? fI = some o) (hd : o.data = .func fd) (hcd : cx.h₁.CodeRec fd.code fd.qualname) (hbody : fd.body = .stmts (initBody p1 p2 p3 p4 p5 p6 p7 p8 p9 p10 p11 p12 p13 p14 msg)) (hsc : fd.scope = initScope)
    (hg : fd.globals = mainGlobals) (hbl : fd.builtins = builtinsNs) (hcl : fd.closure = [])
    (hbind : ∀ (s : Shared) (x y : Value), (∀ a o, cx.h₁.get? a = some o → s.heap.get? a = some o) → BindsTo s fd ⟨[x, y], []⟩ [(Str.ofString "self", x), (Str.ofString "seps", y)])
    (hset : (cx.mg (Str.ofString "set")).or (cx.mb (Str.ofString "set")) = some (.type "set")) (hdef : (cx.mg (Str.ofString "_default_seps")).or (cx.mb (Str.ofString "_default_seps")) = some (.str slash dt))
    (hs : findIn K (.ref C) "__setattr__" = some (some (.builtin "object.__setattr__"))) (hp : plainOver K C = true) (ht : takerIn K C (Str.ofString "seps") = some none) (hh : (clsIn K C).any (·.hasDict) = true) :
    Con cx 4 (.ref C) makeF := fun A V s ds vs r hA hV hb ra h => by
  unfold makeF at h
  split at h
  · split at h
    · rename_i q hq
      cases h
      rw [RdAll] at ra; obtain ⟨v, l, rfl, ra, rb⟩ := ra
      rw [RdAll] at rb; subst rb
      rw [Rd] at ra; obtain ⟨t, rfl, _, hz⟩ := ra
      obtain ⟨hne, hsl, hlen⟩ := hq
      refine W.call (_root_.Mine.C.of_any ?_)
      obtain ⟨h0, g, d, tk, os⟩ := s
      have XK : K.In h0 := X.keeps hb.2
      refine make_core (makes_of XK hm) (looks_findIn XK hi) (fun self => bind_fn XK self hf) (.inl rfl) ?_
      have hk1 : ∀ b o, h0.get? b = some o → ((h0.push emptyDict).push (instObj C h0.objs.size)).get? b = some o := fun b o e => Heap.get?_push_of_some _ (Heap.get?_push_of_some _ e)
      have hbk : ∀ a o, cx.h₁.get? a = some o → ((h0.push emptyDict).push (instObj C h0.objs.size)).get? a = some o := fun a o e => hk1 a o (hb.2 a o e)
      have hdep : (A.under (.builtin "type.__call__" ⟨.ref C :: [.str ⟨q.toArray⟩ t], []⟩)).depth = A.depth + 1 := depth_under_make _ _ _
      have hun : (A.under (.builtin "type.__call__" ⟨.ref C :: [.str ⟨q.toArray⟩ t], []⟩)).units = A.units + 1 := units_under_make _ _ _
      have hha : (A.under (.builtin "type.__call__" ⟨.ref C :: [.str ⟨q.toArray⟩ t], []⟩)).handled = none := hA.1
      generalize (A.under (.builtin "type.__call__" ⟨.ref C :: [.str ⟨q.toArray⟩ t], []⟩)) = B at *
      have hszh : ((h0.push emptyDict).push (instObj C h0.objs.size)).objs.size = h0.objs.size + 2 := by rw [Heap.size_push, Heap.size_push]
      refine codeAny_call_def (binds := [(Str.ofString "self", .ref (h0.objs.size + 1)), (Str.ofString "seps", .str ⟨q.toArray⟩ t)]) (by have := hA.2.1; omega) (hbk fI o ho) hd ((cx.lim.keeps hb.2).keeps hk1) (hcd.keeps hbk) hbody
        (hbind _ _ _ hbk) (by rw [hsc]; decide) (by rw [hsc]; intro x hx; simp only [List.mem_cons, List.not_mem_nil, or_false] at hx; rcases hx with rfl | rfl <;> rfl) ?_ (by rw [hsc]) (by rw [hsc]) (by rw [hsc])
      intro h1 hns hk2
      dsimp only at hns hk2 ⊢
      rw [hszh] at hns ⊢
      have F : Fr h0 (h0.objs.size + 2) h1 (fun x => ([(Str.ofString "self", .ref (h0.objs.size + 1)), (Str.ofString "seps", .str ⟨q.toArray⟩ t)] : List (Str × Value)).reverse.lookup x) := ⟨hns, fun b o e => hk2 b o (hk1 b o e), by omega⟩
      have hget1 : h0.get? h0.objs.size = none := get_none (Nat.le_refl _)
      have hget2 : h0.get? (h0.objs.size + 1) = none := get_none (Nat.le_succ _)
      have N : News h0 (h0.objs.size + 2) h1 ([(h0.objs.size + 1, instObj C h0.objs.size)] ++ (h0.objs.size, emptyDict) :: []) := by
        intro p hp
        simp only [List.cons_append, List.nil_append, List.mem_cons, List.not_mem_nil, or_false] at hp
        rcases hp with rfl | rfl
        · exact ⟨hk2 _ _ (by heap_get), by simp, hget2⟩
        · exact ⟨hk2 _ _ (by heap_get), by simp, hget1⟩
      generalize hL : h0.objs.size + 2 = L at *
      have henv : callEnv fd L fI = callEnv fd L fI := rfl
      generalize hE : callEnv fd L fI = env at *
      have hEk : env.scope.kind = .function := by rw [← hE]; show fd.scope.kind = _; rw [hsc]
      have hEn : ∀ x, env.kindOf x = initScope.names.lookup x := fun x => by rw [← hE]; show fd.scope.names.lookup x = _; rw [hsc]
      have hEg : env.globals = mainGlobals := by rw [← hE]; exact hg
      have hEb : env.builtins = builtinsNs := by rw [← hE]; exact hbl
      have hEl : env.locals = L := by rw [← hE]; rfl
      generalize hm' : (fun x => ([(Str.ofString "self", .ref (h0.objs.size + 1)), (Str.ofString "seps", .str ⟨q.toArray⟩ t)] : List (Str × Value)).reverse.lookup x) = m at *
      have hmself : m (Str.ofString "self") = some (.ref (h0.objs.size + 1)) := by rw [← hm']; rfl
      have hmseps : m (Str.ofString "seps") = some (.str ⟨q.toArray⟩ t) := by rw [← hm']; rfl
      have hloc : ∀ {A' : Around} {E' : Value → Shared → Prop} {s' : Shared} {x : Str} {p : Pos} {v : Value} {Q : Value → Shared → Prop}, Fr h0 L s'.heap m → m x = some v → env.kindOf x = some .local → (x == ("__debug__" : Str)) = false → Q v s' → wpAny (model cx.prog cx.w) A' (eval (.Name x p) env) Q E' s' :=
        fun F' hv hk' hdb hQ => wpAny_Name (wpAny_loadName_local hEk hk' (hEl ▸ F'.ns) hv hQ) hdb
      have hglo : ∀ {A' : Around} {E' : Value → Shared → Prop} {s' : Shared} {x : Str} {p : Pos} {v : Value} {Q : Value → Shared → Prop}, Fr h0 L s'.heap m → (cx.mg x).or (cx.mb x) = some v → env.kindOf x = some .globalImplicit → (x == ("__debug__" : Str)) = false → Q v s' → wpAny (model cx.prog cx.w) A' (eval (.Name x p) env) Q E' s' :=
        fun F' hv hk' hdb hQ => wpAny_Name (glob_any (fun a o e => F'.keep a o (hb.2 a o e)) hEk hk' hEg hEb hv hQ) hdb
      refine wpAny_mono (Q := fun f s' => ((match f with | .ret v => v | _ => Value.none) = .none) ∧ Ext ⟨h0, g, d, tk, os⟩ s' ∧ ∃ tk', s'.heap.get? (h0.objs.size + 1) = some (instObj C h0.objs.size) ∧ s'.heap.get? h0.objs.size = some (sepsObj cx.w.params tk' (.str ⟨q.toArray⟩ t))) (E := fun _ _ => False) ?_ ?_ (fun _ _ x => x.elim)
      · refine wpAny_execs_cons ?_
        refine wpAny_Assert_holds (isTrue_and (isTrue_plain (hloc F hmseps (by rw [hEn]; rfl) (by decide) ?_)))
        refine P.truthy_str (by simp only [Str.length, List.size_toArray]; omega) ?_
        rw [show ((({ cps := q.toArray } : Str).length : Int) != 0) = true from by simp [Str.length, hne]]
        refine isTrue_and (wpAny_isTrue_Compare1 ?_)
        -- set(seps)
        refine Call_Name1 (hglo F hset (by rw [hEn]; rfl) (by decide) (callWith_type1' (hloc F hmseps (by rw [hEn]; rfl) (by decide) ?_)))
        have hhd : (B.deeper env).handled = none := hha
        refine call_set hhd (fun i c hc => ?_) (by simp [hne]) fun h2 tk2 S2 k2 => ?_
        · rw [← Array.getElem?_toList] at hc
          exact hsl c (List.mem_of_getElem? hc)
        dsimp only at S2 k2 ⊢
        have F2 := F.keeps k2
        have N2 := N.grown k2
        -- set(_default_seps)
        refine Call_Name1 (hglo F2 hset (by rw [hEn]; rfl) (by decide) (callWith_type1' (hglo F2 hdef (by rw [hEn]; rfl) (by decide) ?_)))
        refine call_set hhd (fun i c hc => ?_) (by decide) fun h3 tk3 S3 k3 => ?_
        · match i, hc with
          | 0, hc => simpa using hc.symm
          | i + 1, hc => simp at hc
        dsimp only at S3 k3 ⊢
        have F3 := F2.keeps k3
        have N3 := N2.grown k3
        have S2' : h3.SetOf (PySem.strKind cx.prog cx.w) h1.objs.size (someS 1) 1 := by
          obtain ⟨o', es, ep, t', ho', rest⟩ := S2
          exact ⟨o', es, ep, t', k3 _ _ ho', rest⟩
        show wpAny _ _ (richCompare .LtE _ _) _ _ _
        refine set_le (s := ⟨h3, g, d, tk3, os⟩) S2' S3 (by show B.units + 3 < cLine; have := hA.2.2; omega) ?_
        refine wpAny_truthy_bool ?_
        refine isTrue_and_nil ⟨rfl, ?_⟩
        -- self.seps = seps
        refine wpAny_execs_cons (plainObj_wpAny_Assign_Attribute (hloc F3 hmseps (by rw [hEn]; rfl) (by decide) (hloc F3 hmself (by rw [hEn]; rfl) (by decide) ?_)) rfl)
        have I3 : InstAt h3 (h0.objs.size + 1) (instObj C h0.objs.size) C (some emptyDict) := ⟨(N3 (h0.objs.size + 1, instObj C h0.objs.size) (by simp)).1, rfl, rfl, (N3 (h0.objs.size, emptyDict) (by simp)).1⟩
        have X3 : K.In h3 := XK.keeps F3.keep
        refine set_plain X3 I3 hs ?_
        refine osa_dict (s := ⟨h3, g, d, tk3 + 1, os⟩) F3 N3 X3 I3 rfl hp ht hh rfl (fun p hp' => by rw [List.mem_singleton] at hp'; subst hp'; exact Nat.succ_ne_self _) (fun p hp' => by cases hp') (put_seps _ _ _) (es := [_]) rfl (by simp) fun h4 F4 N4 => ?_
        refine wpAny_execs_nil ⟨rfl, ⟨rfl, rfl, ?_, F4.keep⟩, tk3 + 1, (N4 (h0.objs.size + 1, instObj C h0.objs.size) (by simp)).1, (N4 (h0.objs.size, sepsObj cx.w.params (tk3 + 1) (.str ⟨q.toArray⟩ t)) (List.mem_append_right _ (List.mem_singleton.mpr rfl))).1⟩
        exact Nat.le_of_lt (Heap.lt_size (N4 (h0.objs.size, sepsObj cx.w.params (tk3 + 1) (.str ⟨q.toArray⟩ t)) (List.mem_append_right _ (List.mem_singleton.mpr rfl))).1)
      · rintro f s' ⟨e1, Xt, tk', g1, g2⟩
        refine ⟨e1, _, rfl, Xt, ?_⟩
        rw [Rd, hI]
        exact ⟨_, _, tk', t, rfl, g1, g2, fun x => absurd (hV _ x) (by simp), fun x => absurd (hV _ x) (by simp), hsl, hlen⟩
    · cases h
  · cases h
end Mine

end
section
open PySem PySem.W PySem.Calls PyProof.Rows
set_option Elab.async false
set_option maxRecDepth 100000
namespace Mine

/-! a method's own call -/
noncomputable def methDef (name qn : Str) (params : Arguments) (body : List Stmt) (scope : Scope) (pm code doc : Value) : FuncData :=
  { name, qualname := qn, params, body := .stmts body, scope, globals := mainGlobals, closure := [], defaults := .none, kwdefaults := .none, doc, pyModule := pm, code, builtins := builtinsNs }
theorem con_meth {cx : Cx} {k : Nat} {a : Addr} {o : Obj} {name qn : Str} {params : Arguments} {body : List Stmt} {scope : Scope} {pm cd doc : Value} {xs rest : List Str} {g : Rho → Option (Out × Rho)}
    (ho : cx.h₁.get? a = some o) (hd : o.data = .func (methDef name qn params body scope pm cd doc)) (hcd : cx.h₁.CodeRec cd qn)
    (hbody : SS ⟨cx, scope, (xs ++ rest).map some, k⟩ body g)
    (hbind : ∀ vs : List Value, vs.length = xs.length → bindArgs (methDef name qn params body scope pm cd doc) ⟨vs, []⟩ = pure (xs.zip vs))
    (hnd : decide (xs ++ rest).Nodup = true := by decide) (hnames : decide (scope.names.map (·.1)).Nodup = true := by decide)
    (hknown : ((xs ++ rest).all fun x => scope.names.lookup x == some .local || scope.names.lookup x == some .cell) = true := by decide)
    (hco : scope.isCoroutine = false := by rfl) (hgen : scope.isGenerator = false := by rfl) (hk : scope.kind = .function := by rfl) : Con cx (k + 1) (.ref a) (runF xs.length rest.length g) := fun A V s ds vs r hA hV hbase' ra h => by
  have hbase := hbase'.2
  unfold runF at h
  split at h
  · rename_i hlen
    have hnd := of_decide_eq_true hnd
    have hnames := of_decide_eq_true hnames
    have hkn : ∀ x ∈ xs ++ rest, scope.names.lookup x = some .local ∨ scope.names.lookup x = some .cell := fun x hx => by
      have := List.all_eq_true.mp hknown x hx
      simpa using this
    have hlv : vs.length = xs.length := by rw [ra.length, hlen]
    rw [Option.map_eq_some_iff] at h
    obtain ⟨⟨out, ρ'⟩, hg, h⟩ := h
    refine W.call (C.call_function (by have := hA.2.1; omega) (hbase a o ho) hd hco hgen rfl (hcd.keeps hbase) ?_)
    rw [hbind vs hlv]
    have hmem : ∀ x, scope.names.lookup x = some .cell → (x, NameKind.cell) ∈ scope.names := fun x hx => mem_of_lookup hx
    refine wpAny_pure (wpAny_newFunctionEnv_cells hk (fun x hx => ?_) fun env he s' x => ?_)
    · have hx' : x.1 ∈ xs := (List.of_mem_zip hx).1
      rcases hkn x.1 (List.mem_append_left _ hx') with h1 | h1
      · exact .inl h1
      · exact .inr ⟨h1, cellsFrom_has _ _ _ _ (hmem _ h1)⟩
    refine ⟨(cx.lim.keeps hbase).keeps x.toInCall.keep, C.func ?_⟩
    obtain ⟨hh, tk, hs'⟩ := x.toInCall.same
    have hkeep := x.toInCall.keep
    have hEs : env.scope = scope := by rw [he]; rfl
    have hEl : env.locals = s.heap.objs.size := by rw [he]; rfl
    have hEc : env.cells = cellsFrom (s.heap.objs.size + 1) scope.names [] := by rw [he]; rfl
    have hEg : env.globals = mainGlobals := by rw [he]; rfl
    have hEb : env.builtins = builtinsNs := by rw [he]; rfl
    have hsz : s.heap.objs.size ≤ s'.heap.objs.size := by
      have h0 := x.toInCall.ns.lt
      rw [hEl] at h0; exact Nat.le_of_lt h0
    have X : Ext s s' := ⟨by rw [hs'], by rw [hs'], hsz, hkeep⟩
    have hkind : ∀ y, env.kindOf y = scope.names.lookup y := fun y => by show env.scope.names.lookup y = _; rw [hEs]
    have hge1 : cx.h₁.objs.size ≤ s.heap.objs.size := hbase'.1
    let vm : Str → Option Value := fun y => if scope.names.lookup y = some .local then bindL env.kindOf (xs.zip vs) (fun _ => none) y else bindC env.kindOf (xs.zip vs) (fun _ => none) y
    have hvm : ∀ y, vm y = (xs.zip vs).reverse.lookup y := fun y => by
      show (if scope.names.lookup y = some .local then _ else _) = _
      split
      · rename_i hy; rw [bindL_get _ _ _ _ (by rw [hkind]; exact hy)]; simp
      · rename_i hy; rw [bindC_get _ _ _ _ (by rw [hkind]; exact hy)]; simp
    have F : FrV cx scope ((xs ++ rest).map some) env V (fun _ => none) vm s' (ds.map .val ++ List.replicate rest.length .unb) := {
      scope := hEs, kind := hk, glob := hEg, blt := hEb
      base := fun b o' e => hkeep b o' (hbase b o' e)
      ns := ⟨_, x.toInCall.ns, fun y hy => by show _ = (if scope.names.lookup y = some .local then _ else _); rw [if_pos hy]⟩
      cell := fun y c hc => by
        have := x.cell y c hc
        have hy : scope.names.lookup y ≠ some .local := by
          have hm := mem_of_lookup hc
          rw [hEc] at hm
          rcases cellsFrom_mem _ _ _ _ _ hm with h' | h'
          · cases h'
          · rw [lookup_of_mem hnames h']; intro e; cases e
        show s'.heap.IsCell c (if scope.names.lookup y = some .local then _ else _)
        rw [if_neg hy]; exact this
      apart := x.apart
      fresh := fun b hb => by
        rcases hb with ⟨j, hj⟩ | hb | ⟨y, hy⟩
        · cases hj
        · subst hb; exact ⟨by rw [hEl]; exact hge1, x.toInCall.ns.lt⟩
        · have h0 := x.above y b (mem_of_lookup hy)
          exact ⟨by rw [hEl] at h0; exact Nat.le_trans hge1 (Nat.le_of_lt h0), (x.cell y b hy).lt⟩
      nsCell := fun y hy => Nat.lt_irrefl _ (x.above y _ (mem_of_lookup hy))
      av := fun b hb => Nat.lt_of_lt_of_le (hV b hb) hsz
      len := by simp [hlen]
      tabInj := fun i j y h1 h2 => by
        rw [List.getElem?_map, Option.map_eq_some_iff] at h1 h2
        obtain ⟨y1, h1, e1⟩ := h1
        obtain ⟨y2, h2, e2⟩ := h2
        cases e1; cases e2
        have hi : i < (xs ++ rest).length := by
          rcases Nat.lt_or_ge i (xs ++ rest).length with h' | h'
          · exact h'
          · rw [List.getElem?_eq_none h'] at h1; cases h1
        exact (List.getElem?_inj hi hnd).mp (h1.trans h2.symm)
      cellNL := fun y c hc => by
        have hm := mem_of_lookup hc
        rw [hEc] at hm
        rcases cellsFrom_mem _ _ _ _ _ hm with h' | h'
        · cases h'
        · rw [lookup_of_mem hnames h']; intro e; cases e
      known := fun i y h1 => by
        rw [List.getElem?_map, Option.map_eq_some_iff] at h1
        obtain ⟨y1, h1, e1⟩ := h1
        cases e1
        rcases hkn y (List.mem_of_getElem? h1) with h' | h'
        · exact .inl h'
        · exact .inr ⟨.inl h', by rw [hEc]; exact cellsFrom_has _ _ _ _ (hmem _ h')⟩
      slots := fun i y sl h1 h2 => by
        rw [List.getElem?_map, Option.map_eq_some_iff] at h1
        obtain ⟨y1, h1, e1⟩ := h1
        cases e1
        rcases Nat.lt_or_ge i xs.length with hi | hi
        · rw [List.getElem?_append_left hi] at h1
          rw [List.getElem?_append_left (by simpa [hlen] using hi), List.getElem?_map, Option.map_eq_some_iff] at h2
          obtain ⟨d', h2, e2⟩ := h2
          subst e2
          obtain ⟨v', hv', q⟩ := ra.get h2
          refine ⟨v', by rw [hvm]; exact lookup_zip_rev (List.nodup_append.mp hnd).1 hlv h1 hv', ?_⟩
          refine q.mono (fun b o' _ e => hkeep b o' e) fun b hb => ?_
          rcases hb with hb | ⟨j, hj⟩ | hb | ⟨z, hz⟩
          · exact .inl hb
          · cases hj
          · exact .inr (get_none (by rw [hb, hEl]; exact Nat.le_refl _))
          · exact .inr (get_none (by have h0 := x.above z b (mem_of_lookup hz); rw [hEl] at h0; exact Nat.le_of_lt h0))
        · rw [List.getElem?_append_right (by simpa [hlen] using hi)] at h2
          have := List.mem_of_getElem? h2
          rw [List.mem_replicate] at this
          rw [this.2]; trivial
      ownInj := fun i j b h1 _ => by cases h1
      ownSlot := fun i b h1 => by cases h1
      ownApart := fun i b h1 => by cases h1
      ownNP := fun i b h1 => by cases h1 }
    have hA' : Room (A.deeper env) k := ⟨hA.1, by show A.depth + 1 + k < _; have := hA.2.1; omega, by show A.units + 3 + 8 * k + 200 < _; have := hA.2.2; omega⟩
    refine W.mono (hbody (A.deeper env) env V (fun _ => none) vm s' _ out ρ' hA' F hg) fun fl s₂ ⟨ok, O2, vm2, F2, T2⟩ => ?_
    have X2 : Ext s s₂ := ⟨T2.gens.trans X.gens, T2.os.trans X.os, Nat.le_trans X.size T2.size, fun b o' e => T2.keep b o' (fun hm => by
      have hb := Heap.lt_size e
      rcases hm with ⟨j, hj⟩ | hm | ⟨z, hz⟩
      · cases hj
      · rw [hm, hEl] at hb; exact Nat.lt_irrefl _ hb
      · have h0 := x.above z b (mem_of_lookup hz); rw [hEl] at h0; exact Nat.lt_irrefl _ (Nat.lt_trans hb h0)) (hkeep b o' e)⟩
    cases out with
    | next =>
      have : fl = .next := ok
      subst this
      cases h
      exact ⟨_, rfl, X2, by rw [Rd]⟩
    | ret d =>
      obtain ⟨v, rfl, q⟩ := ok
      cases h
      exact ⟨v, rfl, X2, q⟩
  · cases h

/-! a call of the class -/
section
variable {prog : Program} {w : World} {A : Around} {s : Shared}
theorem callWith_mach {pos : Pos} {f : Value} {first : List Value} {args : List (Bool × Sem Value)} {Q : Value → Shared → Prop} (hs : args.any (·.1) = false)
    (h : W prog w A (spliced args) (fun vs s₁ => W prog w A (keeperOf f) (fun k s' => k = .machine ∧ s' = s₁) s₁ ∧ W prog w A (PySem.call f (first ++ vs)) Q s₁) s) : W prog w A (callWith pos f first args []) Q s := by
  unfold callWith
  refine W.bind (W.holding (evalArgs_ok hs (W.mono h fun vs s₁ ⟨hk, h₁⟩ => W.bind (W.standAt ?_))))
  refine W.bind (W.mono hk fun k s' ⟨e1, e2⟩ => ?_)
  subst e1 e2
  simp only [hs, List.any_nil, Bool.or_false]
  exact W.bind (W.mono h₁ fun r s₂ hr => W.bind (W.holding (W.point (W.pure hr))))
end
theorem keep_cls {prog : Program} {w : World} {A : Around} {s : Shared} {C : Addr} (Y : Makes (model prog w) s.heap C) : W prog w A (keeperOf (.ref C)) (fun k s' => k = .machine ∧ s' = s) s := by
  refine W.of_any ?_
  obtain ⟨⟨oc, od, cd, sl, hC, e1, e2, e4⟩, made, base, self, top, call, typ⟩ := Y
  unfold keeperOf
  refine wpAny_bind (wpAny_load hC ?_)
  dsimp only
  refine wpAny_bind (call.here ?_)
  exact wpAny_pure ⟨rfl, rfl⟩
section
variable {J : Jd}
theorem x_make {fn : Str} {C : Addr} {K : Frag} {p pos : Pos} {es : List PySem.Expr} {F : List D → Option D} {g : Rho → Option (List D)} {k : Nat} (hc : Con J.cx k (.ref C) F) (X : K.In J.cx.h₁) (hm : makesIn K C = true) (hv : (J.cx.mg fn).or (J.cx.mb fn) = some (.ref C)) (hes : SEs J es g)
    (hk : Nat.ble k J.k = true := by rfl) (hl : J.sc.names.lookup fn = some .globalImplicit := by rfl) (hst : es.any isStarred = false := by rfl) (hdb : (fn == ("__debug__" : Str)) = false := by rfl) :
    SE J (.Call (.Name fn p) es [] pos) (callE F g) := fun A env P O vm s ρ d hA Fr h => by
  unfold callE at h
  rw [Option.bind_eq_some_iff] at h
  obtain ⟨ds, hds, h⟩ := h
  show W _ _ A (do callWith pos (← eval (.Name fn p) env) [] (backTo pos (starEach es env)) []) _ s
  rw [eval_Name env fn p hdb]
  refine W.bind (W.bind (W.standAt (Fr.glob_ hl hv ?_)))
  have hb := backTo_plain pos env hst
  refine callWith_mach hb.1 (W.mono (hes A env P O vm s ρ ds pos hA Fr hds) fun vs s₁ ⟨X1, r1⟩ => ⟨keep_cls (makes_of (X.keeps (Fr.ext X1).base) hm), ?_⟩)
  exact W.mono (hc A (Av env P O) s₁ ds vs d (hA.le (le_of_ble hk)) (fun q hq => (Fr.ext X1).avLt hq) (Fr.ext X1).baseOf r1 h) fun v s₂ ⟨X2, r2⟩ => ⟨X1.trans X2, r2⟩
end

/-! methods of that object -/
noncomputable def isInstD : D → Bool | .inst _ => true | _ => false
structure MethK (cx : Cx) (K : Frag) (C : Addr) (name : Str) (f : Addr) : Prop where
  inst : cx.inst = instRel cx.w.params C
  inK : K.In cx.h₁
  ga : findIn K (.ref C) "__getattribute__" = some (some (.builtin "object.__getattribute__"))
  no : findIn K (.ref C) "__getattr__" = some none
  found : findIn K (.ref C) name = some (some (.ref f))
  fn : typeIn K (.ref f) = some (.type "function")
  other : (PySem.Value.str (Str.ofString "seps") 0).isStr name = false
  keep : KeepOk (.ref f) cx.h₁
theorem get_inst {cx : Cx} {K : Frag} {C f : Addr} {name : Str} (M : MethK cx K C name f) {A : Around} {V : Avd} {s : Shared} {d : D} {v : Value} {pl : Sem Bool} {Q : Value × List Value → Shared → Prop} (hb : ∀ a o, cx.h₁.get? a = some o → s.heap.get? a = some o) (hp : isInstD d = true) (r : Rd cx s.heap V d v)
    (h : Q (.ref f, [v]) s) : wpAny (model cx.prog cx.w) A (getMethod v name pl) Q (fun _ _ => False) s := by
  unfold isInstD at hp
  split at hp
  · rw [Rd, M.inst] at r
    obtain ⟨x, dx, tk, t, rfl, h1, h2, _⟩ := r
    refine method_fn (M.inK.keeps hb) (ox := instObj C dx) (od := some (sepsObj cx.w.params tk (.str _ t))) ⟨h1, rfl, rfl, h2⟩ M.ga M.no M.found M.fn ?_ h
    show (lookIn name _).map _ = _
    unfold lookIn sepsObj
    have : (PySem.Value.str (Str.ofString "seps") tk).isStr name = false := M.other
    simp [this, DictEntry.refKey]
  · cases hp
section
variable {J : Jd}
theorem x_methI {o : PySem.Expr} {name : Str} {C fa : Addr} {K : Frag} {apos pos : Pos} {es : List PySem.Expr} {f : Rho → Option D} {g : Rho → Option (List D)} {F : List D → Option D} {k : Nat} (M : MethK J.cx K C name fa) (hc : Con J.cx k (.ref fa) F) (ho : SE J o f) (hes : SEs J es g)
    (hk : Nat.ble k J.k = true := by rfl) (hs : notSuperCall o = true := by rfl) (hst : es.any isStarred = false := by rfl) (hlen : Nat.ble (es.length + 1) 29 = true := by rfl) (hp : apos.endLine = pos.line := by rfl) :
    SE J (.Call (.Attribute o name apos) es [] pos) (methE isInstD F f g) := fun A env P O vm s ρ d hA Fr h => by
  unfold methE at h
  rw [Option.bind_eq_some_iff] at h
  obtain ⟨a, ha, h⟩ := h
  rw [Option.bind_eq_some_iff] at h
  obtain ⟨as, has, h⟩ := h
  split at h
  · rename_i hpa
    have hlen' := le_of_ble hlen
    rw [method_split hs hst (by omega) hp]
    refine W.bind (W.mono (ho A env P O vm s ρ a hA Fr ha) fun v s₁ ⟨X1, r1⟩ => W.bind (W.standAt (W.bind (W.holding (W.of_any (get_inst M (Fr.ext X1).base hpa r1 ?_))))))
    have hb := backTo_plain pos env hst
    refine callWith_ok hb.1 (by rw [hb.2]; omega) (W.mono (hes A env P O vm s₁ ρ as pos hA (Fr.ext X1) has) fun vs s₂ ⟨X2, r2⟩ => ⟨?_, ?_⟩)
    · rcases M.keep with ⟨a, o, fd, e, ho, hd⟩ | hk
      · exact .inl ⟨a, o, fd, e, (Fr.ext (X1.trans X2)).base a o ho, hd⟩
      · exact .inr hk
    have X := X1.trans X2
    exact W.mono (hc A (Av env P O) s₂ (a :: as) (v :: vs) d (hA.le (le_of_ble hk)) (fun q hq => (Fr.ext X).avLt hq) (Fr.ext X).baseOf (RdAll.cons (r1.keep X2.keep) r2) h) fun v s₃ ⟨X3, r3⟩ => ⟨X.trans X3, r3⟩
  · cases h
end
end Mine

end
section
open PySem PySem.W PySem.Calls PyProof.Rows
set_option Elab.async false
set_option maxRecDepth 100000
namespace Mine

/-! texts with places to fill -/
noncomputable def strOnly (f : Rho → Option D) : Rho → Option D := fun ρ => (f ρ).bind fun d => match d with | .str l => some (.str l) | _ => none
noncomputable def catE (f : Rho → Option D) (g : Rho → Option (List Nat)) : Rho → Option (List Nat) := fun ρ => (f ρ).bind fun d => match d with | .str l => (g ρ).map (l ++ ·) | _ => none
noncomputable def endE : Rho → Option (List Nat) := fun _ => some []
theorem strs_append (a b : List Nat) : (⟨a.toArray⟩ : Str) ++ (⟨b.toArray⟩ : Str) = ⟨(a ++ b).toArray⟩ := by
  show (Str.mk _) = _
  simp
section
variable {J : Jd}
theorem se_fv {value : PySem.Expr} {pos : Pos} {f : Rho → Option D} (hv : SE J value f) : SE J (.FormattedValue value (-1) none pos) (strOnly f) := fun A env P O vm s ρ d hA F h => by
  unfold strOnly at h
  rw [Option.bind_eq_some_iff] at h
  obtain ⟨d0, h0, h⟩ := h
  split at h
  · cases h
    show W _ _ A (do let v ← eval value env; standAt pos; formatted pos (← holding [v] (converted (-1) v)) none) _ s
    refine W.bind (W.mono (hv A env P O vm s ρ _ hA F h0) fun v s₁ ⟨X1, r1⟩ => W.bind (W.standAt ?_))
    show W _ _ A (do let v' ← holding [v] (pure v); formatField v' Str.empty) _ s₁
    refine W.bind (W.holding (W.pure ?_))
    rw [Rd] at r1
    obtain ⟨t, rfl, hc, hz⟩ := r1
    refine W.of_any (formatField_str (fun t' tk => ⟨X1.trans (Ext.toks _), ?_⟩) (by simpa [Str.length] using hz))
    rw [Rd]
    exact ⟨t', rfl, hc, hz⟩
  · cases h
end
end Mine

end
section
open PySem PySem.W PySem.Calls PyProof.Rows
set_option Elab.async false
set_option maxRecDepth 100000
namespace Mine
open Builtin Builtin.Str

/-! text.index(sign, i) -/
section
variable {J : Jd}
end
end Mine

end
section
open PySem PySem.W PySem.Calls PyProof.Rows
set_option Elab.async false
set_option maxRecDepth 100000
namespace Mine
open Builtin Builtin.Str

/-! text.translate(the table of signs) -/
noncomputable def spc : List Nat := [40, 41, 91, 93, 123, 125, 63, 42, 43, 45, 124, 94, 36, 92, 46, 38, 126, 35, 32, 9, 10, 13, 11, 12]
noncomputable def escC (c : Nat) : List Nat := if c ∈ spc then [92, c] else [c]
noncomputable abbrev entT (x : Nat × Tok × Tok) : DictEntry := { hash := (x.1 : Int), key := .int (x.1 : Int) x.2.1, val := .str ⟨#[92, x.1]⟩ x.2.2 }
noncomputable abbrev tabObj (L : List (Nat × Tok × Tok)) (n : Nat) : Obj := { cls := .type "dict", data := .dict (L.map entT).toArray n }
theorem find_tab : ∀ (L : List (Nat × Tok × Tok)) (c : Nat), (c ∈ L.map (·.1) → ∃ t, findBy Value.isInt (L.map entT).toArray (c : Int) = some (.str ⟨#[92, c]⟩ t)) ∧ (c ∉ L.map (·.1) → findBy Value.isInt (L.map entT).toArray (c : Int) = none)
  | [], c => ⟨fun h => by simp at h, fun _ => rfl⟩
  | (x, k, t) :: L, c => by
    have ih := find_tab L c
    unfold findBy at ih ⊢
    rw [List.find?_toArray] at ih ⊢
    by_cases h : x = c
    · subst h
      refine ⟨fun _ => ⟨t, ?_⟩, fun h => by simp at h⟩
      simp [Value.isInt]
    · have hn : Value.isInt (c : Int) (.int (x : Int) k) = false := by
        simp [Value.isInt]; omega
      have e : List.find? (fun e : DictEntry => Value.isInt (c : Int) e.key) (((x, k, t) :: L).map entT) = List.find? (fun e : DictEntry => Value.isInt (c : Int) e.key) (L.map entT) := by
        rw [List.map_cons, List.find?_cons]
        simp only [hn]
      rw [e]
      refine ⟨fun hm => ih.1 ?_, fun hm => ih.2 ?_⟩
      · simp only [List.map_cons, List.mem_cons] at hm
        exact hm.elim (fun e => absurd e.symm h) id
      · exact fun hc => hm (by simp only [List.map_cons, List.mem_cons]; exact .inr hc)
theorem map_tab {prog : Program} {w : World} {h : Heap} {d : Addr} {L : List (Nat × Tok × Tok)} {n : Nat} (ho : h.get? d = some (tabObj L n)) (hL : ∀ x ∈ L, hashInt (x.1 : Int) = (x.1 : Int)) :
    h.MapOf (intKind prog w) d (fun k => findBy Value.isInt (L.map entT).toArray k) := by
  refine ⟨_, _, _, ho, ⟨rfl, rfl, rfl⟩, rfl, fun e he => ?_, fun k => rfl⟩
  have he : e ∈ L.map entT := by simpa using he
  obtain ⟨x, hx, rfl⟩ := List.mem_map.mp he
  exact ⟨(x.1 : Int), by simp [intKind, Value.isInt], (hL x hx).symm⟩
theorem sub_key : isSubtype (.type "KeyError") (.type "LookupError") = pure true := by rw [isSubtype_type]; kernel_rfl
section
variable {prog : Program} {w : World} {A : Around} {E : Value → Shared → Prop} {s : Shared} {d : Addr} {L : List (Nat × Tok × Tok)} {n : Nat}
/-- no object goes, the rest stays -/
structure Kp (s s' : Shared) : Prop where
  gens : s'.gens = s.gens
  os : s'.os = s.os
  keep : ∀ a o, s.heap.get? a = some o → s'.heap.get? a = some o
theorem Kp.trans {a b c : Shared} (x : Kp a b) (y : Kp b c) : Kp a c := ⟨y.gens.trans x.gens, y.os.trans x.os, fun p o e => y.keep p o (x.keep p o e)⟩
theorem look_ok {c : Nat} {Q : Mapped → Shared → Prop} (ho : s.heap.get? d = some (tabObj L n)) (hL : ∀ x ∈ L, hashInt (x.1 : Int) = (x.1 : Int)) (hd : (d == sysModules) = false) (hh : A.handled = none)
    (h1 : c ∈ L.map (·.1) → ∀ s', Kp s s' → Q (.text ⟨#[92, c]⟩) s') (h2 : c ∉ L.map (·.1) → ∀ s', Kp s s' → Q .keep s') : wpAny (model prog w) A (tableLookup (.ref d) c) Q E s := by
  unfold tableLookup
  refine wpAny_bind (wpAny_attempt (wpAny_bind (wpAny_mkInt ?_)))
  have hm : ({ s with toks := s.toks + 1 } : Shared).heap.MapOf (intKind prog w) d (fun k => findBy Value.isInt (L.map entT).toArray k) := map_tab ho hL
  by_cases hc : c ∈ L.map (·.1)
  · obtain ⟨t, ht⟩ := (find_tab L c).1 hc
    refine wpAny_getItem_of (intKind_is _ _ _ _) hm ht ?_
    refine wpAny_bind (wpAny_pure ?_)
    exact wpAny_bind (wpAny_pure (wpAny_pure (h1 hc _ ⟨rfl, rfl, fun _ _ e => e⟩)))
  · refine wpAny_getItem_missing_of (intKind_is _ _ _ _) hd hh hm ((find_tab L c).2 hc) fun h' e hx => ?_
    obtain ⟨ob, t, g1, g2, g3⟩ := hx.there
    refine wpAny_bind (wpAny_isInstance (T := "KeyError") (b := true) ⟨ob, g1, g2⟩ sub_key ?_)
    exact wpAny_bind (wpAny_rule (wpAny_pure (h2 hc _ ⟨rfl, rfl, hx.keeps⟩)))

/-! the loop over the signs -/
theorem forIn_inv {β : Type} {f : Nat → β → Sem (ForInStep β)} {I : List Nat → β → Shared → Prop} {Q : β → Shared → Prop} {W : List Nat} (step : ∀ a c r b s, a ++ c :: r = W → I a b s → wpAny (model prog w) A (f c b) (fun r s' => ∃ b', r = .yield b' ∧ I (a ++ [c]) b' s') E s) :
    ∀ (r a : List Nat) (b : β) (s : Shared), a ++ r = W → I a b s → (∀ b s, I W b s → Q b s) → wpAny (model prog w) A (forIn r b f) Q E s
  | [], a, b, s, hW, h, hQ => by rw [List.append_nil] at hW; subst hW; exact wpAny_pure (hQ b s h)
  | c :: r, a, b, s, hW, h, hQ => by
    rw [List.forIn_cons]
    refine wpAny_bind (wpAny_mono (step a c r b s hW h) (fun x s' ⟨b', e, h'⟩ => ?_) fun _ _ e => e)
    subst e
    exact forIn_inv step r (a ++ [c]) b' s' (by rw [List.append_assoc]; exact hW) h' hQ
end
end Mine

end
section
open PySem PySem.W PySem.Calls PyProof.Rows
set_option Elab.async false
set_option maxRecDepth 100000
namespace Mine
open Builtin Builtin.Str
section
variable {prog : Program} {w : World} {A : Around} {E : Value → Shared → Prop} {s : Shared} {d : Addr} {L : List (Nat × Tok × Tok)} {n : Nat}
noncomputable def TrI (s : Shared) (a : List Nat) (b : List Str × Nat × Bool × List (Nat × Option Nat) × Bool) (s' : Shared) : Prop :=
  (b.1.reverse.map (·.cps.toList)).flatten = a.flatMap escC ∧ b.2.1 = (a.flatMap escC).length ∧ (∀ c v, b.2.2.2.1.lookup c = some v → v = some c ∧ c ∉ spc) ∧ b.2.2.2.2 = false ∧ Kp s s'
theorem TrI.more {s s' s'' : Shared} {a : List Nat} {c : Nat} {ps : List Str} {k k' : Nat} {f f' : Bool} {kn kn' : List (Nat × Option Nat)} {x : Str} (h : TrI s a (ps, k, f, kn, false) s') (hx : x.cps.toList = escC c) (hk : k' = k + x.cps.toList.length) (hkn : ∀ c v, kn'.lookup c = some v → v = some c ∧ c ∉ spc) (K : Kp s' s'') :
    TrI s (a ++ [c]) (x :: ps, k', f', kn', false) s'' := by
  obtain ⟨h1, h2, h3, h4, h5⟩ := h
  refine ⟨?_, ?_, hkn, rfl, h5.trans K⟩
  · simp only [List.reverse_cons, List.map_append, List.map_cons, List.map_nil, List.flatten_append, List.flatMap_append, List.flatMap_cons, List.flatMap_nil, List.append_nil, List.flatten_cons, List.flatten_nil]
    dsimp only at h1
    rw [h1, hx]
  · dsimp only at h2 ⊢
    rw [hk, h2, hx]
    simp
theorem translate_any {x : Str} {t : Tok} {Q : PySem.Fin → Shared → Prop} (ho : s.heap.get? d = some (tabObj L n)) (hL : ∀ x ∈ L, hashInt (x.1 : Int) = (x.1 : Int)) (hs : L.map (·.1) = spc) (hd : (d == sysModules) = false) (hh : A.handled = none) (hx : x.length ≤ 100000) (hne : x.length ≠ 0)
    (h : ∀ tk s', Kp s s' → Q (.done (.ret (.str ⟨(x.cps.toList.flatMap escC).toArray⟩ tk))) s') : wpAny (model prog w) A (Builtin.«str.translate» ⟨[.str x t, .ref d], []⟩) Q E s := by
  unfold Builtin.«str.translate»
  show wpAny _ _ (if (x.length == 0) = true then _ else _) _ _ _
  rw [if_neg (by simpa using hne)]
  dsimp only
  rw [← Array.forIn_toList]
  have hflen : ∀ a r : List Nat, a ++ r = x.cps.toList → (a.flatMap escC).length ≤ 200000 := fun a r e => by
    have h1 : (a.flatMap escC).length ≤ 2 * a.length := by
      clear e
      induction a with
      | nil => simp
      | cons c a ih =>
        have : (escC c).length ≤ 2 := by unfold escC; split <;> simp
        rw [List.flatMap_cons, List.length_append, List.length_cons]; omega
    have h2 : a.length + r.length = x.length := by rw [← List.length_append, e]; simp [Str.length]
    omega
  have hlong : ∀ k, k ≤ 200000 → tooLong k = false := fun k hk => by
    simp only [tooLong, decide_eq_false_iff_not]
    first
      | omega
      | (have := szl; omega)
  refine wpAny_bind (forIn_inv (W := x.cps.toList) (I := TrI s) ?_ x.cps.toList [] _ s rfl ⟨rfl, rfl, (fun c v e => by simp at e), rfl, ⟨rfl, rfl, fun _ _ e => e⟩⟩ ?_)
  · rintro a c r ⟨ps, k, f, kn, ad⟩ s' hW hI
    have hI' := hI
    obtain ⟨h1, h2, h3, h4, h5⟩ := hI'
    dsimp only at h1 h2 h3 h4 ⊢
    subst h4
    rw [if_neg (by rw [hlong k (by rw [h2]; exact hflen a _ hW)]; decide)]
    -- the slow road
    have slow : ∀ (s1 : Shared) (f' : Bool) (kn' : List (Nat × Option Nat)), Kp s' s1 → (∀ c v, kn'.lookup c = some v → v = some c ∧ c ∉ spc) → wpAny (model prog w) A (tableLookup (.ref d) c >>= fun m => match m with
        | .keep => pure (ForInStep.yield (({ cps := #[c] } : Str) :: ps, k + 1, f', kn', false))
        | .drop => pure (ForInStep.yield (ps, k, f', kn', true))
        | .char e => pure (ForInStep.yield (({ cps := #[e] } : Str) :: ps, k + 1, f', kn', false))
        | .text t => pure (ForInStep.yield (t :: ps, k + t.length, f', kn', false))) (fun r s' => ∃ b', r = .yield b' ∧ TrI s (a ++ [c]) b' s') E s1 := fun s1 f' kn' K1 hkn => by
      refine wpAny_bind (look_ok (h5.keep _ _ ho |> fun e => K1.keep _ _ e) hL hd hh (fun hc s2 K2 => ?_) fun hc s2 K2 => ?_)
      · refine wpAny_pure ⟨_, rfl, hI.more (x := ⟨#[92, c]⟩) ?_ rfl hkn (K1.trans K2)⟩
        rw [hs] at hc
        rw [escC, if_pos hc]
      · refine wpAny_pure ⟨_, rfl, hI.more (x := ⟨#[c]⟩) ?_ rfl hkn (K1.trans K2)⟩
        rw [hs] at hc
        rw [escC, if_neg hc]
    cases f with
    | false =>
      rw [if_neg (by decide), if_neg (by decide)]
      exact slow s' false kn ⟨rfl, rfl, fun _ _ e => e⟩ h3
    | true =>
      rw [if_pos rfl]
      cases hk : List.lookup c kn with
      | some v =>
        obtain ⟨rfl, hc⟩ := h3 c v hk
        refine wpAny_bind (wpAny_pure (wpAny_pure ⟨_, rfl, hI.more (x := ⟨#[c]⟩) ?_ rfl h3 ⟨rfl, rfl, fun _ _ e => e⟩⟩))
        rw [escC, if_neg hc]
      | none =>
        dsimp only
        refine wpAny_bind (look_ok (h5.keep _ _ ho) hL hd hh (fun hc s2 K2 => ?_) fun hc s2 K2 => ?_)
        · refine wpAny_bind (wpAny_pure (wpAny_bind (wpAny_rule ?_)))
          exact slow s2 false kn K2 h3
        · rw [hs] at hc
          refine wpAny_bind (wpAny_pure (wpAny_pure ⟨_, rfl, hI.more (x := ⟨#[c]⟩) ?_ rfl (fun c' v e => ?_) K2⟩))
          · rw [escC, if_neg hc]
          · rw [List.lookup_cons] at e
            by_cases hcc : c' = c
            · subst hcc
              simp at e
              exact ⟨e.symm, hc⟩
            · have : (c' == c) = false := by simpa using hcc
              rw [this] at e
              exact h3 c' v e
  · rintro ⟨ps, k, f, kn, ad⟩ s' hI
    obtain ⟨h1, h2, h3, h4, h5⟩ := hI
    dsimp only at h1 h2 ⊢
    have hk := hflen x.cps.toList [] (by simp)
    rw [if_neg (by rw [hlong k (by omega)]; decide)]
    have hfold : ∀ (ls : List Str) (acc : Array Nat), (ls.foldl (fun acc p => acc ++ p.cps) acc) = acc ++ (ls.map (·.cps.toList)).flatten.toArray := fun ls => by
      induction ls with
      | nil => intro acc; simp
      | cons p ls ih => intro acc; rw [List.foldl_cons, ih]; apply Array.ext'; simp
    rw [hfold, h1]
    have hsz := szl
    refine wpAny_bind (wpAny_mkStr ?_ ?_)
    · have := h s'.toks { s' with toks := s'.toks + 1 } ⟨h5.gens, h5.os, h5.keep⟩
      refine wpAny_pure ?_
      simpa using this
    · have e : (⟨#[] ++ (x.cps.toList.flatMap escC).toArray⟩ : Str).length = (x.cps.toList.flatMap escC).length := by
        rw [Str.length, Array.empty_append, List.size_toArray]
      rw [e]; omega
end
end Mine

end
section
open PySem PySem.W PySem.Calls PyProof.Rows
set_option Elab.async false
set_option maxRecDepth 100000
namespace Mine

theorem back_two {e e' : PySem.Expr} {pos : Pos} {env : Env} (h : isStarred e = false) (h' : isStarred e' = false) : backTo pos (starEach [e, e'] env) = [(false, eval e env), (false, eval e' env)] := by
  have e1 : ∀ (x : PySem.Expr) (r : List PySem.Expr), isStarred x = false → backTo pos (starEach (x :: r) env) = (false, eval x env) :: backTo pos (starEach r env) := fun x r hx => by cases x <;> first | rfl | cases hx
  rw [e1 e _ h, e1 e' _ h']; rfl
section
variable {J : Jd}
theorem ss_dead {st : List Stmt} : SS J st (fun _ => none) := fun A env P O vm s ρ out ρ' hA F h => by cases h

/-! isinstance(x, str) -/
noncomputable def isiE (f : Rho → Option D) : Rho → Option D := fun ρ => (f ρ).bind fun d => match d with | .str _ => some (.bool true) | _ => none
theorem se_isi {e : PySem.Expr} {p1 p2 pos : Pos} {f : Rho → Option D} (he : SE J e f) (hf : (J.cx.mg "isinstance").or (J.cx.mb "isinstance") = some (.builtin "isinstance")) (ht : (J.cx.mg "str").or (J.cx.mb "str") = some (.type "str"))
    (h1 : J.sc.names.lookup ("isinstance" : Str) = some .globalImplicit := by rfl) (h2 : J.sc.names.lookup ("str" : Str) = some .globalImplicit := by rfl) (hst : isStarred e = false := by rfl) :
    SE J (.Call (.Name "isinstance" p1) [e, .Name "str" p2] [] pos) (isiE f) := fun A env P O vm s ρ d hA Fr h => by
  unfold isiE at h
  rw [Option.bind_eq_some_iff] at h
  obtain ⟨d0, h0, h⟩ := h
  split at h
  · cases h
    show W _ _ A (do callWith pos (← eval (.Name "isinstance" p1) env) [] (backTo pos (starEach [e, .Name "str" p2] env)) []) _ s
    rw [eval_Name env _ p1 (by decide), back_two hst rfl]
    refine W.bind (W.bind (W.standAt (Fr.glob_ h1 hf ?_)))
    refine callWith_ok rfl (by show 2 ≤ 30; decide) ?_
    show W _ _ A (do
        let v ← eval e env
        let rest ← holding [v] (do
          let v2 ← eval (.Name "str" p2) env
          let rest ← holding [v2] (pure [])
          pure (v2 :: rest))
        pure (v :: rest)) _ s
    refine W.bind (W.mono (he A env P O vm s ρ _ hA Fr h0) fun v s₁ ⟨X1, r1⟩ => W.bind (W.holding (W.bind ?_)))
    rw [eval_Name env _ p2 (by decide)]
    refine W.bind (W.standAt ((Fr.ext X1).glob_ h2 ht (W.bind (W.holding (W.pure (W.pure (W.pure ⟨.inr (fun a e => by cases e), ?_⟩)))))))
    rw [Rd] at r1
    obtain ⟨t, rfl, _⟩ := r1
    refine W.of_any (IsiPair.str_str ⟨X1, ?_⟩)
    rw [Rd]
  · cases h

/-! x.translate(the table) -/
noncomputable def transE (f : Rho → Option D) : Rho → Option D := fun ρ => (f ρ).bind fun d => match d with | .str l => if l.length ≤ 10000 ∧ l ≠ [] then some (.str (l.flatMap escC)) else none | _ => none
theorem escC_lt {l : List Nat} (h : ∀ c ∈ l, c < 0x110000) : ∀ c ∈ l.flatMap escC, c < 0x110000 := fun c hc => by
  rw [List.mem_flatMap] at hc
  obtain ⟨x, hx, hc⟩ := hc
  have := h x hx
  unfold escC at hc
  split at hc <;> simp at hc <;> omega
theorem escC_len : ∀ l : List Nat, (l.flatMap escC).length ≤ 2 * l.length
  | [] => by simp
  | c :: a => by
    have ih := escC_len a
    have : (escC c).length ≤ 2 := by unfold escC; split <;> simp
    rw [List.flatMap_cons, List.length_append, List.length_cons]; omega
theorem se_trans {o : PySem.Expr} {apos pos p1 : Pos} {tab : Addr} {L : List (Nat × Tok × Tok)} {n : Nat} {f : Rho → Option D} (ho : SE J o f) (hm : (J.cx.mg "_special_chars_map").or (J.cx.mb "_special_chars_map") = some (.ref tab))
    (hT : J.cx.h₁.get? tab = some (tabObj L n)) (hL : ∀ x ∈ L, hashInt (x.1 : Int) = (x.1 : Int)) (hs : L.map (·.1) = spc) (hd : (tab == sysModules) = false)
    (hl : J.sc.names.lookup ("_special_chars_map" : Str) = some .globalImplicit := by rfl) (hsu : notSuperCall o = true := by rfl) (hp : apos.endLine = pos.line := by rfl) :
    SE J (.Call (.Attribute o "translate" apos) [.Name "_special_chars_map" p1] [] pos) (transE f) := fun A env P O vm s ρ d hA Fr h => by
  unfold transE at h
  rw [Option.bind_eq_some_iff] at h
  obtain ⟨d0, h0, h⟩ := h
  split at h
  · rename_i l
    split at h
    · rename_i hlen
      cases h
      have hsz := szl
      rw [method_split hsu rfl (by show 1 < 29; decide) hp]
      refine W.bind (W.mono (ho A env P O vm s ρ _ hA Fr h0) fun v s₁ ⟨X1, r1⟩ => W.bind (W.standAt (W.bind (W.holding ?_))))
      have F1 := Fr.ext X1
      refine W.of_any (get_str F.slot_str_translate F.type_str_translate J.cx A (Av env P O) s₁ _ v _ _ rfl r1 ?_)
      rw [Rd] at r1
      obtain ⟨t, rfl, hc1, hl1⟩ := r1
      refine callWith_ok rfl (by show 1 ≤ 30; decide) ?_
      show W _ _ A (do
        let v ← eval (.Name "_special_chars_map" p1) env
        let rest ← holding [v] (pure [])
        pure (v :: rest)) _ s₁
      rw [eval_Name env _ p1 (by decide)]
      refine W.bind (W.bind (W.standAt (F1.glob_ hl hm (W.bind (W.holding (W.pure (W.pure ⟨.inr (fun a e => by cases e), ?_⟩)))))))
      have hlen' : (⟨l.toArray⟩ : Str).length = l.length := str_len l
      refine W.of_anyS (wpAny_call_entry F.slot_str_translate (typeIs_str _ _ t) F.entry_str_translate (translate_any (F1.base _ _ hT) hL hs hd hA.1 (by rw [hlen']; omega) (by rw [hlen']; intro e; exact hlen.2 (List.length_eq_zero_iff.mp e)) fun tk s' K => ⟨_, rfl, fun hz => ⟨X1.trans ⟨K.gens, K.os, hz, K.keep⟩, ?_⟩⟩) (F.args_str_translate_2 _ _))
      have := escC_len l
      exact rd_str (l := l.flatMap escC) (escC_lt hc1) (by omega)
    · cases h
  · cases h

/-! self.seps -/
noncomputable def sepsE (f : Rho → Option D) : Rho → Option D := fun ρ => (f ρ).bind fun d => match d with | .inst q => some (.str q) | _ => none
theorem look_seps (P : Params) (tk : Tok) (v : Value) : lookIn (Str.ofString "seps") (sepsObj P tk v) = some (some v) := by
  unfold lookIn sepsObj
  simp [Value.isStr]
theorem se_seps {x : Str} {p pos : Pos} {K : Frag} {C : Addr} {f : Rho → Option D} (hI : J.cx.inst = instRel J.cx.w.params C) (X : K.In J.cx.h₁) (ga : findIn K (.ref C) "__getattribute__" = some (some (.builtin "object.__getattribute__"))) (hh : hasDictIn K C = true) (ha : findIn K (.ref C) (Str.ofString "seps") = some none)
    (ho : SE J (.Name x p) f) : SE J (.Attribute (.Name x p) (Str.ofString "seps") pos) (sepsE f) := fun A env P O vm s ρ d hA Fr h => by
  unfold sepsE at h
  rw [Option.bind_eq_some_iff] at h
  obtain ⟨d0, h0, h⟩ := h
  split at h
  · rename_i q
    cases h
    show W _ _ A (do
      let o ← eval (.Name x p) env
      standAt pos.atName
      let r ← holding [o] (getAttr o (Str.ofString "seps") true)
      letTemporaryGo (.Name x p) o r
      pure r) _ s
    refine W.bind (W.mono (ho A env P O vm s ρ _ hA Fr h0) fun v s₁ ⟨X1, r1⟩ => W.bind (W.standAt (W.bind (W.holding ?_))))
    have F1 := Fr.ext X1
    rw [Rd, hI] at r1
    obtain ⟨a, dx, tk, t, rfl, h1, h2, a1, a2, hq, hlen⟩ := r1
    refine W.of_any (get_value (X.keeps F1.base) (ox := instObj C dx) (od := some (sepsObj J.cx.w.params tk (.str _ t))) ⟨h1, rfl, rfl, h2⟩ ga (findObj_own hh ha rfl (look_seps _ _ _)) rfl ?_)
    refine W.bind (W.pure (W.pure ⟨X1.trans (Ext.toks _), rd_str (fun c hc => by rw [hq c hc]; decide) (by have := szl; omega)⟩))
  · cases h
end

/-! sum of ints -/
noncomputable def intsD : List D → Option (List Int)
  | [] => some []
  | .int i :: r => (intsD r).map (i :: ·)
  | _ :: _ => none
noncomputable def sumF : List D → Option D
  | [.list ds] => (intsD ds).map fun ns => .int ns.sum
  | _ => none
theorem intsD_are {cx : Cx} {h : Heap} {V : Avd} : ∀ {ds : List D} {vs : List Value} {ns : List Int}, RdAll cx h V ds vs → intsD ds = some ns → IntsAre vs ns
  | [], _, _, r, e => by rw [RdAll] at r; subst r; cases e; exact .nil
  | d :: ds, _, ns, r, e => by
    rw [RdAll] at r
    obtain ⟨v, l, rfl, r1, r2⟩ := r
    unfold intsD at e
    split at e
    · rename_i h; cases h
    · rename_i i rr h
      cases h
      rw [Option.map_eq_some_iff] at e
      obtain ⟨ns', e1, rfl⟩ := e
      rw [Rd] at r1
      obtain ⟨t, rfl⟩ := r1
      exact .cons i t (intsD_are r2 e1)
    · cases e
theorem con_sum {cx : Cx} {k : Nat} : Con cx k (.builtin "sum") sumF := fun A V s ds vs r hA hV hb ra h => by
  unfold sumF at h
  split at h
  · rename_i ds'
    rw [Option.map_eq_some_iff] at h
    obtain ⟨ns, hn, rfl⟩ := h
    rw [RdAll] at ra; obtain ⟨v, l, rfl, ra, rb⟩ := ra
    rw [RdAll] at rb; subst rb
    rw [Rd] at ra; obtain ⟨a, us, n, rfl, ho, _, hz, ra⟩ := ra
    have hi := intsD_are ra hn
    have hnum := hi.numsOf
    obtain ⟨xs, hxs⟩ := hi.allInts.items
    rw [show us.toList.toArray = us by simp] at hxs
    subst hxs
    rw [nums_intItems] at hnum
    refine W.of_anyS (sum_intListG hA.1 ⟨_, ho, rfl, n, rfl⟩ fun h' tk t' hk hsz => ⟨⟨rfl, rfl, hsz, hk⟩, ?_⟩)
    rw [Rd]
    refine ⟨t', ?_⟩
    rw [preSum_eq, List.take_of_length_le (by simp), hnum]
  · cases h

/-! list(text) -/
noncomputable def listSF : List D → Option D
  | [.str l] => some (.list (l.map fun c => .str [c]))
  | _ => none
theorem con_listS {cx : Cx} {k : Nat} : Con cx k (.type "list") listSF := fun A V s ds vs r hA hV hb ra h => by
  unfold listSF at h
  split at h
  · rename_i l
    cases h
    rw [RdAll] at ra; obtain ⟨v, l', rfl, ra, rb⟩ := ra
    rw [RdAll] at rb; subst rb
    rw [Rd] at ra; obtain ⟨t, rfl, hc, hz⟩ := ra
    have hsz := szl
    refine W.of_anyS (call_list_str hA.1 ⟨l.toArray⟩ t (hn := by simpa using hz) fun h' tk acc' c' hk ho hacc hszz => ⟨⟨rfl, rfl, hszz, hk⟩, ?_⟩)
    have hlen : acc'.size = l.length := by rw [hacc.1]; simp
    rw [Rd]
    refine ⟨_, acc', c', rfl, ho, fun x => Nat.lt_irrefl _ (hV _ x), by omega, RdAll.of_get (by simp [hlen]) fun i d v hd hv => ?_⟩
    obtain ⟨c, u, hcc, rfl⟩ := hacc.2 i v (by rw [← Array.getElem?_toList]; exact hv)
    rw [List.getElem?_map, show l[i]? = some c by simpa using hcc] at hd
    cases hd
    refine rd_str (l := [c]) (fun x hx => ?_) (by simp; omega)
    rw [List.mem_singleton] at hx
    subst hx
    exact hc x (List.mem_of_getElem? (by simpa using hcc))
  · cases h

/-! text * int -/
noncomputable def opMulS : D → D → Option D
  | .str [c], .int n => if 1 ≤ n ∧ n ≤ 1000 then some (.str (List.replicate n.toNat c)) else none
  | _, _ => none
theorem fold_rep (c : Nat) : ∀ (n : Nat) (acc : Array Nat), (List.replicate n (#[c] : Array Nat)).foldl (· ++ ·) acc = acc ++ (List.replicate n c).toArray
  | 0, acc => by simp
  | n + 1, acc => by rw [List.replicate_succ, List.foldl_cons, fold_rep c n]; apply Array.ext'; simp [List.replicate_succ]
theorem bin_muls : BinOk .Mult opMulS := fun cx A V s a b x y r hu hV ra rb h => by
  unfold opMulS at h
  split at h
  · rename_i c n
    split at h
    · rename_i hn
      cases h
      have hsz := szl
      rw [Rd] at ra
      rw [Rd] at rb
      obtain ⟨t, rfl, h1, h2⟩ := ra
      obtain ⟨u, rfl⟩ := rb
      have hl1 : (⟨[c].toArray⟩ : Str).length = 1 := rfl
      have hok : Rd cx s.heap V (.str (List.replicate n.toNat c)) (.str ⟨(List.replicate n.toNat c).toArray⟩ t) := rd_str (fun x hx => by rw [List.mem_replicate] at hx; rw [hx.2]; exact h1 c (by simp)) (by simp; omega)
      refine W.of_any (P.mul_str ?_ (fun _ _ => ?_) (fun _ _ => ?_) ?_)
      · have e1 : ¬ n < -(2 ^ 63 : Int) := by omega
        have e2 : ¬ n ≥ 2 ^ 63 := by omega
        rw [decide_eq_false e1, decide_eq_false e2]; rfl
      · rw [hl1]
        have h63 : (1000 : Int) ≤ (2 ^ 63 - 1) / n := by
          rw [Int.le_ediv_iff_mul_le (by omega)]; omega
        omega
      · rw [hl1]
        simp only [Builtin.Str.tooLong, decide_eq_false_iff_not]
        omega
      · rw [if_neg (by omega)]
        by_cases e : n = 1
        · subst e
          rw [if_pos (by simp)]
          exact ⟨Ext.refl _, hok⟩
        · rw [if_neg (by simp [e, hl1])]
          refine ⟨?_, Ext.toks _, ?_⟩
          · show Str.length ⟨(List.replicate n.toNat #[c]).foldl (· ++ ·) #[]⟩ ≤ _
            rw [fold_rep]; simp [Str.length]; omega
          · show Rd cx _ V _ (.str ⟨(List.replicate n.toNat #[c]).foldl (· ++ ·) #[]⟩ _)
            rw [fold_rep, Array.empty_append]
            exact rd_str (fun x hx => by rw [List.mem_replicate] at hx; rw [hx.2]; exact h1 c (by simp)) (by simp; omega)
    · cases h
  · cases h
end Mine

end
section
open PySem PySem.W PySem.Calls PyProof.Rows
set_option Elab.async false
set_option maxRecDepth 100000
namespace Mine

/-! a text that is new, and so no other's token is its own -/
theorem W.toks {α : Type} {prog : Program} {w : World} {A : Around} {s : Shared} {t : Sem α} {Q : α → Shared → Prop} (h : W prog w A t Q s) : W prog w A t (fun a s' => s.toks ≤ s'.toks ∧ Q a s') s :=
  fun ht Γ p hΓ hc => wp_toks _ Γ _ t _ _ p s (Nat.le_refl _) (h ht Γ p hΓ hc)
noncomputable def NewT (l : List Nat) (n : Nat) (v : Value) : Prop := ∃ t : Nat, v = .str ⟨l.toArray⟩ t ∧ n ≤ t ∧ (∀ c ∈ l, c < 0x110000) ∧ l.length ≤ sizeLine
section
variable {J : Jd}
noncomputable def JPt (J : Jd) (es : List PySem.Expr) (g : Rho → Option (List Nat)) : Prop :=
  ∀ (A : Around) (env : Env) (P : Avd) (O : Nat → Option Addr) (vm : Str → Option Value) (s : Shared) (ρ : Rho) (acc r : List Nat) (n : Nat), Room A J.k → FrV J.cx J.sc J.tab env P O vm s ρ → g ρ = some r → (∀ c ∈ acc, c < 0x110000) → (acc ++ r).length ≤ 1000000 → n ≤ s.toks →
    W J.cx.prog J.cx.w A (joinParts ⟨acc.toArray⟩ (evalEach es env)) (fun v s' => Ext s s' ∧ NewT (acc ++ r) n v) s
theorem jpt_nil : JPt J [] endE := fun A env P O vm s ρ acc r n hA F h hc hz hn => by
  cases h
  rw [List.append_nil] at hz ⊢
  have hsz := szl
  exact W.of_any (joinParts_nil ⟨Ext.toks _, _, rfl, hn, hc, by omega⟩ (by simp [Str.length]; omega))
theorem jpt_cons {e : PySem.Expr} {es : List PySem.Expr} {f : Rho → Option D} {g : Rho → Option (List Nat)} (he : SE J e f) (hes : JPt J es g) : JPt J (e :: es) (catE f g) := fun A env P O vm s ρ acc r n hA F h hc hz hn => by
  unfold catE at h
  rw [Option.bind_eq_some_iff] at h
  obtain ⟨d0, h0, h⟩ := h
  have hsz := szl
  split at h
  · rw [Option.map_eq_some_iff] at h
    obtain ⟨r', h1, rfl⟩ := h
    rename_i l
    show W _ _ A (joinParts _ (eval e env :: evalEach es env)) _ s
    rw [joinParts]
    refine W.bind (W.mono (W.toks (he A env P O vm s ρ _ hA F h0)) fun v s₁ ⟨ht, X1, r1⟩ => ?_)
    rw [Rd] at r1
    obtain ⟨t, rfl, hcl, hzl⟩ := r1
    simp only [List.length_append] at hz
    have hz' : ¬ ((⟨acc.toArray⟩ : Str).length + (⟨l.toArray⟩ : Str).length > sizeLine) := by simp only [Str.length, List.size_toArray]; omega
    refine W.bind (W.pure ?_)
    show W _ _ A (if (⟨acc.toArray⟩ : Str).length + (⟨l.toArray⟩ : Str).length > sizeLine then _ else _) _ s₁
    rw [if_neg hz', strs_append, ← List.append_assoc]
    have hnext := hes A env P O vm s₁ ρ (acc ++ l) r' n hA (F.ext X1) h1 (fun c hm => (List.mem_append.mp hm).elim (hc c) (hcl c)) (by simp only [List.length_append]; omega) (Nat.le_trans hn ht)
    first
      | exact W.mono hnext fun v s₂ ⟨X2, r2⟩ => ⟨X1.trans X2, r2⟩
      | exact W.bind (W.pure (W.mono hnext fun v s₂ ⟨X2, r2⟩ => ⟨X1.trans X2, r2⟩))
  · cases h
noncomputable def replV (y : List Nat) (f : Rho → Option D) (g : Rho → Option (List Nat)) : Rho → Option D := fun ρ => (f ρ).bind fun a => (g ρ).bind fun z => match a with
  | .str l => if l.length ≤ 100000 ∧ z.length ≤ 100 ∧ y ≠ z ∧ (replD l y z).length ≤ sizeLine then some (.str (replD l y z)) else none
  | _ => none
theorem se_replV {o e1 e2 : PySem.Expr} {es : List PySem.Expr} {apos pos p1 p2 : Pos} {x1 : Str} {k1 : Nat} {f : Rho → Option D} {g : Rho → Option (List Nat)} (y : List Nat) (ho : SE J o f) (hg : JPt J (e1 :: e2 :: es) g) (ey : x1 = ⟨y.toArray⟩ := by rfl)
    (hs : notSuperCall o = true := by rfl) (hp : apos.endLine = pos.line := by rfl) :
    SE J (.Call (.Attribute o "replace" apos) [.Constant (.str x1) k1 p1, .JoinedStr (e1 :: e2 :: es) p2] [] pos) (replV y f g) := fun A env P O vm s ρ d hA Fr h => by
  subst ey
  unfold replV at h
  rw [Option.bind_eq_some_iff] at h
  obtain ⟨a, ha, h⟩ := h
  rw [Option.bind_eq_some_iff] at h
  obtain ⟨z, hz, h⟩ := h
  split at h
  · rename_i l
    split at h
    · rename_i hl
      obtain ⟨hl, hz2, hz3, hl2⟩ := hl
      cases h
      have hsz := szl
      rw [method_split hs rfl (by show 2 < 29; decide) hp]
      refine W.bind (W.mono (ho A env P O vm s ρ _ hA Fr ha) fun v s₁ ⟨X1, r1⟩ => W.bind (W.standAt (W.bind (W.holding ?_))))
      rw [Rd] at r1
      obtain ⟨t, rfl, hc1, hl1⟩ := r1
      refine W.of_any (GM.replace ?_)
      refine callWith_ok rfl (by show 2 ≤ 30; decide) ?_
      show W _ _ A (do
        let v ← eval (.Constant (.str ⟨y.toArray⟩) k1 p1) env
        let rest ← holding [v] (do
          let v2 ← eval (.JoinedStr (e1 :: e2 :: es) p2) env
          let rest ← holding [v2] (pure [])
          pure (v2 :: rest))
        pure (v :: rest)) _ s₁
      refine W.tok fun ht => W.bind (W.of_any (wpAny_mkText (W.bind (W.holding (W.bind ?_)))))
      have X2 : Ext s₁ { s₁ with toks := s₁.toks + 1 } := Ext.toks _
      show W _ _ A (joinParts Str.empty (evalEach (e1 :: e2 :: es) env)) _ _
      refine W.mono (hg A env P O vm { s₁ with toks := s₁.toks + 1 } ρ [] z (s₁.toks + 1) hA (Fr.ext (X1.trans X2)) hz (fun _ hm => nomatch hm) (by show z.length ≤ _; omega) (Nat.le_refl _)) fun v2 s₂ ⟨X3, t2, e2, ht2, hcz, hlz⟩ => ?_
      subst e2
      refine W.bind (W.holding (W.pure (W.pure (W.pure ⟨.inr (fun a e => by cases e), ?_⟩))))
      refine W.of_any (SC.replace (x := ⟨l.toArray⟩) (by show s₁.toks ≠ 0; omega) (by show t2 ≠ 0; omega) (by show s₁.toks ≠ t2; omega) ?_ ?_ fun t' k => ⟨X1.trans (X2.trans (X3.trans (Ext.toks _))), ?_⟩)
      · rw [beq_eq_false_iff_ne]
        intro e
        apply hz3
        have := congrArg (fun s : Str => s.cps.toList) e
        simpa using this
      · show (⟨l.toArray⟩ : Str).length + ((⟨l.toArray⟩ : Str).length + 1) * (⟨z.toArray⟩ : Str).length ≤ _
        rw [str_len, str_len]
        have : (l.length + 1) * z.length ≤ (100000 + 1) * 100 := Nat.mul_le_mul (by omega) hz2
        omega
      · show Rd _ _ _ (.str (replD l y z)) (.str (Txt.replace ⟨l.toArray⟩ ⟨y.toArray⟩ ⟨z.toArray⟩) t')
        rw [str_eta (Txt.replace _ _ _)]
        exact rd_str (l := replD l y z) (fun c hc => (replD_mem hc).elim (hc1 c) fun hc => hcz c hc) hl2
    · cases h
  · cases h
end
end Mine

end
section
open PySem PySem.W PySem.Calls PyProof.Rows
set_option Elab.async false
set_option maxRecDepth 100000
set_option linter.unusedSimpArgs false
namespace Mine

/-! closeAt of longer texts -/
/-! the pieces have signs, and not too many -/
theorem parse_ne : ∀ (f : Nat) (r : List Nat), ∀ x ∈ parse f r, x.1 ≠ []
  | 0, _, x, h => by simp [parse] at h
  | _ + 1, [], x, h => by simp [parse] at h
  | f + 1, c :: r, x, h => by
    unfold parse at h
    split at h
    · rcases List.mem_cons.mp h with rfl | h
      · simp
      · exact parse_ne f _ x h
    · split at h
      · rcases List.mem_cons.mp h with rfl | h
        · simp
        · exact parse_ne f _ x h
      · split at h
        · exact parse_ne f _ x h
        · simp at h; rw [h]; simp
theorem parse_size : ∀ (f : Nat) (r : List Nat), ((parse f r).map fun x => x.1.length).sum ≤ r.length
  | 0, _ => by simp [parse]
  | _ + 1, [] => by simp [parse]
  | f + 1, c :: r => by
    unfold parse
    split
    · have h1 := parse_size f (r.dropWhile (· != 91))
      have h2 := tw_len (p := (· != 91)) r
      simp only [List.map_cons, List.sum_cons, List.length_cons]; omega
    · split
      · rename_i k hk
        have h1 := parse_size f (r.drop (k + 1))
        have h2 := closeAt_lt r k hk
        rw [List.length_drop] at h1
        simp only [List.map_cons, List.sum_cons, List.length_cons, List.length_take]; omega
      · split
        · have := parse_size f r
          simp only [List.length_cons]; omega
        · simp


/-! a text's runs, each [ left out -/
/-! a text's last piece -/
/-! the pieces' forms -/
/-! a ] behind an open end -/
end Mine

end
section
open PySem PySem.W PySem.Calls PyProof.Rows
set_option Elab.async false
set_option maxRecDepth 100000
set_option maxHeartbeats 4000000
namespace Mine

noncomputable def pescape : Rho → Option (Out × Rho) := seqS (ifS (truB (isiE (vE 0))) (seqS (retS (transE (vE 0))) (skS)) (fun _ => none)) (skS)
noncomputable def preplace : Rho → Option (Out × Rho) := seqS (retS (orE (methE isMatD groupF (vE 1) (consF (cE (.str [115, 101, 116])) (nilF))) (replE [92, 63] [91, 94, 47, 93] (replV [92, 42] (replE [92, 42, 92, 42] [46, 42] (callE (runF 1 0 pescape) (consF (methE isMatD groupF (vE 1) (consF (cE (.int 0)) (nilF))) (nilF)))) (catE (cE (.str [91, 94])) (catE (strOnly (callE (runF 1 0 pescape) (consF (sepsE (vE 0)) (nilF)))) (catE (cE (.str [93, 42])) (endE)))))))) (skS)
noncomputable def p_law_back : Rho → Option (Out × Rho) := seqS (setS (nameA 2) (callE listSF (consF (cE (.str [40, 41, 91, 93, 123, 125, 43, 45, 124, 94, 36, 92, 46, 38, 126, 35, 32, 9, 10, 13, 11, 12])) (nilF)))) (seqS (ownS 3 (listL (nilF))) (seqS (setS (nameA 4) (cE (.int 0))) (seqS (whileS (cmpB opLt (vE 4) (callE lenF (consF (vE 0) (nilF)))) (seqS (setS (nameA 5) (cE (.int 1))) (seqS (setS (nameA 6) (itemE (vE 0) (vE 4))) (seqS (ifS (cmpB opEq (cutE (vE 0) (intP (vE 4)) (intP (binE opAdd (vE 4) (cE (.int 2))))) (cE (.str [46, 42]))) (seqS (setS (nameA 5) (cE (.int 2))) (seqS (setS (nameA 6) (cE (.str [42, 42]))) (skS))) (seqS (ifS (cmpB opEq (cutE (vE 0) (intP (vE 4)) (intP (binE opAdd (vE 4) (callE lenF (consF (vE 1) (nilF)))))) (vE 1)) (seqS (setS (nameA 5) (callE lenF (consF (vE 1) (nilF)))) (seqS (setS (nameA 6) (cE (.str [42]))) (skS))) (seqS (ifS (cmpB opEq (cutE (vE 0) (intP (vE 4)) (intP (binE opAdd (vE 4) (cE (.int 4))))) (cE (.str [91, 94, 47, 93]))) (seqS (setS (nameA 5) (cE (.int 4))) (seqS (setS (nameA 6) (cE (.str [63]))) (skS))) (seqS (ifS (andB (cmpB opEq (vE 6) (cE (.str [92]))) (cmpB opIn (cutE (vE 0) (intP (binE opAdd (vE 4) (cE (.int 1)))) (intP (binE opAdd (vE 4) (cE (.int 2))))) (vE 2))) (seqS (setS (nameA 5) (cE (.int 2))) (seqS (setS (nameA 6) (itemE (vE 0) (binE opAdd (vE 4) (cE (.int 1))))) (skS))) (seqS (ifS (orB (cmpB opIn (vE 6) (vE 2)) (cmpB opIn (vE 6) (listE (consF (cE (.str [42])) (consF (cE (.str [63])) (nilF)))))) (seqS (retS (cE .none)) (skS)) (skS)) (skS))) (skS))) (skS))) (skS))) (seqS (ifS (andB (peekE 3 (cmpB opEq (cutE (vE 3) (intP (negE (cE (.int 1)))) (noP)) (listE (consF (cE (.str [42])) (nilF))))) (cmpB opIn (vE 6) (listE (consF (cE (.str [42])) (consF (cE (.str [42, 42])) (nilF)))))) (seqS (retS (cE .none)) (skS)) (skS)) (seqS (appS 3 (vE 6)) (seqS (augS 4 opIAdd (vE 5)) (skS))))))) 20000000) (frzS 3 (seqS (retS (methE isStrD joinF (cE (.str [])) (consF (vE 3) (nilF)))) (skS))))))
noncomputable def plaw : Rho → Option (Out × Rho) := seqS (setS (nameA 1) (methE isStrD joinF (cE (.str [])) (consF (listF (compF ["x"] (itE asList (vE 0)) (nameA 6) (tt) (emE (ifE (cmpB opLt (binE opMod (vE 6) (cE (.int 16))) (cE (.int 12))) (itemE (cE (.str [42, 42, 63, 63, 47, 91, 91, 93, 10, 92, 97, 46])) (binE opMod (vE 6) (cE (.int 16)))) (callE chrF (consF (binE opMod (binE opDiv (vE 6) (cE (.int 16))) (cE (.int 1114112))) (nilF))))))) (nilF)))) (seqS (setS (nameA 2) (binE opMulS (cE (.str [47])) (binE opAdd (cE (.int 1)) (binE opMod (callE sumF (consF (vE 0) (nilF))) (cE (.int 3)))))) (seqS (forS (itE asList (listE (consF (vE 1) (consF (binE opAdd (cE (.str [42, 42, 42, 91, 42, 63, 93])) (vE 1)) (nilF))))) (nameA 3) (seqS (forS (itE asPieces (vE 3)) (nameA 4) (seqS (setS (nameA 5) (methE isInstD (runF 2 0 preplace) (callE makeF (consF (vE 2) (nilF))) (consF (vE 4) (nilF)))) (seqS (ifS (cmpB opIs (methE isMatD groupF (vE 4) (consF (cE (.str [115, 101, 116])) (nilF))) (cE .none)) (seqS (setS (nameA 5) (callE (runF 2 5 p_law_back) (consF (vE 5) (consF (binE opAdd (binE opAdd (cE (.str [91, 94])) (vE 2)) (cE (.str [93, 42]))) (nilF))))) (skS)) (skS)) (seqS (ifS (cmpB opNe (vE 5) (methE isMatD groupF (vE 4) (consF (cE (.int 0)) (nilF)))) (seqS (retS (cE (.bool false))) (skS)) (skS)) (skS))))) (skS))) (seqS (retS (cE (.bool true))) (skS))))
end Mine

end
section
open PySem PySem.W PySem.Calls PyProof.Rows
set_option Elab.async false
set_option maxRecDepth 100000
set_option linter.unusedSimpArgs false
namespace Mine

/-! what replace gives, as a relation -/
inductive Rep (y z : List Nat) : List Nat → List Nat → Prop
  | nil : Rep y z [] []
  | hit {l r r' : List Nat} (e : l = y ++ r) (h : Rep y z r r') : Rep y z l (z ++ r')
  | skip {c : Nat} {r r' : List Nat} (n : ¬ y <+: c :: r) (h : Rep y z r r') : Rep y z (c :: r) (c :: r')
theorem Rep.det {y z : List Nat} (hy : y ≠ []) {l r1 : List Nat} (h : Rep y z l r1) : ∀ {r2 : List Nat}, Rep y z l r2 → r1 = r2 := by
  induction h with
  | nil =>
    intro r2 h2
    cases h2 with
    | nil => rfl
    | hit e h => exact absurd (List.append_eq_nil_iff.mp e.symm).1 hy
  | hit e h ih =>
    intro r2 h2
    cases h2 with
    | nil => exact absurd (List.append_eq_nil_iff.mp e.symm).1 hy
    | hit e' h' =>
      have := List.append_cancel_left (e.symm.trans e')
      subst this
      rw [ih h']
    | skip n h' => exact absurd ⟨_, e.symm⟩ n
  | skip n h ih =>
    intro r2 h2
    cases h2 with
    | hit e' h' => exact absurd ⟨_, e'.symm⟩ n
    | skip n' h' => rw [ih h']
theorem Rep.skips {y z R R' : List Nat} (h : Rep y z R R') : ∀ t : List Nat, (∀ k, k < t.length → ¬ y <+: (t ++ R).drop k) → Rep y z (t ++ R) (t ++ R')
  | [], _ => h
  | c :: t, n => .skip (n 0 (by simp)) (Rep.skips h t fun k hk => n (k + 1) (by simp; omega))

theorem at_iff (l y : List Nat) (i : Nat) (hi : i ≤ l.length) : StrLaws.At ⟨l.toArray⟩ ⟨y.toArray⟩ (⟨l.toArray⟩ : Str).length i ↔ y <+: l.drop i := by
  unfold StrLaws.At
  rw [StrLaws.subAt_eq, str_len, str_len]
  simp only [List.toList_toArray, beq_iff_eq]
  constructor
  · rintro ⟨_, e⟩
    rw [← e]; exact List.take_prefix _ _
  · intro h
    have hl := h.length_le
    rw [List.length_drop] at hl
    refine ⟨by omega, ?_⟩
    exact (List.prefix_iff_eq_take.mp h).symm
noncomputable def gl (z : List Nat) : List (List Nat) → List Nat
  | [] => []
  | p :: r => p ++ r.flatMap (z ++ ·)
theorem rep_parts {l y z : List Nat} (hy : y ≠ []) : ∀ (cuts : List Nat) (a f : Nat), a ≤ l.length → StrLaws.ChainG ⟨l.toArray⟩ ⟨y.toArray⟩ (⟨l.toArray⟩ : Str).length a cuts f → (∀ k, f ≤ k → ¬ StrLaws.At ⟨l.toArray⟩ ⟨y.toArray⟩ (⟨l.toArray⟩ : Str).length k) →
    Rep y z (l.drop a) (gl z ((StrLaws.partsFrom ⟨l.toArray⟩ y.length a cuts).map (·.cps.toList)))
  | [], a, f, ha, h, hn => by
    have e : f = a := h
    subst e
    rw [StrLaws.partsFrom, sub_at, str_len, List.take_of_length_le (by rw [List.length_drop]; exact Nat.le_refl _)]
    have := Rep.skips (y := y) (z := z) .nil (l.drop f) fun k hk hp => by
      rw [List.append_nil, List.drop_drop] at hp
      rw [List.length_drop] at hk
      exact hn (f + k) (by omega) ((at_iff l y _ (by omega)).mpr hp)
    simpa [gl] using this
  | d :: r, a, f, ha, h, hn => by
    obtain ⟨h1, h2, h3, h4⟩ := h
    have hdl : d + y.length ≤ l.length := by have := h2.1; rw [str_len, str_len] at this; exact this
    have hd := (at_iff l y d (by omega)).mp h2
    rw [str_len] at h4
    have ih := rep_parts (z := z) hy r (d + y.length) f hdl h4 hn
    obtain ⟨t, ht⟩ := hd
    have htd : t = l.drop (d + y.length) := by
      rw [← List.drop_drop, ← ht]; simp
    have e : l.drop a = (l.drop a).take (d - a) ++ (y ++ l.drop (d + y.length)) := by
      have e1 : l.drop a = (l.drop a).take (d - a) ++ (l.drop a).drop (d - a) := (List.take_append_drop _ _).symm
      rw [List.drop_drop, show a + (d - a) = d by omega, ← ht, htd] at e1
      exact e1
    have hlen : ((l.drop a).take (d - a)).length = d - a := by rw [List.length_take, List.length_drop]; omega
    have hr := Rep.skips (Rep.hit (z := z) rfl ih) ((l.drop a).take (d - a)) fun k hk hp => by
      rw [← e, List.drop_drop] at hp
      rw [hlen] at hk
      exact h3 (a + k) (by omega) (by omega) ((at_iff l y _ (by omega)).mpr hp)
    rw [← e] at hr
    obtain ⟨p, q, hpq⟩ := StrLaws.partsFrom_ne ⟨l.toArray⟩ y.length (d + y.length) r
    rw [StrLaws.partsFrom, sub_at, hpq]
    rw [hpq] at hr
    simpa [gl, List.append_assoc] using hr
theorem glued_gl (z : List Nat) : ∀ (ps : List Str) (acc : Array Nat), (ps.foldl (fun acc p => acc ++ z.toArray ++ p.cps) acc).toList = acc.toList ++ (ps.map (·.cps.toList)).flatMap (z ++ ·)
  | [], acc => by simp
  | p :: ps, acc => by rw [List.foldl_cons, glued_gl z ps]; simp [List.append_assoc]
theorem rep_replD {l y z : List Nat} (hy : y ≠ []) : Rep y z l (replD l y z) := by
  have hw : 1 ≤ (⟨y.toArray⟩ : Str).length := by rw [str_len]; exact List.length_pos_iff.mpr hy
  obtain ⟨f, hc, hn⟩ := StrLaws.occ_tight ⟨l.toArray⟩ ⟨y.toArray⟩ hw
  have hp := rep_parts (z := z) hy _ 0 f (Nat.zero_le _) hc hn
  rw [List.drop_zero] at hp
  unfold replD Txt.replace
  split
  · rename_i he
    have h0 : ((⟨y.toArray⟩ : Str).length == 0) = false := by simp only [beq_eq_false_iff_ne]; omega
    rw [h0, Bool.false_and, Bool.or_false, List.isEmpty_iff] at he
    rw [he] at hp
    have : StrLaws.partsFrom ⟨l.toArray⟩ y.length 0 [] = [⟨l.toArray⟩] := by
      rw [StrLaws.partsFrom, sub_at, str_len]; simp
    rw [this] at hp
    simpa [gl] using hp
  · rw [StrLaws.partsBetween_eq]
    rw [str_len y]
    obtain ⟨p, q, hpq⟩ := StrLaws.partsFrom_ne ⟨l.toArray⟩ y.length 0 (Builtin.Str.occurrences ⟨l.toArray⟩ ⟨y.toArray⟩ 0 (⟨l.toArray⟩ : Str).length ((⟨l.toArray⟩ : Str).length + 1))
    rw [hpq] at hp ⊢
    show Rep y z l ((q.foldl (fun acc p => acc ++ z.toArray ++ p.cps) p.cps).toList)
    rw [glued_gl]
    simpa [gl] using hp
theorem replD_is {l y z r : List Nat} (hy : y ≠ []) (h : Rep y z l r) : replD l y z = r := (rep_replD hy).det hy h

/-! the signs of a piece, as replace takes them -/
inductive Tk where
  | two
  | one
  | qm
  | sg (c : Nat)
noncomputable def tk : List Nat → List Tk
  | [] => []
  | c :: r => if c = 42 then (match r with
      | [] => [.one]
      | d :: r' => if d = 42 then .two :: tk r' else .one :: tk (d :: r'))
    else (if c = 63 then .qm else .sg c) :: tk r
noncomputable def txt : Tk → List Nat
  | .two => [42, 42]
  | .one => [42]
  | .qm => [63]
  | .sg c => [c]
noncomputable def img (a b q : List Nat) : Tk → List Nat
  | .two => a
  | .one => b
  | .qm => q
  | .sg c => escC c
noncomputable def starT : List Tk → Bool
  | .two :: _ => true
  | .one :: _ => true
  | _ => false
noncomputable def Good : List Tk → Prop
  | [] => True
  | .two :: r => Good r
  | .one :: r => starT r = false ∧ Good r
  | .qm :: r => Good r
  | .sg c :: r => c ≠ 42 ∧ c ≠ 63 ∧ Good r
theorem tk_txt : ∀ (n : Nat) (l : List Nat), l.length ≤ n → (tk l).flatMap txt = l ∧ Good (tk l) ∧ ((tk l).flatMap (img [92, 42, 92, 42] [92, 42] [92, 63]) = l.flatMap escC) ∧ (∀ c r, l = c :: r → c ≠ 42 → starT (tk l) = false)
  | 0, l, h => by
    have : l = [] := List.length_eq_zero_iff.mp (by omega)
    subst this
    exact ⟨rfl, trivial, rfl, fun c r e => by cases e⟩
  | n + 1, [], h => ⟨rfl, trivial, rfl, fun c r e => by cases e⟩
  | n + 1, c :: r, h => by
    by_cases hc : c = 42
    · subst hc
      match r, h with
      | [], _ => exact ⟨rfl, ⟨rfl, trivial⟩, rfl, fun c r e hc => by cases e; exact absurd rfl hc⟩
      | d :: r', h =>
        by_cases hd : d = 42
        · subst hd
          obtain ⟨i1, i2, i3, _⟩ := tk_txt n r' (by simp at h; omega)
          have e : tk (42 :: 42 :: r') = .two :: tk r' := by rw [tk]; simp
          rw [e]
          refine ⟨by rw [List.flatMap_cons, i1]; rfl, i2, by rw [List.flatMap_cons, i3]; rfl, fun c r e hc => by cases e; exact absurd rfl hc⟩
        · obtain ⟨i1, i2, i3, i4⟩ := tk_txt n (d :: r') (by simp at h ⊢; omega)
          have e : tk (42 :: d :: r') = .one :: tk (d :: r') := by rw [tk]; simp [hd]
          rw [e]
          refine ⟨by rw [List.flatMap_cons, i1]; rfl, ⟨i4 d r' rfl hd, i2⟩, by rw [List.flatMap_cons, i3]; rfl, fun c r e hc => by cases e; exact absurd rfl hc⟩
    · obtain ⟨i1, i2, i3, _⟩ := tk_txt n r (by simp at h; omega)
      by_cases hq : c = 63
      · subst hq
        have e : tk (63 :: r) = .qm :: tk r := by rw [tk.eq_def]; simp
        rw [e]
        exact ⟨by rw [List.flatMap_cons, i1]; rfl, i2, by rw [List.flatMap_cons, i3]; rfl, fun _ _ _ _ => rfl⟩
      · have e : tk (c :: r) = .sg c :: tk r := by rw [tk.eq_def]; simp [hc, hq]
        rw [e]
        exact ⟨by rw [List.flatMap_cons, i1]; rfl, ⟨hc, hq, i2⟩, by rw [List.flatMap_cons, i3]; rfl, fun _ _ _ _ => rfl⟩

noncomputable def hdOk (l : List Nat) : Prop := ∀ x, l.head? = some x → x ≠ 42 ∧ x ≠ 63
theorem hd_app {a b : List Nat} (ha : a ≠ []) (h : hdOk a) : hdOk (a ++ b) := by
  cases a with
  | nil => exact absurd rfl ha
  | cons x a => exact fun y hy => h y hy
theorem esc_hd {c : Nat} (h1 : c ≠ 42) (h2 : c ≠ 63) : hdOk (escC c) := by
  intro x hx
  unfold escC at hx
  split at hx <;> simp at hx <;> omega
theorem esc_ne (c : Nat) : escC c ≠ [] := by unfold escC; split <;> simp
theorem img_hd {a b q : List Nat} (ha : a ≠ []) (hb : b ≠ []) (hq : q ≠ []) (ha' : hdOk a) (hb' : hdOk b) (hq' : hdOk q) : ∀ ts, Good ts → hdOk (ts.flatMap (img a b q))
  | [], _ => fun x hx => by simp at hx
  | .two :: r, _ => by rw [List.flatMap_cons]; exact hd_app ha ha'
  | .one :: r, _ => by rw [List.flatMap_cons]; exact hd_app hb hb'
  | .qm :: r, _ => by rw [List.flatMap_cons]; exact hd_app hq hq'
  | .sg c :: r, h => by rw [List.flatMap_cons]; exact hd_app (esc_ne c) (esc_hd h.1 h.2.1)
theorem no_free {y t R : List Nat} (h : 92 ∉ t) : ∀ k, k < t.length → ¬ (92 :: y) <+: (t ++ R).drop k := by
  intro k hk ⟨u, hu⟩
  apply h
  have e : (t ++ R)[k]? = some 92 := by
    have := congrArg (fun l : List Nat => l.head?) hu
    simp only [List.cons_append, List.head?_cons, List.head?_drop] at this
    exact this.symm
  rw [List.getElem?_append_left hk] at e
  exact List.mem_of_getElem? e
theorem no_esc {c d : Nat} {y R : List Nat} (h1 : c ≠ d) (h2 : R.head? ≠ some d) : ∀ k, k < (escC c).length → ¬ (92 :: d :: y) <+: (escC c ++ R).drop k := by
  intro k hk
  unfold escC at hk ⊢
  split at hk
  · rename_i hs
    rw [if_pos hs]
    match k, hk with
    | 0, _ =>
      rintro ⟨u, hu⟩
      simp at hu
      exact h1 hu.1.symm
    | 1, _ =>
      rintro ⟨u, hu⟩
      cases R with
      | nil => simp at hu
      | cons x R => simp at hu; exact h2 (by simp [hu.2.1])
  · rename_i hs
    rw [if_neg hs]
    refine no_free ?_ k hk
    simp
    rintro rfl
    exact hs (by decide)
theorem esc_qm : escC 63 = [92, 63] := by decide
theorem step1 : ∀ ts, Good ts → Rep [92, 42, 92, 42] [46, 42] (ts.flatMap (img [92, 42, 92, 42] [92, 42] [92, 63])) (ts.flatMap (img [46, 42] [92, 42] [92, 63]))
  | [], _ => .nil
  | .two :: r, h => .hit rfl (step1 r h)
  | .one :: r, h => by
    rw [List.flatMap_cons, List.flatMap_cons]
    refine Rep.skips (step1 r h.2) [92, 42] fun k hk => ?_
    match k, hk with
    | 0, _ =>
      rintro ⟨u, hu⟩
      have h3 : [92, 42] ++ u = r.flatMap (img [92, 42, 92, 42] [92, 42] [92, 63]) := by simpa using hu
      match r, h.1, h.2, h3 with
      | [], _, _, h3 => simp at h3
      | .qm :: r, _, _, h3 => rw [List.flatMap_cons] at h3; simp [img] at h3
      | .sg c :: r, _, hg, h3 =>
        rw [List.flatMap_cons] at h3
        have h4 : [92, 42] ++ u = escC c ++ r.flatMap (img [92, 42, 92, 42] [92, 42] [92, 63]) := h3
        unfold escC at h4
        split at h4
        · simp at h4; exact hg.1 h4.1.symm
        · rename_i hs; simp at h4; exact hs (h4.1 ▸ by decide)
    | 1, _ =>
      rintro ⟨u, hu⟩
      simp at hu
  | .qm :: r, h => by
    rw [List.flatMap_cons, List.flatMap_cons]
    have hh := img_hd (a := [92, 42, 92, 42]) (b := [92, 42]) (q := [92, 63]) (by simp) (by simp) (by simp) (by intro x hx; simp at hx; omega) (by intro x hx; simp at hx; omega) (by intro x hx; simp at hx; omega) r h
    have := Rep.skips (step1 r h) (escC 63) (no_esc (d := 42) (by decide) fun e => (hh _ e).1 rfl)
    rw [esc_qm] at this
    exact this
  | .sg c :: r, h => by
    rw [List.flatMap_cons, List.flatMap_cons]
    have hh := img_hd (a := [92, 42, 92, 42]) (b := [92, 42]) (q := [92, 63]) (by simp) (by simp) (by simp) (by intro x hx; simp at hx; omega) (by intro x hx; simp at hx; omega) (by intro x hx; simp at hx; omega) r h.2.2
    exact Rep.skips (step1 r h.2.2) (escC c) (no_esc (d := 42) h.1 fun e => (hh _ e).1 rfl)
theorem step2 (b : List Nat) : ∀ ts, Good ts → Rep [92, 42] b (ts.flatMap (img [46, 42] [92, 42] [92, 63])) (ts.flatMap (img [46, 42] b [92, 63]))
  | [], _ => .nil
  | .two :: r, h => by
    rw [List.flatMap_cons, List.flatMap_cons]
    exact Rep.skips (step2 b r h) [46, 42] (no_free (by decide))
  | .one :: r, h => .hit rfl (step2 b r h.2)
  | .qm :: r, h => by
    rw [List.flatMap_cons, List.flatMap_cons]
    have hh := img_hd (a := [46, 42]) (b := [92, 42]) (q := [92, 63]) (by simp) (by simp) (by simp) (by intro x hx; simp at hx; omega) (by intro x hx; simp at hx; omega) (by intro x hx; simp at hx; omega) r h
    have := Rep.skips (step2 b r h) (escC 63) (no_esc (d := 42) (by decide) fun e => (hh _ e).1 rfl)
    rw [esc_qm] at this
    exact this
  | .sg c :: r, h => by
    rw [List.flatMap_cons, List.flatMap_cons]
    have hh := img_hd (a := [46, 42]) (b := [92, 42]) (q := [92, 63]) (by simp) (by simp) (by simp) (by intro x hx; simp at hx; omega) (by intro x hx; simp at hx; omega) (by intro x hx; simp at hx; omega) r h.2.2
    exact Rep.skips (step2 b r h.2.2) (escC c) (no_esc (d := 42) h.1 fun e => (hh _ e).1 rfl)
theorem step3 {b : List Nat} (hb : b ≠ []) (hb' : hdOk b) (hb2 : 92 ∉ b) : ∀ ts, Good ts → Rep [92, 63] [91, 94, 47, 93] (ts.flatMap (img [46, 42] b [92, 63])) (ts.flatMap (img [46, 42] b [91, 94, 47, 93]))
  | [], _ => .nil
  | .two :: r, h => by
    rw [List.flatMap_cons, List.flatMap_cons]
    exact Rep.skips (step3 hb hb' hb2 r h) [46, 42] (no_free (by decide))
  | .one :: r, h => by
    rw [List.flatMap_cons, List.flatMap_cons]
    exact Rep.skips (step3 hb hb' hb2 r h.2) b (no_free hb2)
  | .qm :: r, h => .hit rfl (step3 hb hb' hb2 r h)
  | .sg c :: r, h => by
    rw [List.flatMap_cons, List.flatMap_cons]
    have hh := img_hd (a := [46, 42]) (b := b) (q := [92, 63]) (by simp) hb (by simp) (by intro x hx; simp at hx; omega) hb' (by intro x hx; simp at hx; omega) r h.2.2
    exact Rep.skips (step3 hb hb' hb2 r h.2.2) (escC c) (no_esc (d := 63) h.2.1 fun e => (hh _ e).2 rfl)
end Mine

end
section
open PySem PySem.W PySem.Calls PyProof.Rows
set_option Elab.async false
set_option maxRecDepth 100000
set_option linter.unusedSimpArgs false
namespace Mine

theorem appS_of {i : Nat} {f : Rho → Option D} {ρ ρ' : Rho} {xs : List D} {d : D} (h1 : ρ[i]? = some (.own xs)) (h2 : f ρ = some d) (h3 : xs.length < 10000000) (h4 : ρ.set i (.own (xs ++ [d])) = ρ') : appS i f ρ = some (.next, ρ') := by
  rw [appS, h1]; simp only [h2, Option.bind_some, if_pos h3, h4]
theorem ownS_of {i : Nat} {f : Rho → Option (List D)} {ρ ρ' : Rho} {xs : List D} (h1 : f ρ = some xs) (h2 : ρ.set i (.own xs) = ρ') : ownS i f ρ = some (.next, ρ') := by
  rw [ownS, h1, Option.map_some, h2]
theorem whileS_t {t : Rho → Option Bool} {f : Rho → Option (Out × Rho)} {n : Nat} {ρ ρ1 : Rho} (h1 : t ρ = some true) (h2 : f ρ = some (.next, ρ1)) : whileS t f (n + 1) ρ = whileS t f n ρ1 := by rw [whileS, h1, Option.bind_some, if_pos rfl, h2]; rfl
theorem whileS_f {t : Rho → Option Bool} {f : Rho → Option (Out × Rho)} {n : Nat} {ρ : Rho} (h1 : t ρ = some false) : whileS t f (n + 1) ρ = some (.next, ρ) := by rw [whileS, h1, Option.bind_some, if_neg (by decide)]
theorem cut_any {α : Type} (l : List α) (i j : Nat) : cut l (some (i : Int)) (some (j : Int)) = (l.drop i).take (j - i) := by
  rcases Nat.lt_or_ge l.length i with h | h
  · rw [List.drop_eq_nil_of_le (Nat.le_of_lt h), List.take_nil]
    unfold cut
    simp only [Option.elim, clip_nat]
    rw [Nat.min_eq_right (Nat.le_of_lt h), List.drop_length, List.take_nil]
  · exact cut_both l i j h
theorem cut2_of {ρ : Rho} {f g h : Rho → Option D} {l : List Nat} {i j : Nat} (h1 : f ρ = some (.str l)) (h2 : g ρ = some (.int (i : Nat))) (h3 : h ρ = some (.int (j : Nat))) : cutE f (intP g) (intP h) ρ = some (.str ((l.drop i).take (j - i))) := by
  simp [cutE, intP, h1, h2, h3, opCut, cut_any]
theorem pure_strs : ∀ ls : List (List Nat), pureDs (ls.map D.str) = true
  | [] => rfl
  | l :: ls => by rw [List.map_cons, pureDs, pure_strs ls]; rfl
theorem in_flat (s : List Nat) (xs : List D) : opIn (.str s) (.list xs) = if flatD (.str s) && pureDs xs then some (xs.any fun y => deq y (.str s)) else none := by
  cases s with
  | nil => rfl
  | cons y ys => cases ys <;> rfl
theorem any_strs (s : List Nat) : ∀ ls : List (List Nat), (ls.map D.str).any (fun y => deq y (.str s)) = decide (s ∈ ls)
  | [] => by simp
  | l :: ls => by
    rw [List.map_cons, List.any_cons, any_strs s ls, deq_str, Bool.eq_iff_iff, Bool.or_eq_true, decide_eq_true_iff, decide_eq_true_iff, decide_eq_true_iff, List.mem_cons]
    exact ⟨fun h => h.imp_left Eq.symm, fun h => h.imp_left Eq.symm⟩
theorem in_strs (s : List Nat) (ls : List (List Nat)) : opIn (.str s) (.list (ls.map .str)) = some (decide (s ∈ ls)) := by
  rw [in_flat, flat_str, pure_strs, any_strs]; rfl
noncomputable def knownL : List Nat := [40, 41, 91, 93, 123, 125, 43, 45, 124, 94, 36, 92, 46, 38, 126, 35, 32, 9, 10, 13, 11, 12]
noncomputable def KD : D := .list ((knownL.map fun c => [c]).map .str)
theorem in_known (s : List Nat) : opIn (.str s) KD = some (decide (s ∈ knownL.map fun c => [c])) := in_strs _ _
theorem known_spc {c : Nat} (h : c ∈ spc) (h1 : c ≠ 42) (h2 : c ≠ 63) : c ∈ knownL := by
  have a : (spc.all fun c => c == 42 || c == 63 || knownL.contains c) = true := by decide
  have b := List.all_eq_true.mp a c h
  rw [beq_false_of_ne h1, beq_false_of_ne h2, Bool.false_or, Bool.false_or] at b
  exact List.contains_iff_mem.mp b
theorem spc_known {c : Nat} (h : c ∈ knownL) : c ∈ spc := by
  have a : (knownL.all fun c => spc.contains c) = true := by decide
  exact List.contains_iff_mem.mp (List.all_eq_true.mp a c h)

/-! the reader's parts -/
noncomputable def cond09 : Rho → Option Bool := cmpB opLt (vE 4) (callE lenF (consF (vE 0) (nilF)))
noncomputable def ret09 : Rho → Option (Out × Rho) := seqS (retS (cE .none)) (skS)
noncomputable def e5 : Rho → Option (Out × Rho) := seqS (ifS (orB (cmpB opIn (vE 6) (vE 2)) (cmpB opIn (vE 6) (listE (consF (cE (.str [42])) (consF (cE (.str [63])) (nilF)))))) ret09 (skS)) (skS)
noncomputable def e4 : Rho → Option (Out × Rho) := seqS (ifS (andB (cmpB opEq (vE 6) (cE (.str [92]))) (cmpB opIn (cutE (vE 0) (intP (binE opAdd (vE 4) (cE (.int 1)))) (intP (binE opAdd (vE 4) (cE (.int 2))))) (vE 2))) (seqS (setS (nameA 5) (cE (.int 2))) (seqS (setS (nameA 6) (itemE (vE 0) (binE opAdd (vE 4) (cE (.int 1))))) (skS))) e5) (skS)
noncomputable def e3 : Rho → Option (Out × Rho) := seqS (ifS (cmpB opEq (cutE (vE 0) (intP (vE 4)) (intP (binE opAdd (vE 4) (cE (.int 4))))) (cE (.str [91, 94, 47, 93]))) (seqS (setS (nameA 5) (cE (.int 4))) (seqS (setS (nameA 6) (cE (.str [63]))) (skS))) e4) (skS)
noncomputable def e2 : Rho → Option (Out × Rho) := seqS (ifS (cmpB opEq (cutE (vE 0) (intP (vE 4)) (intP (binE opAdd (vE 4) (callE lenF (consF (vE 1) (nilF)))))) (vE 1)) (seqS (setS (nameA 5) (callE lenF (consF (vE 1) (nilF)))) (seqS (setS (nameA 6) (cE (.str [42]))) (skS))) e3) (skS)
noncomputable def e1 : Rho → Option (Out × Rho) := ifS (cmpB opEq (cutE (vE 0) (intP (vE 4)) (intP (binE opAdd (vE 4) (cE (.int 2))))) (cE (.str [46, 42]))) (seqS (setS (nameA 5) (cE (.int 2))) (seqS (setS (nameA 6) (cE (.str [42, 42]))) (skS))) e2
noncomputable def tl09 : Rho → Option (Out × Rho) := seqS (ifS (andB (peekE 3 (cmpB opEq (cutE (vE 3) (intP (negE (cE (.int 1)))) (noP)) (listE (consF (cE (.str [42])) (nilF))))) (cmpB opIn (vE 6) (listE (consF (cE (.str [42])) (consF (cE (.str [42, 42])) (nilF)))))) ret09 (skS)) (seqS (appS 3 (vE 6)) (seqS (augS 4 opIAdd (vE 5)) (skS)))
noncomputable def body09 : Rho → Option (Out × Rho) := seqS (setS (nameA 5) (cE (.int 1))) (seqS (setS (nameA 6) (itemE (vE 0) (vE 4))) (seqS e1 tl09))
theorem back_is : p_law_back = seqS (setS (nameA 2) (callE listSF (consF (cE (.str knownL)) (nilF)))) (seqS (ownS 3 (listL (nilF))) (seqS (setS (nameA 4) (cE (.int 0))) (seqS (whileS cond09 body09 20000000) (frzS 3 (seqS (retS (methE isStrD joinF (cE (.str [])) (consF (vE 3) (nilF)))) (skS)))))) := rfl
noncomputable abbrev rh (m b : List Nat) (xs : List (List Nat)) (i : Nat) (s5 s6 : Slot) : Rho := [.val (.str m), .val (.str b), .val KD, .own (xs.map .str), .val (.int (i : Nat)), s5, s6]

/-! the last of back -/
theorem cut_last {α : Type} (xs : List α) (x : α) : cut (xs ++ [x]) (some (-1)) none = [x] := by
  unfold cut
  have : clipAt (xs ++ [x]).length (-1) = xs.length := by
    unfold clipAt
    simp
    omega
  simp only [Option.elim, this]
  simp
theorem eq_ones (s t : List Nat) : opEq (.list [.str s]) (.list [.str t]) = some (decide (s = t)) := by
  have h0 : ∀ s, flatD (.list [.str s]) = true := fun s => by simp [flatD, pureD, pureDs, toPy, toPys, PyData.depth, PyData.depthAll]
  rw [opEq, h0, h0]
  have := deq_str s t
  simp only [deq, toPy, toPys, PyData.eqv, PyData.eqvAll] at this ⊢
  simp [this]
theorem eq_nil_one (t : List Nat) : opEq (.list []) (.list [.str t]) = some false := by
  have h0 : ∀ s, flatD (.list [.str s]) = true := fun s => by simp [flatD, pureD, pureDs, toPy, toPys, PyData.depth, PyData.depthAll]
  have h1 : flatD (.list []) = true := by simp [flatD, pureD, pureDs, toPy, toPys, PyData.depth, PyData.depthAll]
  rw [opEq, h0, h1]
  simp [deq, toPy, toPys, PyData.eqv, PyData.eqvAll]
theorem tail_ok {m b s : List Nat} {xs : List (List Nat)} {i k : Nat} (hl : xs.length < 10000000) (h : xs.getLast? = some [42] → s ≠ [42] ∧ s ≠ [42, 42]) :
    tl09 (rh m b xs i (.val (.int (k : Nat))) (.val (.str s))) = some (.next, rh m b (xs ++ [s]) (i + k) (.val (.int (k : Nat))) (.val (.str s))) := by
  have hp : ∃ x, peekE 3 (cmpB opEq (cutE (vE 3) (intP (negE (cE (.int 1)))) (noP)) (listE (consF (cE (.str [42])) (nilF)))) (rh m b xs i (.val (.int (k : Nat))) (.val (.str s))) = some x ∧ (x = true → xs.getLast? = some [42]) := by
    show ∃ x, cmpB opEq (cutE (vE 3) (intP (negE (cE (.int 1)))) (noP)) (listE (consF (cE (.str [42])) (nilF))) [.val (.str m), .val (.str b), .val KD, .val (.list (xs.map .str)), .val (.int (i : Nat)), .val (.int (k : Nat)), .val (.str s)] = some x ∧ (x = true → xs.getLast? = some [42])
    rcases List.eq_nil_or_concat xs with rfl | ⟨ys, y, rfl⟩
    · exact ⟨false, cmpB_of (a := .list []) rfl (b := .list [.str [42]]) rfl (eq_nil_one _), fun e => by cases e⟩
    · refine ⟨decide (y = [42]), cmpB_of (a := .list [.str y]) ?_ (b := .list [.str [42]]) rfl (eq_ones _ _), fun e => ?_⟩
      · show opCut (some (-1)) none (.list ((ys.concat y).map D.str)) = _
        rw [opCut, List.concat_eq_append, List.map_append, List.map_cons, List.map_nil, cut_last]
      · simp at e; simp [e]
  obtain ⟨x, hx, hxl⟩ := hp
  have hq : cmpB opIn (vE 6) (listE (consF (cE (.str [42])) (consF (cE (.str [42, 42])) (nilF)))) (rh m b xs i (.val (.int (k : Nat))) (.val (.str s))) = some (decide (s ∈ [[42], [42, 42]])) := cmpB_of (a := .str s) rfl (b := .list ([[42], [42, 42]].map D.str)) rfl (in_strs _ _)
  have hf : (x && decide (s ∈ [[42], [42, 42]])) = false := by
    cases x with
    | false => rfl
    | true => simpa using h (hxl rfl)
  refine (seqS_next (ρ' := rh m b xs i (.val (.int (k : Nat))) (.val (.str s))) ?_).trans ?_
  · refine (ifS_f ?_).trans rfl
    rw [← hf]
    exact andB_of hx hq
  refine (seqS_next (appS_of (d := .str s) rfl rfl (by simpa using hl) rfl)).trans ?_
  refine (seqS_next (augS_of (a := .int (i : Nat)) (b := .int (k : Nat)) (c := .int ((i + k : Nat))) rfl rfl rfl rfl)).trans ?_
  show some (Out.next, _) = _
  simp [rh]
end Mine

end
section
open PySem PySem.W PySem.Calls PyProof.Rows
set_option Elab.async false
set_option maxRecDepth 100000
set_option linter.unusedSimpArgs false
namespace Mine

section
variable {m b X Y w : List Nat} {i n : Nat} {ρ : Rho} {f g : Rho → Option D}
theorem tst_of (h0 : vE 0 ρ = some (.str m)) (h4 : vE 4 ρ = some (.int (i : Nat))) (hf : f ρ = some (.int (n : Nat))) (hg : g ρ = some (.str w)) (hX : m.drop i = X) :
    cmpB opEq (cutE (vE 0) (intP (vE 4)) (intP (binE opAdd (vE 4) f))) g ρ = some (decide (X.take n = w)) :=
  cmpB_of (cut2_of h0 h4 (binE_of h4 hf (show opAdd _ _ = some (.int ((i + n : Nat) : Int)) from rfl))) hg (by rw [eq_str, hX, Nat.add_sub_cancel_left])
theorem tst_t (h0 : vE 0 ρ = some (.str m)) (h4 : vE 4 ρ = some (.int (i : Nat))) (hf : f ρ = some (.int (n : Nat))) (hg : g ρ = some (.str w)) (hX : m.drop i = X) (h : X.take n = w) :
    cmpB opEq (cutE (vE 0) (intP (vE 4)) (intP (binE opAdd (vE 4) f))) g ρ = some true := by rw [tst_of h0 h4 hf hg hX, decide_eq_true h]
theorem tst_f (h0 : vE 0 ρ = some (.str m)) (h4 : vE 4 ρ = some (.int (i : Nat))) (hf : f ρ = some (.int (n : Nat))) (hg : g ρ = some (.str w)) (hX : m.drop i = X) (h : X.take n ≠ w) :
    cmpB opEq (cutE (vE 0) (intP (vE 4)) (intP (binE opAdd (vE 4) f))) g ρ = some false := by rw [tst_of h0 h4 hf hg hX, decide_eq_false h]
theorem item_at {x : Nat} (h : m.drop i = x :: Y) : opItem (.str m) (.int (i : Nat)) = some (.str [x]) := by
  have hi : i < m.length := by
    rcases Nat.lt_or_ge i m.length with h' | h'
    · exact h'
    · rw [List.drop_eq_nil_of_le h'] at h; cases h
  rw [item_str m i hi]
  rw [List.drop_eq_getElem_cons hi] at h
  rw [(List.cons.inj h).1]
theorem drop_next {x : Nat} (h : m.drop i = x :: Y) : m.drop (i + 1) = Y := by rw [← List.drop_drop, h]; rfl
end

noncomputable def IsB (b : List Nat) : Prop := b = [91, 94, 47, 93, 42] ∨ b = [91, 94, 47, 47, 93, 42] ∨ b = [91, 94, 47, 47, 47, 93, 42]
theorem IsB.head {b : List Nat} (h : IsB b) : ∃ b', b = 91 :: b' := by rcases h with rfl | rfl | rfl <;> exact ⟨_, rfl⟩
theorem IsB.hd {b : List Nat} (h : IsB b) : hdOk b := by rcases h with rfl | rfl | rfl <;> (intro x hx; simp at hx; omega)
theorem IsB.ne {b : List Nat} (h : IsB b) : b ≠ [] := by rcases h with rfl | rfl | rfl <;> simp
theorem IsB.not92 {b : List Nat} (h : IsB b) : 92 ∉ b := by rcases h with rfl | rfl | rfl <;> decide
theorem IsB.len {b : List Nat} (h : IsB b) : 5 ≤ b.length ∧ b.length ≤ 7 := by rcases h with rfl | rfl | rfl <;> decide
theorem IsB.qm {b R : List Nat} (h : IsB b) (hR : hdOk R) : ([91, 94, 47, 93] ++ R).take b.length ≠ b := by
  rcases h with rfl | rfl | rfl
  · intro e
    cases R with
    | nil => simp at e
    | cons x R => simp at e; exact (hR x rfl).1 e
  · intro e; simp at e
  · intro e; simp at e
noncomputable def okTk : Tk → Prop
  | .sg c => c ≠ 42 ∧ c ≠ 63
  | _ => True
noncomputable abbrev im (b : List Nat) : Tk → List Nat := img [46, 42] b [91, 94, 47, 93]

/-- what the reader takes at one place -/
theorem sign_at {m b R : List Nat} {xs : List (List Nat)} {i x : Nat} {Y : List Nat} {t : Tk} (hb : IsB b) (hX : m.drop i = im b t ++ R) (hR : hdOk R) (ht : okTk t) (hx : m.drop i = x :: Y) :
    e1 (rh m b xs i (.val (.int 1)) (.val (.str [x]))) = some (.next, rh m b xs i (.val (.int ((im b t).length : Nat))) (.val (.str (txt t)))) := by
  cases t with
  | two => exact (ifS_t (tst_t (n := 2) rfl rfl rfl rfl hX rfl)).trans rfl
  | one =>
    obtain ⟨b', eb⟩ := hb.head
    have h1 : (im b .one ++ R).take 2 ≠ [46, 42] := by
      show (b ++ R).take 2 ≠ _
      rw [eb]; simp
    refine (ifS_f (tst_f (n := 2) rfl rfl rfl rfl hX h1)).trans ?_
    refine (seqS_next (ρ' := rh m b xs i (.val (.int (b.length : Nat))) (.val (.str [42]))) ?_).trans rfl
    refine (ifS_t (tst_t (n := b.length) rfl rfl rfl rfl hX ?_)).trans rfl
    show (b ++ R).take b.length = b
    exact List.take_left
  | qm =>
    refine (ifS_f (tst_f (n := 2) rfl rfl rfl rfl hX (by simp [im, img]))).trans ?_
    refine (seqS_next (ρ' := rh m b xs i (.val (.int (4 : Nat))) (.val (.str [63]))) ?_).trans rfl
    refine (ifS_f (tst_f (n := b.length) rfl rfl rfl rfl hX (hb.qm hR))).trans ?_
    refine (seqS_next (ρ' := rh m b xs i (.val (.int (4 : Nat))) (.val (.str [63]))) ?_).trans rfl
    exact (ifS_t (tst_t (n := 4) rfl rfl rfl rfl hX rfl)).trans rfl
  | sg c =>
    obtain ⟨b', eb⟩ := hb.head
    have hh : x ≠ 46 ∧ x ≠ 91 := by
      have hx' : escC c ++ R = x :: Y := hX.symm.trans hx
      unfold escC at hx'
      split at hx'
      · simp at hx'; omega
      · rename_i hs
        simp at hx'
        rw [← hx'.1]
        constructor <;> (rintro rfl; exact hs (by decide))
    have h1 : (x :: Y).take 2 ≠ [46, 42] := by simp [hh.1]
    have h2 : (x :: Y).take b.length ≠ b := by
      rw [eb]; simp [hh.2]
    have h3 : (x :: Y).take 4 ≠ [91, 94, 47, 93] := by simp [hh.2]
    refine (ifS_f (tst_f (n := 2) rfl rfl rfl rfl hx h1)).trans ?_
    suffices h : e4 (rh m b xs i (.val (.int 1)) (.val (.str [x]))) = some (.next, rh m b xs i (.val (.int ((im b (.sg c)).length : Nat))) (.val (.str (txt (.sg c))))) by
      refine (seqS_next (ρ' := rh m b xs i (.val (.int ((im b (.sg c)).length : Nat))) (.val (.str (txt (.sg c))))) ?_).trans rfl
      refine (ifS_f (tst_f (n := b.length) rfl rfl rfl rfl hx h2)).trans ?_
      refine (seqS_next (ρ' := rh m b xs i (.val (.int ((im b (.sg c)).length : Nat))) (.val (.str (txt (.sg c))))) ?_).trans rfl
      exact (ifS_f (tst_f (n := 4) rfl rfl rfl rfl hx h3)).trans h
    by_cases hs : c ∈ spc
    · have hi : im b (.sg c) = [92, c] := by show escC c = _; rw [escC, if_pos hs]
      rw [hi] at hX ⊢
      have hxY := hx.symm.trans hX
      simp at hxY
      obtain ⟨rfl, rfl⟩ := hxY
      have hd := drop_next hx
      refine (seqS_next (ρ' := rh m b xs i (.val (.int (2 : Nat))) (.val (.str [c]))) ?_).trans rfl
      have ha : andB (cmpB opEq (vE 6) (cE (.str [92]))) (cmpB opIn (cutE (vE 0) (intP (binE opAdd (vE 4) (cE (.int 1)))) (intP (binE opAdd (vE 4) (cE (.int 2))))) (vE 2)) (rh m b xs i (.val (.int 1)) (.val (.str [92]))) = some (true && true) := by
        refine andB_of (cmpB_of (a := .str [92]) (b := .str [92]) rfl rfl (by rw [eq_str]; rfl)) (cmpB_of (a := .str [c]) (b := KD) ?_ rfl ?_)
        · have := cut2_of (ρ := rh m b xs i (.val (.int 1)) (.val (.str [92]))) (f := vE 0) (g := binE opAdd (vE 4) (cE (.int 1))) (h := binE opAdd (vE 4) (cE (.int 2))) (l := m) (i := i + 1) (j := i + 2) rfl rfl rfl
          rw [this, hd, show i + 2 - (i + 1) = 1 by omega]; rfl
        · rw [in_known, decide_eq_true]
          exact List.mem_map.mpr ⟨c, known_spc hs ht.1 ht.2, rfl⟩
      refine (ifS_t ha).trans ?_
      refine (seqS_next (setS_of (d := .int 2) rfl rfl)).trans ?_
      refine (seqS_next (setS_of (d := .str [c]) (binE_of (a := .str m) (b := .int ((i + 1 : Nat))) rfl rfl (item_at hd)) rfl)).trans rfl
    · have hi : im b (.sg c) = [c] := by show escC c = _; rw [escC, if_neg hs]
      rw [hi] at hX ⊢
      have hxY := hx.symm.trans hX
      simp at hxY
      obtain ⟨rfl, rfl⟩ := hxY
      have h92 : x ≠ 92 := by rintro rfl; exact hs (by decide)
      refine (seqS_next (ρ' := rh m b xs i (.val (.int (1 : Nat))) (.val (.str [x]))) ?_).trans rfl
      have ha : andB (cmpB opEq (vE 6) (cE (.str [92]))) (cmpB opIn (cutE (vE 0) (intP (binE opAdd (vE 4) (cE (.int 1)))) (intP (binE opAdd (vE 4) (cE (.int 2))))) (vE 2)) (rh m b xs i (.val (.int 1)) (.val (.str [x]))) = some false := by
        rw [andB, cmpB_of (a := .str [x]) (b := .str [92]) rfl rfl (eq_str _ _), decide_eq_false (by simpa using h92)]; rfl
      refine (ifS_f ha).trans ?_
      refine (seqS_next (ρ' := rh m b xs i (.val (.int (1 : Nat))) (.val (.str [x]))) ?_).trans rfl
      refine (ifS_f ?_).trans rfl
      have hk : decide ([x] ∈ knownL.map fun c => [c]) = false := by
        rw [decide_eq_false_iff_not]
        intro hm
        obtain ⟨y, hy, e⟩ := List.mem_map.mp hm
        simp at e
        subst e
        exact hs (spc_known hy)
      have hq : decide ([x] ∈ [[42], [63]]) = false := by
        simp [ht.1, ht.2]
      rw [orB, cmpB_of (a := .str [x]) (b := KD) rfl rfl (in_known _), hk]
      rw [Option.bind_some, if_neg (by decide)]
      rw [cmpB_of (a := .str [x]) rfl (b := .list ([[42], [63]].map D.str)) rfl (in_strs _ _), hq]

theorem im_ne {b : List Nat} (hb : IsB b) (t : Tk) : im b t ≠ [] := by
  cases t with
  | two => simp [im, img]
  | one => exact hb.ne
  | qm => simp [im, img]
  | sg c => exact esc_ne c
theorem good_cons {t : Tk} {r : List Tk} (h : Good (t :: r)) : okTk t ∧ Good r ∧ (txt t = [42] → starT r = false) ∧ (starT (t :: r) = false → txt t ≠ [42] ∧ txt t ≠ [42, 42]) := by
  cases t with
  | two => exact ⟨trivial, h, fun e => by simp [txt] at e, fun e => by simp [starT] at e⟩
  | one => exact ⟨trivial, h.2, fun _ => h.1, fun e => by simp [starT] at e⟩
  | qm => exact ⟨trivial, h, fun e => by simp [txt] at e, fun _ => by simp [txt]⟩
  | sg c => exact ⟨⟨h.1, h.2.1⟩, h.2.2, fun e => by simp [txt] at e; exact absurd e h.1, fun _ => by simp [txt, h.1]⟩
theorem body_ok {m b R : List Nat} {xs : List (List Nat)} {i : Nat} {t : Tk} {s5 s6 : Slot} (hb : IsB b) (hX : m.drop i = im b t ++ R) (hR : hdOk R) (ht : okTk t) (hl : xs.length < 10000000) (h : xs.getLast? = some [42] → txt t ≠ [42] ∧ txt t ≠ [42, 42]) :
    body09 (rh m b xs i s5 s6) = some (.next, rh m b (xs ++ [txt t]) (i + (im b t).length) (.val (.int ((im b t).length : Nat))) (.val (.str (txt t)))) := by
  obtain ⟨x, Y, hx⟩ : ∃ x Y, m.drop i = x :: Y := by
    cases hd : m.drop i with
    | nil => rw [hd] at hX; exact absurd (List.append_eq_nil_iff.mp hX.symm).1 (im_ne hb t)
    | cons x Y => exact ⟨x, Y, rfl⟩
  refine (seqS_next (setS_of (d := .int 1) rfl rfl)).trans ?_
  refine (seqS_next (setS_of (d := .str [x]) (binE_of (a := .str m) (b := .int (i : Nat)) rfl rfl (item_at hx)) rfl)).trans ?_
  refine (seqS_next (sign_at hb hX hR ht hx)).trans ?_
  exact tail_ok hl h
theorem loop09 {m b : List Nat} (hb : IsB b) : ∀ (ts : List Tk) (xs : List (List Nat)) (i n : Nat) (s5 s6 : Slot), Good ts → m.drop i = ts.flatMap (im b) → (starT ts = true → xs.getLast? ≠ some [42]) → ts.length < n → xs.length + ts.length < 10000000 →
    ∃ i' B5 B6, whileS cond09 body09 n (rh m b xs i s5 s6) = some (.next, rh m b (xs ++ ts.map txt) i' B5 B6)
  | [], xs, i, n, s5, s6, _, hm, _, hn, _ => by
    obtain ⟨n, rfl⟩ : ∃ k, n = k + 1 := ⟨n - 1, by simp at hn; omega⟩
    have hi : m.length ≤ i := List.drop_eq_nil_iff.mp hm
    refine ⟨i, s5, s6, ?_⟩
    rw [List.map_nil, List.append_nil]
    refine whileS_f (cmpB_of (a := .int (i : Nat)) (b := .int (m.length : Nat)) rfl rfl ?_)
    show some (decide _) = _
    rw [decide_eq_false (by omega)]
  | t :: r, xs, i, n, s5, s6, hg, hm, hs, hn, hl => by
    obtain ⟨n, rfl⟩ : ∃ k, n = k + 1 := ⟨n - 1, by simp at hn; omega⟩
    simp only [List.length_cons] at hn hl
    obtain ⟨g1, g2, g3, g4⟩ := good_cons hg
    rw [List.flatMap_cons] at hm
    have hi : i < m.length := by
      rcases Nat.lt_or_ge i m.length with h' | h'
      · exact h'
      · rw [List.drop_eq_nil_of_le h'] at hm; exact absurd (List.append_eq_nil_iff.mp hm.symm).1 (im_ne hb t)
    have hR : hdOk (r.flatMap (im b)) := img_hd (by simp) hb.ne (by simp) (by intro x hx; simp at hx; omega) hb.hd (by intro x hx; simp at hx; omega) r g2
    have hbody := body_ok (s5 := s5) (s6 := s6) (xs := xs) hb hm hR g1 (by omega) (fun e => g4 (by
      cases hst : starT (t :: r) with
      | false => rfl
      | true => exact absurd e (hs hst)))
    have hm' : m.drop (i + (im b t).length) = r.flatMap (im b) := by
      rw [← List.drop_drop, hm]; exact List.drop_left
    obtain ⟨i', B5, B6, ih⟩ := loop09 hb r (xs ++ [txt t]) (i + (im b t).length) n (.val (.int ((im b t).length : Nat))) (.val (.str (txt t))) g2 hm' (fun hst e => by
      rw [List.getLast?_append] at e
      simp at e
      rw [g3 e] at hst
      cases hst) (by omega) (by simp; omega)
    refine ⟨i', B5, B6, (whileS_t (cmpB_of (a := .int (i : Nat)) (b := .int (m.length : Nat)) rfl rfl ?_) hbody).trans ?_⟩
    · show some (decide _) = _
      rw [decide_eq_true (by omega)]
    · exact ih.trans (by simp)
theorem tk_len (ts : List Tk) : ts.length ≤ (ts.flatMap txt).length := by
  induction ts with
  | nil => simp
  | cons t ts ih =>
    have : 1 ≤ (txt t).length := by cases t <;> simp [txt]
    rw [List.flatMap_cons, List.length_append, List.length_cons]; omega
theorem back_ok {b l : List Nat} (hb : IsB b) (hl : l.length ≤ 10000) : runF 2 5 p_law_back [.str ((tk l).flatMap (im b)), .str b] = some (.str l) := by
  obtain ⟨h1, h2, _, _⟩ := tk_txt l.length l (Nat.le_refl _)
  have hlen := tk_len (tk l)
  rw [h1] at hlen
  obtain ⟨i', B5, B6, hw⟩ := loop09 (m := (tk l).flatMap (im b)) hb (tk l) [] 0 20000000 .unb .unb h2 rfl (fun _ => by simp) (by omega) (by simp; omega)
  rw [back_is]
  refine runF_ret rfl (Ret.next (setS_of (d := KD) rfl rfl) ?_)
  refine Ret.next (ownS_of (xs := []) rfl rfl) ?_
  refine Ret.next (setS_of (d := .int 0) rfl rfl) ?_
  refine Ret.next hw ?_
  refine Ret.frz rfl rfl (Ret.stop (Ret.of ?_))
  have hj : ((tk l).map txt).flatten = l := by rw [← List.flatMap_def]; exact h1
  show joinF [.str [], .list (([] ++ (tk l).map txt).map D.str)] = _
  rw [List.nil_append, join_strs (by rw [hj]; omega), hj]
end Mine

end
section
open PySem PySem.W PySem.Calls PyProof.Rows
set_option Elab.async false
set_option maxRecDepth 100000
set_option linter.unusedSimpArgs false
namespace Mine

theorem escape_ok {l : List Nat} (h1 : l ≠ []) (h2 : l.length ≤ 10000) : runF 1 0 pescape [.str l] = some (.str (l.flatMap escC)) := by
  refine runF_ret rfl (Ret.stop (Ret.t rfl (Ret.stop (Ret.of ?_))))
  show (if l.length ≤ 10000 ∧ l ≠ [] then some (D.str (l.flatMap escC)) else none) = _
  rw [if_pos ⟨h2, h1⟩]
noncomputable def IsQ (q : List Nat) : Prop := q = [47] ∨ q = [47, 47] ∨ q = [47, 47, 47]
noncomputable def starB (q : List Nat) : List Nat := [91, 94] ++ (q ++ [93, 42])
theorem IsQ.b {q : List Nat} (h : IsQ q) : IsB (starB q) := by
  rcases h with rfl | rfl | rfl
  · exact .inl rfl
  · exact .inr (.inl rfl)
  · exact .inr (.inr rfl)
theorem IsQ.esc {q : List Nat} (h : IsQ q) : q.flatMap escC = q := by rcases h with rfl | rfl | rfl <;> decide
theorem IsQ.ne {q : List Nat} (h : IsQ q) : q ≠ [] := by rcases h with rfl | rfl | rfl <;> simp
theorem IsQ.len {q : List Nat} (h : IsQ q) : q.length ≤ 3 := by rcases h with rfl | rfl | rfl <;> decide
theorem IsQ.all {q : List Nat} (h : IsQ q) : ∀ c ∈ q, c = 47 := by rcases h with rfl | rfl | rfl <;> simp
theorem img_len {a b q : List Nat} (ha : a.length ≤ 10) (hb : b.length ≤ 10) (hq : q.length ≤ 10) (ts : List Tk) : (ts.flatMap (img a b q)).length ≤ 10 * ts.length := by
  induction ts with
  | nil => simp
  | cons t ts ih =>
    have : (img a b q t).length ≤ 10 := by
      cases t with
      | two => exact ha
      | one => exact hb
      | qm => exact hq
      | sg c => show (escC c).length ≤ 10; unfold escC; split <;> simp
    rw [List.flatMap_cons, List.length_append, List.length_cons]; omega
section
variable {ρ : Rho} {f : Rho → Option D} {g : Rho → Option (List Nat)} {l y z r : List Nat}
theorem replE_of (h : f ρ = some (.str l)) (hl : l.length ≤ 100000) (hr : Rep y z l r) (hy : y ≠ []) (hz : r.length ≤ 100000) : replE y z f ρ = some (.str r) := by
  have hsz : sizeLine = 16777216 := rfl
  have e := replD_is hy hr
  simp only [replE, h, Option.bind_some, e]
  rw [if_pos ⟨hl, by omega⟩]
theorem replV_of (h : f ρ = some (.str l)) (hg : g ρ = some z) (hl : l.length ≤ 100000) (hr : Rep y z l r) (hy : y ≠ []) (hz : r.length ≤ 100000) (hz1 : z.length ≤ 100) (hyz : y ≠ z) : replV y f g ρ = some (.str r) := by
  have hsz : sizeLine = 16777216 := rfl
  have e := replD_is hy hr
  simp only [replV, h, hg, Option.bind_some, e]
  rw [if_pos ⟨hl, hz1, hyz, by omega⟩]
end
theorem replace_set {q l p : List Nat} {b e : Nat} (hp : (l.drop b).take (e - b) = p) (h0 : p ≠ []) : runF 2 0 preplace [.inst q, .mat l b e 2] = some (.str p) := by
  refine runF_ret rfl (Ret.stop (Ret.of ?_))
  have h1 : methE isMatD groupF (vE 1) (consF (cE (.str [115, 101, 116])) (nilF)) [.val (.inst q), .val (.mat l b e 2)] = some (.str p) := by
    show groupF [.mat l b e 2, .str [115, 101, 116]] = _
    rw [group_set hp]; rfl
  show orE _ _ [.val (.inst q), .val (.mat l b e 2)] = _
  rw [orE, h1]
  have h2 : truth (.str p) = some true := by
    rw [truth]; simp [h0]
  simp only [Option.bind_some, h2, if_true]
theorem replace_run {q l p : List Nat} {b e g : Nat} (hq : IsQ q) (hp : (l.drop b).take (e - b) = p) (h0 : p ≠ []) (hl : p.length ≤ 5000) (hg : g ≠ 2) : runF 2 0 preplace [.inst q, .mat l b e g] = some (.str ((tk p).flatMap (im (starB q)))) := by
  refine runF_ret rfl (Ret.stop (Ret.of ?_))
  show orE _ _ [.val (.inst q), .val (.mat l b e g)] = _
  have h1 : methE isMatD groupF (vE 1) (consF (cE (.str [115, 101, 116])) (nilF)) [.val (.inst q), .val (.mat l b e g)] = some .none := by
    show groupF [.mat l b e g, .str [115, 101, 116]] = _
    rw [group_set hp, if_neg hg]
  have h2 : methE isMatD groupF (vE 1) (consF (cE (.int 0)) (nilF)) [.val (.inst q), .val (.mat l b e g)] = some (.str p) := by
    show groupF [.mat l b e g, .int 0] = _
    rw [group_whole hp]
  rw [orE, h1]
  show _ = _
  obtain ⟨k1, k2, k3, _⟩ := tk_txt p.length p (Nat.le_refl _)
  have hlen := tk_len (tk p)
  rw [k1] at hlen
  have hB := hq.b
  have hBl := hB.len
  have hcat : catE (cE (.str [91, 94])) (catE (strOnly (callE (runF 1 0 pescape) (consF (sepsE (vE 0)) (nilF)))) (catE (cE (.str [93, 42])) (endE))) [.val (.inst q), .val (.mat l b e g)] = some (starB q) := by
    have h3 : callE (runF 1 0 pescape) (consF (sepsE (vE 0)) (nilF)) [.val (.inst q), .val (.mat l b e g)] = some (.str q) := by
      have := escape_ok hq.ne (by have := hq.len; omega)
      rw [hq.esc] at this
      exact call1_of (d := .str q) rfl this
    simp only [catE, cE, strOnly, h3, endE, Option.bind_some, Option.map_some]
    simp [starB]
  have s0 : callE (runF 1 0 pescape) (consF (methE isMatD groupF (vE 1) (consF (cE (.int 0)) (nilF))) (nilF)) [.val (.inst q), .val (.mat l b e g)] = some (.str ((tk p).flatMap (img [92, 42, 92, 42] [92, 42] [92, 63]))) := by
    rw [k3]
    exact call1_of h2 (escape_ok h0 (by omega))
  have l0 := img_len (a := [92, 42, 92, 42]) (b := [92, 42]) (q := [92, 63]) (by decide) (by decide) (by decide) (tk p)
  have l1 := img_len (a := [46, 42]) (b := [92, 42]) (q := [92, 63]) (by decide) (by decide) (by decide) (tk p)
  have l2 := img_len (a := [46, 42]) (b := starB q) (q := [92, 63]) (by decide) (by omega) (by decide) (tk p)
  have l3 := img_len (a := [46, 42]) (b := starB q) (q := [91, 94, 47, 93]) (by decide) (by omega) (by decide) (tk p)
  have s1 := replE_of s0 (by omega) (step1 (tk p) k2) (by simp) (by omega)
  have s2 := replV_of s1 hcat (by omega) (step2 (starB q) (tk p) k2) (by simp) (by omega) (by omega) (by intro e; exact hB.not92 (by rw [← e]; simp))
  have s3 := replE_of s2 (by omega) (step3 hB.ne hB.hd hB.not92 (tk p) k2) (by simp) (by omega)
  exact s3

/-! one piece -/
noncomputable def turn09 : Rho → Option (Out × Rho) := seqS (setS (nameA 5) (methE isInstD (runF 2 0 preplace) (callE makeF (consF (vE 2) (nilF))) (consF (vE 4) (nilF)))) (seqS (ifS (cmpB opIs (methE isMatD groupF (vE 4) (consF (cE (.str [115, 101, 116])) (nilF))) (cE .none)) (seqS (setS (nameA 5) (callE (runF 2 5 p_law_back) (consF (vE 5) (consF (binE opAdd (binE opAdd (cE (.str [91, 94])) (vE 2)) (cE (.str [93, 42]))) (nilF))))) (skS)) (skS)) (seqS (ifS (cmpB opNe (vE 5) (methE isMatD groupF (vE 4) (consF (cE (.int 0)) (nilF)))) (seqS (retS (cE (.bool false))) (skS)) (skS)) (skS)))
noncomputable def sg09 : Rho → Option D := ifE (cmpB opLt (binE opMod (vE 6) (cE (.int 16))) (cE (.int 12))) (itemE (cE (.str [42, 42, 63, 63, 47, 91, 91, 93, 10, 92, 97, 46])) (binE opMod (vE 6) (cE (.int 16)))) (callE chrF (consF (binE opMod (binE opDiv (vE 6) (cE (.int 16))) (cE (.int 1114112))) (nilF)))
theorem law_is : plaw = seqS (setS (nameA 1) (methE isStrD joinF (cE (.str [])) (consF (listF (compF ["x"] (itE asList (vE 0)) (nameA 6) (tt) (emE sg09))) (nilF)))) (seqS (setS (nameA 2) (binE opMulS (cE (.str [47])) (binE opAdd (cE (.int 1)) (binE opMod (callE sumF (consF (vE 0) (nilF))) (cE (.int 3)))))) (seqS (forS (itE asList (listE (consF (vE 1) (consF (binE opAdd (cE (.str [42, 42, 42, 91, 42, 63, 93])) (vE 1)) (nilF))))) (nameA 3) (seqS (forS (itE asPieces (vE 3)) (nameA 4) turn09) (skS))) (seqS (retS (cE (.bool true))) (skS)))) := rfl
section
variable {s0 s1 s3 : Slot} {q : List Nat}
theorem turn_ok (hq : IsQ q) {l p : List Nat} {b e g : Nat} (hp : (l.drop b).take (e - b) = p) (h0 : p ≠ []) (hl : p.length ≤ 5000) (s5 : Slot) :
    ∃ B5, turn09 [s0, s1, .val (.str q), s3, .val (.mat l b e g), s5] = some (.next, [s0, s1, .val (.str q), s3, .val (.mat l b e g), B5]) := by
  have hmk : ∀ s5, callE makeF (consF (vE 2) (nilF)) [s0, s1, .val (.str q), s3, .val (.mat l b e g), s5] = some (.inst q) := fun s5 => by
    show makeF [.str q] = _
    rw [makeF, if_pos ⟨hq.ne, hq.all, by have := hq.len; omega⟩]
  have hset : ∀ s5, methE isMatD groupF (vE 4) (consF (cE (.str [115, 101, 116])) (nilF)) [s0, s1, .val (.str q), s3, .val (.mat l b e g), s5] = some (if g = 2 then .str p else .none) := fun s5 => group_set hp
  have hwh : ∀ s5, methE isMatD groupF (vE 4) (consF (cE (.int 0)) (nilF)) [s0, s1, .val (.str q), s3, .val (.mat l b e g), s5] = some (.str p) := fun s5 => group_whole hp
  have hrep : ∀ r, runF 2 0 preplace [.inst q, .mat l b e g] = some r → methE isInstD (runF 2 0 preplace) (callE makeF (consF (vE 2) (nilF))) (consF (vE 4) (nilF)) [s0, s1, .val (.str q), s3, .val (.mat l b e g), s5] = some r := fun r hr => by
    rw [methE, hmk]
    exact hr
  have hend : seqS (ifS (cmpB opNe (vE 5) (methE isMatD groupF (vE 4) (consF (cE (.int 0)) (nilF)))) (seqS (retS (cE (.bool false))) (skS)) (skS)) (skS) [s0, s1, .val (.str q), s3, .val (.mat l b e g), .val (.str p)] = some (.next, [s0, s1, .val (.str q), s3, .val (.mat l b e g), .val (.str p)]) := by
    refine (seqS_next (ρ' := [s0, s1, .val (.str q), s3, .val (.mat l b e g), .val (.str p)]) ?_).trans rfl
    exact (ifS_f (cmpB_of (a := .str p) rfl (hwh _) (ne_self (flat_str p)))).trans rfl
  refine ⟨.val (.str p), ?_⟩
  by_cases hg : g = 2
  · subst hg
    refine (seqS_next (setS_of (hrep _ (replace_set hp h0)) rfl)).trans ?_
    refine (seqS_next (ρ' := [s0, s1, .val (.str q), s3, .val (.mat l b e 2), .val (.str p)]) ?_).trans hend
    exact (ifS_f (cmpB_of (hset _) (b := .none) rfl rfl)).trans rfl
  · refine (seqS_next (setS_of (hrep _ (replace_run hq hp h0 hl hg)) rfl)).trans ?_
    refine (seqS_next (ρ' := [s0, s1, .val (.str q), s3, .val (.mat l b e g), .val (.str p)]) ?_).trans hend
    refine (ifS_t (cmpB_of (hset _) (b := .none) rfl (by rw [if_neg hg]; rfl))).trans ?_
    have hl3 := hq.len
    have hst : ∀ s5, binE opAdd (binE opAdd (cE (.str [91, 94])) (vE 2)) (cE (.str [93, 42])) [s0, s1, .val (.str q), s3, .val (.mat l b e g), s5] = some (.str (starB q)) := fun s5 => by
      rw [starB, ← List.append_assoc]
      exact binE_of (binE_of rfl rfl (add_strs (by simp; omega))) rfl (add_strs (by simp; omega))
    exact (seqS_next (setS_of (call2_of (d := .str ((tk p).flatMap (im (starB q)))) rfl (hst _) (back_ok hq.b (by omega))) rfl)).trans rfl
theorem inner_ok (hq : IsQ q) {l : List Nat} {ms : List D} {ps : List (List Nat × Nat)} (h : ReadAs l ms ps) (hps : ∀ x ∈ ps, x.1 ≠ [] ∧ x.1.length ≤ 5000) : ∀ s4 s5 : Slot,
    ∃ B4 B5, loopS (nameA 4) turn09 ms [s0, s1, .val (.str q), s3, s4, s5] = some (.next, [s0, s1, .val (.str q), s3, B4, B5]) := by
  induction h with
  | nil => exact fun s4 s5 => ⟨s4, s5, rfl⟩
  | cons h r ih =>
    rename_i b e g p ms ps
    intro s4 s5
    have h1 := hps (p, g) (by simp)
    obtain ⟨C5, ht⟩ := turn_ok (s0 := s0) (s1 := s1) (s3 := s3) (g := g) hq h h1.1 h1.2 s5
    obtain ⟨B4, B5, hi⟩ := ih (fun x hx => hps x (List.mem_cons_of_mem _ hx)) (.val (.mat l b e g)) C5
    exact ⟨B4, B5, (loopS_next rfl ht).trans hi⟩
end
theorem toks_small {l : List Nat} {n : Nat} (h : l.length ≤ n) : ∀ x ∈ toks l, x.1 ≠ [] ∧ x.1.length ≤ n := fun x hx => by
  refine ⟨parse_ne _ _ x hx, ?_⟩
  have h1 := parse_size (l.length + 1) l
  have h2 : ∀ (ts : List (List Nat × Nat)), x ∈ ts → x.1.length ≤ (ts.map fun x => x.1.length).sum := fun ts => by
    induction ts with
    | nil => intro h; simp at h
    | cons t ts ih =>
      intro h
      rw [List.map_cons, List.sum_cons]
      rcases List.mem_cons.mp h with rfl | h
      · omega
      · have := ih h; omega
  have := h2 _ hx
  unfold toks at this
  omega
theorem text_ok {s0 s1 s4 s5 : Slot} {q l : List Nat} (hq : IsQ q) (hl : l.length ≤ 1000) : ∃ B4 B5, seqS (forS (itE asPieces (vE 3)) (nameA 4) turn09) (skS) [s0, s1, .val (.str q), .val (.str l), s4, s5] = some (.next, [s0, s1, .val (.str q), .val (.str l), B4, B5]) := by
  obtain ⟨B4, B5, h⟩ := inner_ok (s0 := s0) (s1 := s1) (s3 := .val (.str l)) hq (readAs_mats l) (fun x hx => by have := toks_small hl x hx; exact ⟨this.1, by omega⟩) s4 s5
  refine ⟨B4, B5, (seqS_next (ρ' := [s0, s1, .val (.str q), .val (.str l), B4, B5]) ?_).trans rfl⟩
  refine (forS_of (ds := matsOf l) ?_).trans h
  rfl

/-! the head -/
theorem sign_ok {s0 s1 s2 s3 s4 s5 : Slot} (x : Int) : ∃ c, sg09 [s0, s1, s2, s3, s4, s5, .val (.int x)] = some (.str [c]) := by
  have h1 : 0 ≤ x.fmod 16 := Int.fmod_nonneg_of_pos _ (by decide)
  have h2 : x.fmod 16 < 16 := Int.fmod_lt_of_pos _ (by decide)
  by_cases hx : x.fmod 16 < 12
  · obtain ⟨k, hk⟩ : ∃ k : Nat, x.fmod 16 = k := ⟨_, (Int.toNat_of_nonneg h1).symm⟩
    have hk' : k < 12 := by omega
    refine ⟨([42, 42, 63, 63, 47, 91, 91, 93, 10, 92, 97, 46] : List Nat)[k], ?_⟩
    have e := item_str [42, 42, 63, 63, 47, 91, 91, 93, 10, 92, 97, 46] k hk'
    simp [sg09, ifE, cmpB, opLt, binE, opMod, vE, cE, itemE, hk, show ((k : Int) < 12) by omega, e]
  · have h3 : 0 ≤ (x.fdiv 16).fmod 1114112 := Int.fmod_nonneg_of_pos _ (by decide)
    have h4 : (x.fdiv 16).fmod 1114112 < 1114112 := Int.fmod_lt_of_pos _ (by decide)
    refine ⟨((x.fdiv 16).fmod 1114112).toNat, ?_⟩
    have e : chrF [.int ((x.fdiv 16).fmod 1114112)] = some (.str [((x.fdiv 16).fmod 1114112).toNat]) := if_pos ⟨h3, h4⟩
    simp [sg09, ifE, cmpB, opLt, binE, opMod, opDiv, vE, cE, itemE, hx, callE, consF, nilF, e]
theorem ints_is : ∀ ns : List Int, intsD (ns.map .int) = some ns
  | [] => rfl
  | n :: ns => by rw [List.map_cons, intsD, ints_is ns]; rfl
theorem seps_ok (n : Int) : ∃ q, opMulS (.str [47]) (.int (1 + n.fmod 3)) = some (.str q) ∧ IsQ q := by
  have h1 : 0 ≤ n.fmod 3 := Int.fmod_nonneg_of_pos _ (by decide)
  have h2 : n.fmod 3 < 3 := Int.fmod_lt_of_pos _ (by decide)
  generalize n.fmod 3 = k at *
  have : k = 0 ∨ k = 1 ∨ k = 2 := by omega
  rcases this with rfl | rfl | rfl
  · exact ⟨[47], rfl, .inl rfl⟩
  · exact ⟨[47, 47], rfl, .inr (.inl rfl)⟩
  · exact ⟨[47, 47, 47], rfl, .inr (.inr rfl)⟩
theorem pure09 : ∀ ns : List Int, ns.length ≤ 63 → runF 1 5 plaw [.list (ns.map .int)] = some (.bool true) := by
  intro ns hn
  let s0 : Slot := .val (.list (ns.map .int))
  obtain ⟨S, hS⟩ : ∃ S : Int → Nat, ∀ x, sg09 [s0, .unb, .unb, .unb, .unb, .unb, .val (.int x)] = some (.str [S x]) := ⟨fun x => (sign_ok x).choose, fun x => (sign_ok x).choose_spec⟩
  have hm : methE isStrD joinF (cE (.str [])) (consF (listF (compF ["x"] (itE asList (vE 0)) (nameA 6) (tt) (emE sg09))) (nilF)) [s0, .unb, .unb, .unb, .unb, .unb] = some (.str (ns.map S)) := by
    have hcomp : compF ["x"] (itE asList (vE 0)) (nameA 6) tt (emE sg09) [s0, .unb, .unb, .unb, .unb, .unb] = some (((ns.map S).map fun c => [c]).map D.str) := by
      rw [comp1 (ds := ns.map .int) (fun d => match d with | .int x => .str [S x] | _ => .none) (fun _ => true) rfl rfl (fun _ _ => rfl) (fun d hd _ => ?_) (by simp; omega)]
      · simp [List.filter_eq_self.mpr]
      · obtain ⟨y, _, rfl⟩ := List.mem_map.mp hd
        exact hS y
    simp only [methE, cE, consF, listF, nilF, hcomp, Option.bind_some, Option.map_some, isStrD, if_true]
    rw [join_strs (by rw [flat_ones]; simp; omega), flat_ones]
  have hl : (ns.map S).length ≤ 63 := by simpa using hn
  generalize ns.map S = l at *
  obtain ⟨q, hq1, hq⟩ := seps_ok ns.sum
  have hq2 : binE opMulS (cE (.str [47])) (binE opAdd (cE (.int 1)) (binE opMod (callE sumF (consF (vE 0) (nilF))) (cE (.int 3)))) [s0, .val (.str l), .unb, .unb, .unb, .unb] = some (.str q) := by
    refine binE_of rfl (binE_of rfl (binE_of (call1_of (d := .list (ns.map .int)) rfl (r := .int ns.sum) ?_) rfl rfl) rfl) hq1
    rw [sumF, ints_is]; rfl
  obtain ⟨B4, B5, t1⟩ := text_ok (s0 := s0) (s1 := .val (.str l)) (s4 := .unb) (s5 := .unb) (l := l) hq (by omega)
  obtain ⟨C4, C5, t2⟩ := text_ok (s0 := s0) (s1 := .val (.str l)) (s4 := B4) (s5 := B5) (l := [42, 42, 42, 91, 42, 63, 93] ++ l) hq (by simp; omega)
  have hit : itE asList (listE (consF (vE 1) (consF (binE opAdd (cE (.str [42, 42, 42, 91, 42, 63, 93])) (vE 1)) (nilF)))) [s0, .val (.str l), .val (.str q), .unb, .unb, .unb] = some [.str l, .str ([42, 42, 42, 91, 42, 63, 93] ++ l)] := by
    have e1 : binE opAdd (cE (.str [42, 42, 42, 91, 42, 63, 93])) (vE 1) [s0, .val (.str l), .val (.str q), .unb, .unb, .unb] = some (.str ([42, 42, 42, 91, 42, 63, 93] ++ l)) := binE_of rfl rfl (add_strs (by simp; omega))
    have e2 : vE 1 [s0, .val (.str l), .val (.str q), .unb, .unb, .unb] = some (.str l) := rfl
    simp [itE, listE, consF, nilF, e1, e2, asList]
  rw [law_is]
  refine runF_ret rfl (Ret.next (setS_of hm rfl) ?_)
  refine Ret.next (setS_of hq2 rfl) ?_
  refine Ret.next (ρ1 := [s0, .val (.str l), .val (.str q), .val (.str ([42, 42, 42, 91, 42, 63, 93] ++ l)), C4, C5]) ((forS_of hit).trans ?_) (Ret.stop (Ret.of rfl))
  refine (loopS_next rfl t1).trans ?_
  exact (loopS_next rfl t2).trans rfl
end Mine

end
section
open PySem PySem.W PyProof.Rows
set_option Elab.async false
set_option maxRecDepth 100000
set_option maxHeartbeats 8000000
namespace MineTop
noncomputable def fencedQ (p : Program) (w : World) (N : Nat) : Option Shared :=
  (PySem.W.Fast.tw10274390034422433532 PySem.W.Fast.tw14364793385576792824 (opening p) w N (start (opening p)).1 (start (opening p)).2).bind (PySem.W.Fast.tw14289696077712309145 p)
noncomputable def topQ (p : Program) (w : World) (N : Nat) (s₀ : Shared) : Option Shared :=
  match s₀.heap.isNs mainGlobals && s₀.gens.size == 0 with
  | true => (PySem.W.Fast.tw14082659384304107361 PySem.W.Fast.tw14364793385576792824 p w s₀.heap.objs.size (s₀.heap.nsMap mainGlobals "__annotations__") N s₀ (topStub p)).bind fun s₁ => match staticsOk (importedModules p.main.body) s₀.heap s₁.heap && namesBound p s₁.heap && gensDone s₁ && laidKept s₀.heap s₁.heap with
      | true => some s₁
      | false => none
  | false => none
theorem fenced_is (p w N) : fencedOpening treeTable p w N = fencedQ p w N := by
  unfold fencedOpening fencedQ
  rw [← PySem.W.Fast.te10274390034422433532, ← PySem.W.Fast.te14364793385576792824, ← PySem.W.Fast.te14289696077712309145]
theorem top_is (p w N s) : topFrom treeTable p w N s = topQ p w N s := by
  unfold topFrom topQ
  rw [← PySem.W.Fast.te14082659384304107361, ← PySem.W.Fast.te14364793385576792824]
  rfl
theorem ends_is (p w N) : openEnds treeTable p w N = (fencedQ p w N).bind (topQ p w N) := by
  unfold openEnds
  rw [fenced_is, show topFrom treeTable p w N = topQ p w N from funext (top_is p w N)]
theorem left_by {p q : Program} {loose : List PySem.Str} {Xt : Shared → Bool} {α : Type} {Yf : Shared → α} {a : α} {N : Nat} (w : World)
    (h : ((fencedQ p w N).bind (topQ p w N)).map (fun s => (PySem.W.Fast.tw4187177175401517315 q loose (importedModules p.main.body) Xt true s, Yf s)) = some (openGood q loose, a)) :
    (openEnds treeTable p w N).map (fun s => (openSeen q loose (importedModules p.main.body) Xt true s, Yf s)) = some (openGood q loose, a) := by
  rw [ends_is, PySem.W.Fast.te4187177175401517315]; exact h
def prog09 : PySem.Program := PySem.Challenge.rw_dn0312_09.row.toRowW.prog
def view09 : PySem.Program := { prog09 with main := { prog09.main with body := [0, 1, 2, 3, 4, 5, 7, 8, 10, 11, 13, 14].filterMap fun i => prog09.main.body[i]? } }
def loose09 : List PySem.Str := [PySem.Str.ofString "_twin_re_1", PySem.Str.ofString "_default_seps", PySem.Str.ofString "_special_chars_map", PySem.Str.ofString "Translator"]
def lv09 : List (PySem.Str × PySem.W.WData) := [(PySem.Str.ofString "_default_seps", PySem.W.WData.str ⟨#[47]⟩)]
theorem holdsB {r : OpenRow} {q : PySem.Program} {loose : List PySem.Str} {Xt : Shared → Bool} {XP : (PySem.Str → Option PySem.Value) → Heap → Prop} {α : Type} {Yf : Shared → α} {Ya : World → α} {YP : World → Heap → Prop} {d : DefRec} {kwd : List (PySem.Str × PySem.Expr)} {N : Nat}
    (hY : ∀ w s, Yf s = Ya w → YP w s.heap) (hYk : ∀ w h h', YP w h → (∀ b o, h.get? b = some o → h'.get? b = some o) → YP w h')
    (hX : ∀ s, Xt s = true → XP (s.heap.nsMap mainGlobals) s.heap) (hXk : ∀ mg h h', XP mg h → (∀ b o, h.get? b = some o → h'.get? b = some o) → XP mg h')
    (hdef : defOf q r.name = some (d, kwd)) (hp : r.prog.theDef r.name = some (d.params, d.body, d.scope)) (hk : kwWritten? d.params.kwonlyargs d.params.kw_defaults = some kwd) (hRf : ∀ s, Xt s = true → RecFacts r.records s.heap) (hwr : (!r.writes || r.records.isEmpty) = true)
    (k1 : r.wellSaid = true) (ok : (chainsOk q && opensWell r.prog && (frees r.toRowW && r.within.isEmpty)) = true) (hb : r.prog.bare) (hw : r.toRowW.promised)
    (both : LeftO r.prog q loose Xt Yf Ya N ∧ Mine.WalkG q loose XP YP r.toRowW d kwd) : r.Holds := Mine.holdsG both.1 hY hYk hX hXk hdef hp hk hRf hwr k1 ok hb hw both.2
local macro_rules
  | `(tactic| o_head $H) => do
    let hw := Lean.mkIdent `hw
    let hc := Lean.mkIdent `hc
    `(tactic|
      refine holdsB (q := view09) (loose := loose09) (Xt := fun s => xlAt view09 lv09 s && recOk (RowW.records (OpenRow.toRowW PySem.Challenge.rw_dn0312_09.row)) s) (XP := XL view09 lv09) (Yf := Hook.obs $H) (Ya := Hook.val $H) (YP := Hook.says $H) (N := 4302) (Hook.of $H) (Hook.keeps $H) (fun s e => xl_of s (Bool.and_eq_true_iff.mp e).1) XL.keeps (by rfl) (by rfl) (by rfl) (fun s e => recFacts_of (Bool.and_eq_true_iff.mp e).2) (by rfl) (by first | assumption | decide +kernel) (by decide +kernel) ⟨rfl, rfl, rfl, rfl, rfl, by decide +kernel⟩ ?$hw ?$hc)
open_top hd for PySem.Challenge.rw_dn0312_09
noncomputable def H09 : Hook := kmHook MineTop.hd.heap_39 [2, 3, 6, 11, 12, 32, 34, 35, 37, 38, 40, 41, 42, 43, 45, 49, 51, 52, 54, 55, 63, 64, 66, 67, 69, 70, 71, 73, 74, 76, 77, 78, 80, 81, 83, 84, 85, 87, 88, 90, 91, 92, 94, 95, 97, 98, 99, 101, 102, 104, 105, 106, 108, 109, 111, 112, 113, 115, 116, 118, 119, 120, 121, 122, 123, 124, 127, 129, 130, 132, 133, 134, 136, 137, 139, 140, 141, 144, 145] (fun _ => by kernel_rfl) [114]
def X09 (s : Shared) : Bool := xlAt view09 lv09 s && recOk PySem.Challenge.rw_dn0312_09.row.records s
abbrev Good09 (w : World) : Prop := (openEnds treeTable PySem.Challenge.rw_dn0312_09.row.prog w 4302).map (fun s => (openSeen view09 loose09 (importedModules PySem.Challenge.rw_dn0312_09.row.prog.main.body) X09 true s, H09.obs s)) = some (openGood view09 loose09, H09.val w)
theorem g00 (w : World) : Good09 ((w.withFollow "special-get-raises" false).withFollow "comprehension-iter-twice" false) := left_by _ (by kernel_rfl)
theorem g01 (w : World) : Good09 ((w.withFollow "special-get-raises" true).withFollow "comprehension-iter-twice" false) := left_by _ (by kernel_rfl)
theorem g10 (w : World) : Good09 ((w.withFollow "special-get-raises" false).withFollow "comprehension-iter-twice" true) := left_by _ (by kernel_rfl)
theorem g11 (w : World) : Good09 ((w.withFollow "special-get-raises" true).withFollow "comprehension-iter-twice" true) := left_by _ (by kernel_rfl)
theorem left09 : LeftO PySem.Challenge.rw_dn0312_09.row.prog view09 loose09 X09 H09.obs H09.val 4302 :=
  byRow2 "comprehension-iter-twice" (P := Good09) (byRow2 "special-get-raises" (P := fun w => Good09 (w.withFollow "comprehension-iter-twice" false)) g00 g01) (byRow2 "special-get-raises" (P := fun w => Good09 (w.withFollow "comprehension-iter-twice" true)) g10 g11)
end MineTop

end
section
open PySem PySem.W PySem.Calls PyProof.Rows
set_option Elab.async false
set_option maxRecDepth 100000
set_option maxHeartbeats 4000000
namespace Mine

theorem code_vals : (theCode.map fun w => (rawInt (w : Nat) : Value)) = #[.int 14 0, .int 4 0, .int 0 0, .int 1 0, .int 4294967295 0, .int 7 0, .int 14 0, .int 17 0, .int 0 0, .int 24 0, .int 6 0, .int 1 0, .int 4294967295 0, .int 20 0, .int 91 0, .int 1 0, .int 17 0, .int 1 0, .int 15 0, .int 37 0, .int 17 0, .int 17 0, .int 2 0, .int 16 0, .int 91 0, .int 26 0, .int 5 0, .int 0 0, .int 4294967295 0, .int 2 0, .int 1 0, .int 16 0, .int 93 0, .int 17 0, .int 3 0, .int 15 0, .int 20 0, .int 18 0, .int 17 0, .int 4 0, .int 16 0, .int 91 0, .int 24 0, .int 6 0, .int 0 0, .int 4294967295 0, .int 20 0, .int 93 0, .int 1 0, .int 6 0, .int 5 0, .int 17 0, .int 5 0, .int 15 0, .int 2 0, .int 0 0, .int 1 0] := by simp [theCode, rawInt]
theorem mg_of {h : Heap} {a : Addr} {m : Str → Option Value} {o : Obj} {es : Array DictEntry} {ep : Nat} (hn : h.Ns a m) (ho : h.get? a = some o) (hd : o.data = .dict es ep) (x : Str) : m x = nsFind es x := by
  obtain ⟨o', es', ep', h1, h2, _, h4⟩ := hn
  rw [ho] at h1
  cases h1
  rw [hd] at h2
  cases h2
  exact (h4 x).symm

theorem foo : PySem.Challenge.rw_dn0312_09.Holds := MineTop.hd ⟨MineTop.left09, by
  intro w s₀ s₁ mg mb G Y a o pm cd doc dV kV h1 h2 h3 h4 h5 h6 htk args vals as p1 p2 p3 p4 p5
  have K := km_in_of Y
  have hmg := mg_of G.T.g (K 3 _ rfl) rfl
  let cx : Cx := ⟨Challenge.rw_dn0312_09.row.toRowW.prog, w, s₁.heap, mg, mb, G.T.g, G.T.b, G.T.nolimit, 43, instRel w.params 122, instRel_mono⟩
  have h_chr : (cx.mg "chr").or (cx.mb "chr") = some (.builtin "chr") := by rw [show cx.mg "chr" = none from (hmg _).trans (by rfl), show cx.mb "chr" = some (.builtin "chr") from (G.T.builtins _ (by decide)).trans (by rfl)]; rfl
  have h_isinstance : (cx.mg "isinstance").or (cx.mb "isinstance") = some (.builtin "isinstance") := by rw [show cx.mg "isinstance" = none from (hmg _).trans (by rfl), show cx.mb "isinstance" = some (.builtin "isinstance") from (G.T.builtins _ (by decide)).trans (by rfl)]; rfl
  have h_len : (cx.mg "len").or (cx.mb "len") = some (.builtin "len") := by rw [show cx.mg "len" = none from (hmg _).trans (by rfl), show cx.mb "len" = some (.builtin "len") from (G.T.builtins _ (by decide)).trans (by rfl)]; rfl
  have h_list : (cx.mg "list").or (cx.mb "list") = some (.type "list") := by rw [show cx.mg "list" = none from (hmg _).trans (by rfl), show cx.mb "list" = some (.type "list") from (G.T.builtins _ (by decide)).trans (by rfl)]; rfl
  have h_str : (cx.mg "str").or (cx.mb "str") = some (.type "str") := by rw [show cx.mg "str" = none from (hmg _).trans (by rfl), show cx.mb "str" = some (.type "str") from (G.T.builtins _ (by decide)).trans (by rfl)]; rfl
  have h_sum : (cx.mg "sum").or (cx.mb "sum") = some (.builtin "sum") := by rw [show cx.mg "sum" = none from (hmg _).trans (by rfl), show cx.mb "sum" = some (.builtin "sum") from (G.T.builtins _ (by decide)).trans (by rfl)]; rfl
  have hPat : PatAt cx.h₁ cx.pat 42 := ⟨⟨_, _, _, _, K 43 _ rfl⟩, ⟨0, by rw [code_vals]; exact K 42 _ rfl⟩⟩
  have hG : PatG cx := ⟨_, _, _, _, 40, _, _, K 43 _ rfl, K 40 _ rfl⟩
  have hkseparate : KeepOk (.ref 133) cx.h₁ := .inl ⟨_, _, _, rfl, K 133 _ rfl, rfl⟩
  have hmseparate : (cx.mg "separate").or (cx.mb "separate") = some (.ref 133) := by rw [show cx.mg "separate" = some (.ref 133) from (hmg _).trans (by rfl)]; rfl
  have hcsep : ConI cx 42 1 (.ref 133) := sep_con (k := 0) (K 133 _ rfl) rfl ⟨132, _, _, _, rfl, K 132 _ rfl, rfl, rfl⟩ (fun vs hv => by match vs, hv with | [v], _ => rfl) hPat (by rw [show cx.mg "_twin_re_1" = some (.ref 43) from (hmg _).trans (by rfl)]; rfl) rfl rfl rfl rfl rfl (by decide) rfl rfl rfl
  have h_set : (cx.mg "set").or (cx.mb "set") = some (.type "set") := by rw [show cx.mg "set" = none from (hmg _).trans (by rfl), show cx.mb "set" = some (.type "set") from (G.T.builtins _ (by decide)).trans (by rfl)]; rfl
  have hmTranslator : (cx.mg "Translator").or (cx.mb "Translator") = some (.ref 122) := by rw [show cx.mg "Translator" = some (.ref 122) from (hmg _).trans (by rfl)]; rfl
  have hmkTranslator : makesIn (MineTop.hd.heap_39 w.params) 122 = true := by kernel_rfl
  have cTranslator : Con cx 4 (.ref 122) makeF := con_class (fI := 70) rfl K hmkTranslator (by kernel_rfl) (by kernel_rfl) (K 70 _ rfl) rfl ⟨69, _, _, _, rfl, K 69 _ rfl, rfl, rfl⟩ rfl rfl rfl rfl rfl
    (fun s x y hk => BindsTo.of_defaults (T := 63) rfl (hk _ _ (K 63 _ rfl)) rfl rfl rfl) h_set (by rw [show cx.mg "_default_seps" = some (.str slash _) from (hmg _).trans (by rfl)]; rfl) (by kernel_rfl) (by kernel_rfl) (by kernel_rfl) (by kernel_rfl)
  have tabN : (cx.mg "_special_chars_map").or (cx.mb "_special_chars_map") = some (.ref 45) := by rw [show cx.mg "_special_chars_map" = some (.ref 45) from (hmg _).trans (by rfl)]; rfl
  have tabO : cx.h₁.get? 45 = some (tabObj [(40, 365, 369), (41, 371, 375), (91, 377, 381), (93, 383, 387), (123, 389, 393), (125, 395, 399), (63, 401, 405), (42, 407, 411), (43, 413, 417), (45, 419, 423), (124, 425, 429), (94, 431, 435), (36, 437, 441), (92, 443, 447), (46, 449, 453), (38, 455, 459), (126, 461, 465), (35, 467, 471), (32, 473, 477), (9, 479, 483), (10, 485, 489), (13, 491, 495), (11, 497, 501), (12, 503, 507)] 24) := K 45 _ rfl
  have tabL : ∀ x ∈ ([(40, 365, 369), (41, 371, 375), (91, 377, 381), (93, 383, 387), (123, 389, 393), (125, 395, 399), (63, 401, 405), (42, 407, 411), (43, 413, 417), (45, 419, 423), (124, 425, 429), (94, 431, 435), (36, 437, 441), (92, 443, 447), (46, 449, 453), (38, 455, 459), (126, 461, 465), (35, 467, 471), (32, 473, 477), (9, 479, 483), (10, 485, 489), (13, 491, 495), (11, 497, 501), (12, 503, 507)] : List (Nat × Tok × Tok)), hashInt (x.1 : Int) = (x.1 : Int) := by decide
  have tabS : ([(40, 365, 369), (41, 371, 375), (91, 377, 381), (93, 383, 387), (123, 389, 393), (125, 395, 399), (63, 401, 405), (42, 407, 411), (43, 413, 417), (45, 419, 423), (124, 425, 429), (94, 431, 435), (36, 437, 441), (92, 443, 447), (46, 449, 453), (38, 455, 459), (126, 461, 465), (35, 467, 471), (32, 473, 477), (9, 479, 483), (10, 485, 489), (13, 491, 495), (11, 497, 501), (12, 503, 507)] : List (Nat × Tok × Tok)).map (·.1) = spc := by decide
  have tabD : ((45 : Addr) == sysModules) = false := by decide
  have insG : findIn (MineTop.hd.heap_39 w.params) (.ref 122) "__getattribute__" = some (some (.builtin "object.__getattribute__")) := by kernel_rfl
  have insD : hasDictIn (MineTop.hd.heap_39 w.params) 122 = true := by kernel_rfl
  have insN : findIn (MineTop.hd.heap_39 w.params) (.ref 122) (Str.ofString "seps") = some none := by kernel_rfl
  have hkescape : KeepOk (.ref 55) cx.h₁ := .inl ⟨_, _, _, rfl, K 55 _ rfl, rfl⟩
  have hmescape : (cx.mg "escape").or (cx.mb "escape") = some (.ref 55) := by rw [show cx.mg "escape" = some (.ref 55) from (hmg _).trans (by rfl)]; rfl
  have cescape : Con cx 1 (.ref 55) (runF 1 0 pescape) := con_def (xs := ["pattern"]) (rest := []) (k := 0) (K 55 _ rfl) rfl ⟨54, _, _, _, rfl, K 54 _ rfl, rfl, rfl⟩
    (ss_cons (s1_if (st_plain (se_isi (x_var 0) h_isinstance h_str)) (ss_cons (s1_return (se_trans (x_var 0) tabN tabO tabL tabS tabD)) ss_nil) ss_dead) ss_nil)
    (fun vs hv => by match vs, hv with | [v0], _ => rfl)
  have hkreplace : KeepOk (.ref 105) cx.h₁ := .inl ⟨_, _, _, rfl, K 105 _ rfl, rfl⟩
  have Mreplace : MethK cx (MineTop.hd.heap_39 w.params) 122 "replace" 105 := ⟨rfl, K, by kernel_rfl, by kernel_rfl, by kernel_rfl, by kernel_rfl, by decide, hkreplace⟩
  have creplace : Con cx 2 (.ref 105) (runF 2 0 preplace) := con_meth (xs := ["self", "match"]) (rest := []) (k := 1) (K 105 _ rfl) rfl ⟨104, _, _, _, rfl, K 104 _ rfl, rfl, rfl⟩
    (ss_cons (s1_return (se_or (x_meth (get_mat slot_group type_group) (con_group hG) (x_var 1) (ses_cons (x_str [115, 101, 116]) ses_nil)) (se_repl [92, 63] [91, 94, 47, 93] (se_replV [92, 42] (se_repl [92, 42, 92, 42] [46, 42] (x_call cescape hmescape hkescape (ses_cons (x_meth (get_mat slot_group type_group) (con_group hG) (x_var 1) (ses_cons se_int ses_nil)) ses_nil))) (jpt_cons (x_str [91, 94]) (jpt_cons (se_fv (x_call cescape hmescape hkescape (ses_cons (se_seps rfl K insG insD insN (x_var 0)) ses_nil))) (jpt_cons (x_str [93, 42]) jpt_nil))))))) ss_nil)
    (fun vs hv => by match vs, hv with | [v0, v1], _ => rfl)
  have hk_law_back : KeepOk (.ref 140) cx.h₁ := .inl ⟨_, _, _, rfl, K 140 _ rfl, rfl⟩
  have hm_law_back : (cx.mg "_law_back").or (cx.mb "_law_back") = some (.ref 140) := by rw [show cx.mg "_law_back" = some (.ref 140) from (hmg _).trans (by rfl)]; rfl
  have c_law_back : Con cx 1 (.ref 140) (runF 2 5 p_law_back) := con_def (xs := ["made", "star"]) (rest := ["known", "back", "i", "size", "sign"]) (k := 0) (K 140 _ rfl) rfl ⟨139, _, _, _, rfl, K 139 _ rfl, rfl, rfl⟩
    (ss_cons (s1_assign (x_name 2) (x_call (k := 0) con_listS h_list (.inr (by intro a e; cases e)) (ses_cons (x_str [40, 41, 91, 93, 123, 125, 43, 45, 124, 94, 36, 92, 46, 38, 126, 35, 32, 9, 10, 13, 11, 12]) ses_nil))) (ss_cons (x_own 3 (x_listF ses_nil)) (ss_cons (s1_assign (x_name 4) se_int) (ss_cons (s1_while 20000000 (st_cmp cmp_lt (x_var 4) (x_call (k := 0) con_len h_len (.inr (by intro a e; cases e)) (ses_cons (x_var 0) ses_nil))) (ss_cons (s1_assign (x_name 5) se_int) (ss_cons (s1_assign (x_name 6) (se_item (x_var 0) (x_var 4))) (ss_cons (s1_if (st_cmp cmp_eq (se_cut (x_var 0) (sp_some (x_var 4)) (sp_some (se_bin bin_add (x_var 4) se_int))) (x_str [46, 42])) (ss_cons (s1_assign (x_name 5) se_int) (ss_cons (s1_assign (x_name 6) (x_str [42, 42])) ss_nil)) (ss_cons (s1_if (st_cmp cmp_eq (se_cut (x_var 0) (sp_some (x_var 4)) (sp_some (se_bin bin_add (x_var 4) (x_call (k := 0) con_len h_len (.inr (by intro a e; cases e)) (ses_cons (x_var 1) ses_nil))))) (x_var 1)) (ss_cons (s1_assign (x_name 5) (x_call (k := 0) con_len h_len (.inr (by intro a e; cases e)) (ses_cons (x_var 1) ses_nil))) (ss_cons (s1_assign (x_name 6) (x_str [42])) ss_nil)) (ss_cons (s1_if (st_cmp cmp_eq (se_cut (x_var 0) (sp_some (x_var 4)) (sp_some (se_bin bin_add (x_var 4) se_int))) (x_str [91, 94, 47, 93])) (ss_cons (s1_assign (x_name 5) se_int) (ss_cons (s1_assign (x_name 6) (x_str [63])) ss_nil)) (ss_cons (s1_if (st_and (st_cmp cmp_eq (x_var 6) (x_str [92])) (st_cmp cmp_in (se_cut (x_var 0) (sp_some (se_bin bin_add (x_var 4) se_int)) (sp_some (se_bin bin_add (x_var 4) se_int))) (x_var 2))) (ss_cons (s1_assign (x_name 5) se_int) (ss_cons (s1_assign (x_name 6) (se_item (x_var 0) (se_bin bin_add (x_var 4) se_int))) ss_nil)) (ss_cons (s1_if (st_or (st_cmp cmp_in (x_var 6) (x_var 2)) (st_cmp cmp_in (x_var 6) (se_list (ses_cons (x_str [42]) (ses_cons (x_str [63]) ses_nil))))) (ss_cons (s1_return se_none) ss_nil) ss_nil) ss_nil)) ss_nil)) ss_nil)) ss_nil)) (ss_cons (s1_if (st_and (st_peek 3 (st_cmp cmp_eq (se_cut (x_var 3) (sp_some (se_neg se_int)) sp_none) (se_list (ses_cons (x_str [42]) ses_nil)))) (st_cmp cmp_in (x_var 6) (se_list (ses_cons (x_str [42]) (ses_cons (x_str [42, 42]) ses_nil))))) (ss_cons (s1_return se_none) ss_nil) ss_nil) (ss_cons (s1_append 3 (x_var 6)) (ss_cons (x_aug 4 aug_add (x_var 5)) ss_nil))))))) (ss_freeze (ss_cons (s1_return (x_meth (get_str F.slot_str_join F.type_str_join) con_join (x_str []) (ses_cons (x_var 3) ses_nil))) ss_nil))))))
    (fun vs hv => by match vs, hv with | [v0, v1], _ => rfl)
  have hklaw : KeepOk (.ref 145) cx.h₁ := .inl ⟨_, _, _, rfl, K 145 _ rfl, rfl⟩
  have hmlaw : (cx.mg "law").or (cx.mb "law") = some (.ref 145) := by rw [show cx.mg "law" = some (.ref 145) from (hmg _).trans (by rfl)]; rfl
  have claw : Con cx 5 (.ref 145) (runF 1 5 plaw) := con_def (xs := ["script"]) (rest := ["made", "separators", "text", "piece", "told"]) (k := 4) (K 145 _ rfl) rfl ⟨144, _, _, _, rfl, K 144 _ rfl, rfl, rfl⟩
    (ss_cons (s1_assign (x_name 1) (x_meth (get_str F.slot_str_join F.type_str_join) con_join (x_str []) (ses_cons (SEF.se (x_comp ["x"] x_cs (si_list (x_var 0)) (x_lname 6) ts_nil (se_ifexp (st_cmp cmp_lt (se_bin bin_mod (x_var 6) se_int) se_int) (se_item (x_str [42, 42, 63, 63, 47, 91, 91, 93, 10, 92, 97, 46]) (se_bin bin_mod (x_var 6) se_int)) (x_call (k := 0) con_chr h_chr (.inr (by intro a e; cases e)) (ses_cons (se_bin bin_mod (se_bin bin_div (x_var 6) se_int) se_int) ses_nil))))) ses_nil))) (ss_cons (s1_assign (x_name 2) (se_bin bin_muls (x_str [47]) (se_bin bin_add se_int (se_bin bin_mod (x_call (k := 0) con_sum h_sum (.inr (by intro a e; cases e)) (ses_cons (x_var 0) ses_nil)) se_int)))) (ss_cons (s1_for (si_list (se_list (ses_cons (x_var 1) (ses_cons (se_bin bin_add (x_str [42, 42, 42, 91, 42, 63, 93]) (x_var 1)) ses_nil)))) (x_name 3) (ss_cons (s1_for (x_sep hcsep hPat hmseparate hkseparate (x_var 3)) (x_name 4) (ss_cons (s1_assign (x_name 5) (x_methI Mreplace creplace (x_make cTranslator K hmkTranslator hmTranslator (ses_cons (x_var 2) ses_nil)) (ses_cons (x_var 4) ses_nil))) (ss_cons (s1_if (st_cmp cmp_is (x_meth (get_mat slot_group type_group) (con_group hG) (x_var 4) (ses_cons (x_str [115, 101, 116]) ses_nil)) se_none) (ss_cons (s1_assign (x_name 5) (x_call c_law_back hm_law_back hk_law_back (ses_cons (x_var 5) (ses_cons (se_bin bin_add (se_bin bin_add (x_str [91, 94]) (x_var 2)) (x_str [93, 42])) ses_nil)))) ss_nil) ss_nil) (ss_cons (s1_if (st_cmp cmp_ne (x_var 5) (x_meth (get_mat slot_group type_group) (con_group hG) (x_var 4) (ses_cons se_int ses_nil))) (ss_cons (s1_return se_bool) ss_nil) ss_nil) ss_nil)))) ss_nil)) (ss_cons (s1_return se_bool) ss_nil))))
    (fun vs hv => by match vs, hv with | [v0], _ => rfl)
  have ha : a = 145 := by
    have e := h5.symm.trans ((hmg _).trans (show _ = some (Value.ref 145) from rfl))
    exact Value.ref.inj (Option.some.inj e)
  subst ha
  exact law_end (l := Challenge.rw_dn0312_09) rfl rfl (cx := cx) rfl rfl claw (by decide) pure09 h6 htk p1 p4⟩
end Mine

end
theorem PySem.Challenge.cw_dn0312_09_holds : PySem.Challenge.rw_dn0312_09.Holds :=
  Mine.foo
