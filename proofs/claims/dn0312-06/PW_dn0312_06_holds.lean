import PyProof.Rows.All
import Wide.All
import OpenK.AllK
import Wide.FinOn
import Lean
import PySem.Challenge.RW_dn0312_06
set_option Elab.async false
set_option maxRecDepth 100000
set_option linter.unusedVariables false
set_option linter.unusedSimpArgs false
section
open PySem PySem.W PyProof.Rows
set_option Elab.async false
set_option maxRecDepth 100000
namespace Mine

/-- the one question to the collector that a scanner's step puts -/
noncomputable def isAsk : Code → Bool
  | .builtin "gc.ask" ⟨[.int 13 _], []⟩ => true
  | _ => false
theorem isAsk_shape {c : Code} (h : isAsk c = true) : ∃ t, c = .builtin "gc.ask" ⟨[.int 13 t], []⟩ := by
  unfold isAsk at h
  split at h
  · exact ⟨_, rfl⟩
  · cases h
noncomputable def denG (c : Code) : Sem Fin := cond (isAsk c) (ret (.bool false)) (denote table c)
noncomputable def Mg (prog : Program) (w : World) : Model := ⟨denG, prog, w⟩
theorem denG_of_not {c : Code} (h : isAsk c = false) : denG c = denote table c := by unfold denG; rw [h]; rfl

theorem entry_gc_ask : entryFor table "gc.ask" = some Builtin.«gc.ask» := entryFor_of_tree (by kernel_rfl)
theorem den_builtin (id : String) (args : Args) : denote table (.builtin id args) = (match entryFor table id with | some b => b args | none => unsupported ((withoutEnding? id "#data").getD id)) := rfl
theorem den_ask (t : Tok) : denote table (.builtin "gc.ask" ⟨[.int 13 t], []⟩) = .pure (.again (.builtin "lifetime.ask" ⟨[.int 13 t], []⟩)) := by
  rw [den_builtin, entry_gc_ask]; rfl
theorem loud_ask (t : Tok) : (Code.builtin "lifetime.ask" ⟨[.int 13 t], []⟩).quiet = false := by
  simp [Code.quiet, Thread.loud, Thread.atCollectorCode, Thread.atExit]

theorem not_runs_ask {M : Model} {Γ : Ctx} {p : Pos} {c' : Code} {fs : List Frame} {s s' : Shared} {e : End} (hq : c'.quiet = false) :
    ∀ t, t = Sem.pure (.again c') → ¬ Runs M Γ p t fs s e s' := by
  intro t ht h
  induction h <;> (try cases ht) <;> simp_all

theorem runs_den {prog : Program} {w : World} {Γ : Ctx} {p : Pos} {c : Code} {fs : List Frame} {s s' : Shared} {e : End}
    (h : Runs (model prog w) Γ p ((model prog w).den c) fs s e s') : (Mg prog w).den c = (model prog w).den c := by
  cases hc : isAsk c with
  | false => exact denG_of_not hc
  | true =>
    obtain ⟨t, rfl⟩ := isAsk_shape hc
    exact absurd h (not_runs_ask (loud_ask t) _ (den_ask t))

theorem runs_mono {prog : Program} {w : World} {Γ : Ctx} {p : Pos} {t : Sem Fin} {fs : List Frame} {s s' : Shared} {e : End}
    (h : Runs (model prog w) Γ p t fs s e s') : Runs (Mg prog w) Γ p t fs s e s' := by
  induction h with
  | done => exact .done
  | raise => exact .raise
  | again hq hr ih => exact .again hq (by rw [runs_den hr]; exact ih)
  | rule _ ih => exact .rule ih
  | «at» _ ih => exact .at ih
  | load ho _ ih => exact .load ho ih
  | update ho _ ih => exact .update ho ih
  | loadIfAlive _ ih => exact .loadIfAlive ih
  | point _ ih => exact .point ih
  | alloc _ ih => exact .alloc ih
  | fresh _ ih => exact .fresh ih
  | ask _ ih => exact .ask ih
  | choose hn _ ih => exact .choose hn ih
  | os _ ih => exact .os ih
  | handled _ ih => exact .handled ih
  | genState hg _ ih => exact .genState hg ih
  | stack _ ih => exact .stack ih
  | thread _ ih => exact .thread ih
  | newGen _ ih => exact .newGen ih
  | call h1 h2 ih1 ih2 => exact .call (by rw [runs_den h1]; exact ih1) ih2
  | callSusp h1 ih1 => exact .callSusp (by rw [runs_den h1]; exact ih1)
  | yield => exact .yield
  | resumeFresh hg h1 hq h2 ih1 ih2 => exact .resumeFresh hg (by rw [runs_den h1]; exact ih1) hq ih2
  | resumeSuspended hg h1 hq h2 ih1 ih2 => exact .resumeSuspended hg ih1 hq ih2
  | resumeJustStarted hg hv _ ih => exact .resumeJustStarted hg hv ih
  | resumeThrowFresh hg _ ih => exact .resumeThrowFresh hg ih
  | resumeRunning hg _ ih => exact .resumeRunning hg ih
  | resumeFinished hg _ ih => exact .resumeFinished hg ih
  | segRet _ _ ih1 ih2 => exact .segRet ih1 ih2
  | segGen _ _ ih1 ih2 => exact .segGen ih1 ih2
  | segSuspOut hs _ ih => exact .segSuspOut hs ih
  | segSuspGen hs _ hq _ ih1 ih2 => exact .segSuspGen hs ih1 hq ih2

theorem wpCode_mono_model {prog : Program} {w : World} {Γ : Ctx} {R R' : Result → Shared → Prop} {p : Pos} {s : Shared} (hR : ∀ r s', R r s' → R' r s')
    (h : wpCode (model prog w) Γ R p s) : wpCode (Mg prog w) Γ R' p s := by
  obtain ⟨r, s', hr, hx⟩ := h
  refine ⟨r, s', ?_, hR _ _ hx⟩
  show Runs (Mg prog w) Γ p ((Mg prog w).den Γ.code) [] s (.ret r) s'
  have hr' : Runs (model prog w) Γ p ((model prog w).den Γ.code) [] s (.ret r) s' := hr
  rw [runs_den hr']; exact runs_mono hr'

theorem wakes_mono {prog : Program} {w : World} {Γ : Ctx} {p : Pos} {g : Nat} {r : Resume} {s : Shared} {res : GenResult} {s' : Shared}
    (h : Wakes (model prog w) Γ p g r s res s') : Wakes (Mg prog w) Γ p g r s res s' := by
  unfold Wakes at h ⊢
  split at h
  · exact h
  · split at h
    · obtain ⟨e₁, s₁, h1, h2⟩ := h; exact ⟨e₁, s₁, by rw [runs_den h1]; exact runs_mono h1, h2⟩
    · exact h
    · exact h
  · obtain ⟨e₁, s₁, h1, h2⟩ := h; exact ⟨e₁, s₁, runs_mono h1, h2⟩
  · exact h
  · exact h

theorem wp_mono_model {α : Type} {prog : Program} {w : World} {Γ : Ctx} (t : Sem α) : ∀ {Q : α → Pos → Shared → Prop} {E : Value → Pos → Shared → Prop} {p : Pos} {s : Shared},
    Sem.wp (model prog w) Γ t Q E p s → Sem.wp (Mg prog w) Γ t Q E p s := by
  induction t with
  | pure a => intro Q E p s h; simpa only [Sem.wp] using h
  | raise a => intro Q E p s h; simpa only [Sem.wp] using h
  | unsupported a => intro Q E p s h; simp only [Sem.wp] at h
  | finish a => intro Q E p s h; simp only [Sem.wp] at h
  | rule _ k ih => intro Q E p s h; simp only [Sem.wp] at h ⊢; exact ih _ h
  | «at» _ k ih => intro Q E p s h; simp only [Sem.wp] at h ⊢; exact ih _ h
  | load _ _ k ih => intro Q E p s h; simp only [Sem.wp] at h ⊢; obtain ⟨o, ho, h⟩ := h; exact ⟨o, ho, ih _ h⟩
  | update _ _ _ k ih => intro Q E p s h; simp only [Sem.wp] at h ⊢; exact ⟨h.1, ih _ h.2⟩
  | alloc _ k ih => intro Q E p s h; simp only [Sem.wp] at h ⊢; exact ih _ h
  | loadIfAlive _ k ih => intro Q E p s h; simp only [Sem.wp] at h ⊢; exact ih _ h
  | point _ k ih => intro Q E p s h; simp only [Sem.wp] at h ⊢; exact ih _ h
  | register _ k ih => intro Q E p s h; simp only [Sem.wp] at h
  | fresh k ih => intro Q E p s h; simp only [Sem.wp] at h ⊢; exact ih _ h
  | ask k ih => intro Q E p s h; simp only [Sem.wp] at h ⊢; exact ih _ h
  | choose _ _ k ih => intro Q E p s h; simp only [Sem.wp] at h ⊢; exact ⟨h.1, ih _ h.2⟩
  | os _ _ k ih => intro Q E p s h; simp only [Sem.wp] at h ⊢; exact ih _ h
  | call c hd g l k ih => intro Q E p s h; simp only [Sem.wp] at h ⊢; exact wpCode_mono_model (fun r s' h' => ih _ h') h
  | handled _ k ih => intro Q E p s h; simp only [Sem.wp] at h ⊢; exact ih _ h
  | newGen _ k ih => intro Q E p s h; simp only [Sem.wp] at h ⊢; exact ih _ h
  | genState _ k ih => intro Q E p s h; simp only [Sem.wp] at h ⊢; obtain ⟨o, ho, h⟩ := h; exact ⟨o, ho, ih _ h⟩
  | resume _ _ _ k ih => intro Q E p s h; simp only [Sem.wp] at h ⊢; obtain ⟨res, s', hw, h⟩ := h; exact ⟨res, s', wakes_mono hw, ih _ h⟩
  | yield _ _ _ k ih => intro Q E p s h; simp only [Sem.wp] at h
  | stack k ih => intro Q E p s h; simp only [Sem.wp] at h ⊢; exact ih _ h
  | fork _ k ih => intro Q E p s h; simp only [Sem.wp] at h
  | thread k ih => intro Q E p s h; simp only [Sem.wp] at h ⊢; exact ih _ h
  | await _ _ _ _ k ih => intro Q E p s h; simp only [Sem.wp] at h

theorem any_mono_model {α : Type} {prog : Program} {w : World} {A : Around} {t : Sem α} {Q : α → Shared → Prop} {E : Value → Shared → Prop} {s : Shared}
    (h : wpAny (model prog w) A t Q E s) : wpAny (Mg prog w) A t Q E s := fun Γ p hΓ => wp_mono_model t (h Γ p hΓ)
end Mine

end
section
open PySem PySem.W PyProof.Rows
set_option Elab.async false
set_option maxRecDepth 100000
namespace Mine

theorem step_denG (prog : Program) (w : World) (s : Shared) (t : Thread) :
    step denG prog w s t = step (denote table) prog w s t ∨
      ∃ c s₁ pos stk, isAsk c = true ∧ step (denote table) prog w s t = .go s₁ ⟨denote table c, c, pos, stk⟩ ∧ step denG prog w s t = .go s₁ ⟨denG c, c, pos, stk⟩ := by
  obtain ⟨heap, gens, drawn, toks, os⟩ := s
  obtain ⟨cur, code, pos, stack⟩ := t
  cases cur with
  | pure a =>
    cases a with
    | done f => exact .inl rfl
    | again c =>
      cases hc : isAsk c with
      | false => left; simp only [step, denG_of_not hc]
      | true => right; exact ⟨c, _, _, _, hc, rfl, rfl⟩
  | call c h g l k =>
    cases hc : isAsk c with
    | false => left; simp only [step, denG_of_not hc]
    | true => right; exact ⟨c, _, _, _, hc, rfl, rfl⟩
  | resume g r l k =>
    simp only [step]
    cases hg : gens[g]? with
    | none => exact .inl rfl
    | some x =>
      cases x with
      | fresh c =>
        cases r with
        | throw e => exact .inl rfl
        | send v =>
          cases v with
          | none =>
            cases hc : isAsk c with
            | false => left; simp only [denG_of_not hc]
            | true => right; exact ⟨c, _, _, _, hc, rfl, rfl⟩
          | _ => exact .inl rfl
      | _ => exact .inl rfl
  | _ => exact .inl rfl

theorem watching_asleep {s : Shared} (hz : s.asleep) : s.watching = false := by
  unfold Shared.watching; rw [hz.1]; rfl

theorem ask_turn (prog : Program) (w : World) (s : Shared) (hz : s.asleep) (t : Tok) (code : Code) (pos : Pos) (stk : List Frame) :
    sstep (denote table) prog w (.single s ⟨.pure (.again (.builtin "lifetime.ask" ⟨[.int 13 t], []⟩)), code, pos, stk⟩) = .go (.single s ⟨ret (.bool false), code, pos, stk⟩) := by
  obtain ⟨hr, hc⟩ := hz
  have hw := watching_asleep ⟨hr, hc⟩
  have h1 : (Config.single s ⟨.pure (.again (.builtin "lifetime.ask" ⟨[.int 13 t], []⟩)), code, pos, stk⟩).collect? w.params = none := by
    simp [Config.collect?, Config.single, (nothing_to_collect _ _ _ s _ hr).1]
  have h2 : (Config.single s ⟨.pure (.again (.builtin "lifetime.ask" ⟨[.int 13 t], []⟩)), code, pos, stk⟩).collectable = [] := by
    simp [Config.collectable, Config.single, (nothing_to_collect w.params _ _ s _ hr).2]
  have hm : (Config.single s ⟨.pure (.again (.builtin "lifetime.ask" ⟨[.int 13 t], []⟩)), code, pos, stk⟩).moves w.params.profile = [.run 0] := by
    simp [Config.moves, Config.single, movesFrom, Thread.moves, Thread.atomic, Thread.rests, Thread.tells]
  have hp : (Config.single s ⟨.pure (.again (.builtin "lifetime.ask" ⟨[.int 13 t], []⟩)), code, pos, stk⟩).pick w = .ok (.run 0, .single s ⟨.pure (.again (.builtin "lifetime.ask" ⟨[.int 13 t], []⟩)), code, pos, stk⟩) := by
    simp only [Config.pick, h1, h2, Config.pickThread, hm]
    cases w.params.lifetimes <;> simp
  have hl : ∀ others, lifeStep (denote table) prog w others s ⟨.pure (.again (.builtin "lifetime.ask" ⟨[.int 13 t], []⟩)), code, pos, stk⟩ = .go s ⟨ret (.bool false), code, pos, stk⟩ := by
    intro others
    have e1 : collectorTurn? w.params others s ⟨.pure (.again (.builtin "lifetime.ask" ⟨[.int 13 t], []⟩)), code, pos, stk⟩ = some (askTurn w.params others s ⟨.pure (.again (.builtin "lifetime.ask" ⟨[.int 13 t], []⟩)), code, pos, stk⟩ [.int 13 t]) := rfl
    have e2 : askTurn w.params others s ⟨.pure (.again (.builtin "lifetime.ask" ⟨[.int 13 t], []⟩)), code, pos, stk⟩ [.int 13 t] = (s, ⟨ret (.bool false), code, pos, stk⟩) :=
      if_pos (c := ((!s.heap.life.gcEnabled || s.heap.life.thresholds.head? == some 0 || s.heap.life.collecting || !s.watching) = true)) (by rw [hw]; simp)
    unfold lifeStep
    rw [if_pos (by simp [Thread.special, Thread.atCollectorCode])]
    dsimp only
    rw [e1, e2]
    simp only [hc, Bool.false_and, Bool.false_eq_true, if_false]
  unfold sstep
  rw [hp]
  simp only [Config.move, Config.run, Config.single]
  simp [hl, others_single, frozenBadly, ThreadState.insideWrite, Thread.finalizes, Thread.special, Thread.atCollectorCode]

theorem sim (prog : Program) (w : World) : ∀ (n : Nat) (s : Shared) (t : Thread) (o : Outcome) (s' : Shared), s.asleep → o.ends = true → runN denG prog w n s t = .halted o s' →
    (∀ k s₁ t₁, runN denG prog w k s t = .running s₁ t₁ → t₁.calm = true) → ∃ m, schedN (denote table) prog w m (.single s t) = .halted o s' := by
  intro n
  induction n with
  | zero => intro s t o s' _ _ h; cases h
  | succ n ih =>
    intro s t o s' hz ho h hc
    have hcalm := hc 0 s t rfl
    have life : ∀ s₂ t₂, step denG prog w s t = .go s₂ t₂ → s₂.asleep := fun s₂ t₂ e => by
      simp only [Shared.asleep, step_life denG prog w s s₂ t t₂ e]; exact hz
    have later : ∀ s₂ t₂, step denG prog w s t = .go s₂ t₂ → ∀ k s₁ t₁, runN denG prog w k s₂ t₂ = .running s₁ t₁ → t₁.calm = true := fun s₂ t₂ e k s₁ t₁ hk =>
      hc (k + 1) s₁ t₁ (by simp only [runN, e]; exact hk)
    rcases step_denG prog w s t with e | ⟨c, s₁, pos, stk, hask, e1, e2⟩
    · rcases sstep_single (denote table) prog w s t hcalm hz with e' | e'
      · cases hs : step denG prog w s t with
        | go s₂ t₂ =>
          simp only [runN, hs] at h
          obtain ⟨m, hm⟩ := ih s₂ t₂ o s' (life _ _ hs) ho h (later _ _ hs)
          refine ⟨m + 1, ?_⟩
          simp only [schedN, e', ← e, hs, Step.lift]; exact hm
        | halt o₂ s₂ =>
          simp only [runN, hs] at h
          injection h with h1 h2
          subst h1 h2
          refine ⟨1, ?_⟩
          simp only [schedN, e', ← e, hs, Step.lift]
      · rw [← e] at e'
        simp only [runN, e'] at h
        injection h with h1 h2
        subst h1
        cases ho
    · simp only [runN, e2] at h
      obtain ⟨m, hm⟩ := ih _ _ o s' (life _ _ e2) ho h (later _ _ e2)
      obtain ⟨tk, rfl⟩ := isAsk_shape hask
      rcases sstep_single (denote table) prog w s t hcalm hz with e' | e'
      · refine ⟨m + 1 + 1, ?_⟩
        simp only [schedN, e', e1, Step.lift]
        rw [den_ask, ask_turn prog w s₁ (life _ _ e2)]
        exact hm
      · rw [e1] at e'; cases e'

/-- a run of the altered model, to its end, is a run of the scheduler with the real table -/
theorem halts {prog : Program} {w : World} {c : Code} {t : Sem Fin} {R : Result → Shared → Prop} {p : Pos} {s : Shared} (hreg : s.asleep)
    (h : Sem.wp (Mg prog w) ⟨c, none, none, [], none⟩ t (Sem.finPost (Mg prog w) ⟨c, none, none, [], none⟩ fun r s' => R r s' ∧ leftWithCleanup s'.gens = false)
      (fun e _ s' => R (.error e) s' ∧ leftWithCleanup s'.gens = false) p s) :
    ∃ n r s' s'', schedN (denote table) prog w n (.single s ⟨t, c, p, []⟩) = .halted (outcomeOf r) s'' ∧ s''.heap.life = s.heap.life ∧ s''.forget = s'.forget ∧ R r s' := by
  obtain ⟨n, r, s', hn, hR⟩ := (wp_iff_halts (M := Mg prog w) t R p s).mp h
  obtain ⟨s'', hr, hf, hcalm⟩ := runNI_real (Mg prog w).den (Mg prog w).prog (Mg prog w).w hn (outcomeOf_ends r)
  obtain ⟨m, hm⟩ := sim prog w n s ⟨t, c, p, []⟩ _ _ hreg (outcomeOf_ends r) hr hcalm
  exact ⟨m, r, s', s'', hm, runN_life _ _ _ hr, hf, hR⟩
end Mine

end
section
open PySem PySem.W PySem.Calls PyProof.Rows
set_option Elab.async false
set_option maxRecDepth 100000
namespace Mine

/-- the caller's own context: nothing stands below it -/
noncomputable abbrev callerG : Ctx := ⟨.builtin "claim.caller" {}, none, none, [], none⟩

theorem callFromG {c : ClaimW} {tree : List Value → Sem Fin} {w : World} {s : Shared} {free : Addr → Prop} {gens : Prop} {kept : Heap → Prop} (hz : s.asleep) (hgens : s.gens = #[])
    (hspec : ∀ args, c.pre args = true → WData.layableAll args = true → ∀ ord : List DictEntry → List DictEntry, (∀ l, (ord l).Perm l) →
      ∃ vs s₁, layAllW c.records (classAt s.heap) w.params ord args s = some (vs, s₁) ∧
        Sem.wp (Mg c.prog w) callerG (tree vs) (fun fin _ s' => ∃ f, fin = .done f ∧ (c.Ends s args vs s₁ (.ok f) s' ∧ s'.os = s.os ∧ AllBare s'.gens ∧ kept s'.heap)) (fun _ _ _ => False) default s₁) :
    c.CallFrom (fun vs => ⟨tree vs, .builtin "claim.caller" {}, default, []⟩) w free gens kept s := by
  intro args hpre hlay ord hord
  obtain ⟨vs, s₁, hlaid, hcode⟩ := hspec args hpre hlay ord hord
  have hal := layAllW_rest _ _ _ hlaid
  obtain ⟨k, r, s', s'', hsched, hlf, hfo, hcase, hos, hkp⟩ := halts (prog := c.prog) (w := w) (t := tree vs) (s := s₁)
    (R := fun r s' => c.Ends s args vs s₁ r s' ∧ s'.os = s.os ∧ kept s'.heap) (Shared.asleep_of_life hal.2.2.2 hz)
    (Sem.wp_mono _ _ _ (fun fin p' s' h' => by
      obtain ⟨f, rfl, h1, h2, h3, h4⟩ := h'
      exact ⟨⟨h1, h2, h4⟩, leftWithCleanup_false_of_bare h3⟩) (fun _ _ _ h' => h'.elim) _ _ hcode)
  obtain ⟨eh, _, _, eo, _⟩ := Shared.forget_eq hfo
  have hcase := hcase.congr eh
  rw [← eh] at hkp
  rw [← eo] at hos
  have hlife : s''.heap.life = s.heap.life := hlf.trans hal.2.2.2
  refine ⟨vs, s₁, hlaid, k, _, s'', hsched, ?_, (fun _ i x hx => by rw [hgens] at hx; simp at hx), hkp, by rw [hlife], Shared.rest_eq hos⟩
  rcases hcase with ⟨v, rfl, d1, d2, d3, d4, d5⟩ | ⟨e, ob, cls, rfl, d1, d2, d3, d4, d5⟩
  · exact .inl ⟨v, rfl, d1, d2, d3, fun b o y _ => d4 b o y, d5⟩
  · exact .inr ⟨e, ob, cls, rfl, d1, d2, d3, d4, fun b o y _ => d5 b o y⟩

/-! there is a token before the law is called -/
section
variable {R : WRecords} {cl : Str → Option Addr} {P : Params} {ord : List DictEntry → List DictEntry}
mutual
theorem layW_toks : ∀ (d : WData) (s : Shared) (r : Value × Shared), layW R cl P ord d s = some r → s.toks ≤ r.2.toks
  | .none, s, r, h => by rw [layW] at h; cases h; exact Nat.le_refl _
  | .bool b, s, r, h => by rw [layW] at h; cases h; exact Nat.le_refl _
  | .int i, s, r, h => by rw [layW] at h; cases h; exact Nat.le_succ _
  | .str i, s, r, h => by rw [layW] at h; cases h; exact Nat.le_succ _
  | .float i, s, r, h => by rw [layW] at h; cases h; exact Nat.le_succ _
  | .bytes i, s, r, h => by rw [layW] at h; cases h; exact Nat.le_succ _
  | .bytearray i, s, r, h => by rw [layW] at h; cases h; exact Nat.le_refl _
  | .list xs, s, r, h => by
    rw [layW] at h
    split at h
    · rename_i q hq; cases h; exact layAllW_toks xs s q hq
    · cases h
  | .tuple xs, s, r, h => by
    rw [layW] at h
    split at h
    · rename_i q hq; cases h; exact layAllW_toks xs s q hq
    · cases h
  | .dict xs, s, r, h => by
    rw [layW] at h
    split at h
    · rename_i q hq; cases h; exact layKvW_toks xs s q hq
    · cases h
  | .set xs, s, r, h => by
    rw [layW] at h
    split at h
    · rename_i q hq; cases h; exact layElemsW_toks xs s q hq
    · cases h
  | .frozenset xs, s, r, h => by
    rw [layW] at h
    split at h
    · rename_i q hq; cases h; exact layElemsW_toks xs s q hq
    · cases h
  | .obj c kvs, s, r, h => by
    rw [layW] at h
    split at h
    · split at h
      · split at h
        · split at h
          · rename_i q hq; cases h; exact layFieldsW_toks kvs s q hq
          · cases h
        · cases h
      · cases h
    · cases h
theorem layAllW_toks : ∀ (ds : List WData) (s : Shared) (r : List Value × Shared), layAllW R cl P ord ds s = some r → s.toks ≤ r.2.toks
  | [], s, r, h => by rw [layAllW] at h; cases h; exact Nat.le_refl _
  | x :: xs, s, r, h => by
    rw [layAllW] at h
    split at h
    · rename_i q hq
      split at h
      · rename_i q2 hq2; cases h; exact Nat.le_trans (layW_toks x s q hq) (layAllW_toks xs _ q2 hq2)
      · cases h
    · cases h
theorem layKvW_toks : ∀ (ds : List (WData × WData)) (s : Shared) (r : List DictEntry × Shared), layKvW R cl P ord ds s = some r → s.toks ≤ r.2.toks
  | [], s, r, h => by rw [layKvW] at h; cases h; exact Nat.le_refl _
  | (k, v) :: xs, s, r, h => by
    rw [layKvW] at h
    split at h
    · rename_i q hq
      split at h
      · rename_i q2 hq2
        split at h
        · rename_i q3 hq3; cases h; exact Nat.le_trans (Nat.le_trans (layW_toks k s q hq) (layW_toks v _ q2 hq2)) (layKvW_toks xs _ q3 hq3)
        · cases h
      · cases h
    · cases h
theorem layElemsW_toks : ∀ (ds : List WData) (s : Shared) (r : List DictEntry × Shared), layElemsW R cl P ord ds s = some r → s.toks ≤ r.2.toks
  | [], s, r, h => by rw [layElemsW] at h; cases h; exact Nat.le_refl _
  | x :: xs, s, r, h => by
    rw [layElemsW] at h
    split at h
    · rename_i q hq
      split at h
      · rename_i q2 hq2; cases h; exact Nat.le_trans (layW_toks x s q hq) (layElemsW_toks xs _ q2 hq2)
      · cases h
    · cases h
theorem layFieldsW_toks : ∀ (ds : List (Str × WData)) (s : Shared) (r : List DictEntry × Shared), layFieldsW R cl P ord ds s = some r → s.toks ≤ r.2.toks
  | [], s, r, h => by rw [layFieldsW] at h; cases h; exact Nat.le_refl _
  | (f, v) :: xs, s, r, h => by
    rw [layFieldsW] at h
    split at h
    · rename_i q hq
      split at h
      · rename_i q2 hq2; cases h; exact Nat.le_trans (Nat.le_trans (Nat.le_succ _) (layW_toks v _ q hq)) (layFieldsW_toks xs _ q2 hq2)
      · cases h
    · cases h
end
end
theorem importEnds_toks {tb : String → Option Builtin} {p : Program} {w : World} : ∀ (N : Nat) (s : Shared) (t : Thread) (s1 : Shared), importEnds tb p w N s t = some s1 → s.toks ≤ s1.toks
  | 0, _, _, _, h => by simp [importEnds] at h
  | N + 1, s, t, s1, h => by
    unfold importEnds at h
    split at h
    · cases h; exact Nat.le_refl _
    · cases h
    · split at h
      · rename_i s' t' hs
        exact Nat.le_trans (step_toks_le _ p w s s' t t' hs) (importEnds_toks N s' t' s1 h)
      · cases h
theorem topRun_toks {tb : String → Option Builtin} {p : Program} {w : World} {n₀ : Nat} {ann : Option Value} : ∀ (N : Nat) (s : Shared) (t : Thread) (s1 : Shared), topRun tb p w n₀ ann N s t = some s1 → s.toks ≤ s1.toks
  | 0, _, _, _, h => by simp [topRun] at h
  | N + 1, s, t, s1, h => by
    unfold topRun at h
    split at h
    · cases h; exact Nat.le_refl _
    · split at h
      · cases h
      · split at h
        · rename_i s' t' hs
          exact Nat.le_trans (step_toks_le _ p w s s' t t' hs) (topRun_toks N s' t' s1 h)
        · cases h
theorem fenceModule_toks {m : Str} {s s1 : Shared} (h : fenceModule? m s = some s1) : s1.toks = s.toks := by
  unfold fenceModule? at h
  repeat' split at h
  all_goals first | (cases h; done) | skip
  rw [Option.map_eq_some_iff] at h
  obtain ⟨o, _, rfl⟩ := h
  rfl
theorem fenceAll_toks : ∀ {ms : List Str} {s s1 : Shared}, fenceAll? ms s = some s1 → s1.toks = s.toks
  | [], s, s1, h => by cases h; rfl
  | m :: ms, s, s1, h => by
    rw [fenceAll?, Option.bind_eq_some_iff] at h
    obtain ⟨s2, h1, h2⟩ := h
    rw [fenceAll_toks h2, fenceModule_toks h1]
theorem copies_toks : ∀ {ms : List Str} {s s1 : Shared}, copiesAnew? ms s = some s1 → s1.toks = s.toks
  | [], s, s1, h => by cases h; rfl
  | m :: ms, s, s1, h => by
    rw [copiesAnew?, Option.bind_eq_some_iff] at h
    obtain ⟨s2, h1, h2⟩ := h
    rw [copyAnew?, Option.map_eq_some_iff] at h1
    obtain ⟨o, _, rfl⟩ := h1
    rw [copies_toks h2]
theorem openEnds_toks {tb : String → Option Builtin} {p : Program} {w : World} {N : Nat} {s : Shared} (h : openEnds tb p w N = some s) : 0 < s.toks := by
  unfold openEnds fencedOpening at h
  rw [Option.bind_eq_some_iff] at h
  obtain ⟨s0, h0, h⟩ := h
  rw [Option.bind_eq_some_iff] at h0
  obtain ⟨s', h1, h0⟩ := h0
  have t1 : 0 < s'.toks := Nat.lt_of_lt_of_le (show 0 < (start (opening p)).1.toks from Nat.one_pos) (importEnds_toks _ _ _ _ h1)
  have t2 : s0.toks = s'.toks := by
    unfold fenceModules? at h0
    rw [Option.bind_eq_some_iff] at h0
    obtain ⟨s2, h2, h0⟩ := h0
    split at h0
    · rw [copies_toks h0, fenceAll_toks h2]
    · cases h0; exact fenceAll_toks h2
  unfold topFrom at h
  split at h
  · rw [Option.bind_eq_some_iff] at h
    obtain ⟨s3, h3, h⟩ := h
    split at h
    · cases h; exact Nat.lt_of_lt_of_le (t2 ▸ t1) (topRun_toks _ _ _ _ h3)
    · cases h
  · cases h
theorem leftT {p q : Program} {loose : List Str} {Xt : Shared → Bool} {α : Type} {Yf : Shared → α} {Ya : World → α} {N : Nat} (left : LeftO p q loose Xt Yf Ya N) : LeftO p q loose Xt (fun s => (Yf s, decide (0 < s.toks))) (fun w => (Ya w, true)) N := fun w => by
  have h := left w
  rw [Option.map_eq_some_iff] at h ⊢
  obtain ⟨s, h1, h2⟩ := h
  refine ⟨s, h1, ?_⟩
  rw [Prod.mk.injEq] at h2
  rw [h2.1]
  show (_, (Yf s, decide (0 < s.toks))) = (_, (Ya w, true))
  rw [h2.2, decide_eq_true (openEnds_toks h1)]

/-- what is left to show of the law's call -/
noncomputable abbrev WalkG (q : Program) (loose : List Str) (XP : (Str → Option Value) → Heap → Prop) (YP : World → Heap → Prop) (r : RowW) (d : DefRec) (kwd : List (Str × PySem.Expr)) : Prop :=
  ∀ (w : World) (s₀ s₁ : Shared) (mg mb : Str → Option Value), Ground q loose r.records XP w s₀ mg mb s₁.heap → YP w s₁.heap → ∀ (a : Addr) (o : Obj) (pm cd doc dV kV : Value), s₁.heap.get? a = some o →
    o.data = .func { docDef d.name d.params d.body d.scope pm cd doc with defaults := dV, kwdefaults := kV } → s₁.heap.CodeRec cd d.name → Dflts mg s₁.heap d.params kwd dV kV → mg d.name = some (.ref a) → s₁.gens = #[] → 0 < s₁.toks →
    ∀ (args : List WData) (vals : List Value) (as : List Addr), r.claim.pre args = true → WData.layableAll args = true → ReadsAllW r.records (classAt s₀.heap) s₁.heap vals args as → WellAll w.params s₁.heap vals args → (∀ a ∈ as, (a == sysModules) = false) →
      Sem.wp (Mg r.prog w) callerG (PySem.call (.ref a) vals) (fun v _ s' => GoodWG r.claim (classAt s₀.heap) (ExcName.means s₀.heap) args s₁ (.ok (.ret v)) s') (fun _ _ _ => False) default s₁

theorem holdsG {r : OpenRow} {q : Program} {loose : List Str} {Xt : Shared → Bool} {XP : (Str → Option Value) → Heap → Prop} {α : Type} {Yf : Shared → α} {Ya : World → α} {YP : World → Heap → Prop} {d : DefRec} {kwd : List (Str × PySem.Expr)} {N : Nat}
    (left : LeftO r.prog q loose Xt Yf Ya N) (hY : ∀ w s, Yf s = Ya w → YP w s.heap) (hYk : ∀ w h h', YP w h → (∀ b o, h.get? b = some o → h'.get? b = some o) → YP w h')
    (hX : ∀ s, Xt s = true → XP (s.heap.nsMap mainGlobals) s.heap) (hXk : ∀ mg h h', XP mg h → (∀ b o, h.get? b = some o → h'.get? b = some o) → XP mg h')
    (hdef : defOf q r.name = some (d, kwd)) (hp : r.prog.theDef r.name = some (d.params, d.body, d.scope)) (hk : kwWritten? d.params.kwonlyargs d.params.kw_defaults = some kwd) (hRf : ∀ s, Xt s = true → RecFacts r.records s.heap) (hwr : (!r.writes || r.records.isEmpty) = true)
    (k1 : r.wellSaid = true) (ok : (chainsOk q && opensWell r.prog && (frees r.toRowW && r.within.isEmpty)) = true) (hb : r.prog.bare) (hw : r.toRowW.promised)
    (call : WalkG q loose XP YP r.toRowW d kwd) : r.Holds := by
  obtain ⟨ok, k5⟩ := Bool.and_eq_true_iff.mp ok
  obtain ⟨hch, o1⟩ := Bool.and_eq_true_iff.mp ok
  obtain ⟨k5, k6⟩ := Bool.and_eq_true_iff.mp k5
  obtain ⟨hsame, hu, ha, hap, hm⟩ := frees_parts k5
  refine ⟨k1, hw, ⟨hb, o1, by show r.makers.map _ = []; rw [hm]; rfl⟩, hw.witness, fun w => ⟨(left.behind hX hch w).1, fun s' hs' => ?_⟩⟩
  obtain ⟨s₀, hf, hg0, s, hT, hz, hgens, hg, G00, y0⟩ := ((leftT left).behind (XP := fun mg h => XP mg h ∧ RecFacts r.records h) (fun s hs => ⟨hX s hs, hRf s hs⟩) hch w).2 s' hs'
  obtain ⟨y, htk⟩ := Prod.mk.inj y0
  have htk : 0 < s.toks := of_decide_eq_true htk
  have G0 : Ground q loose [] XP w s (s.heap.nsMap mainGlobals) (s.heap.nsMap builtinsNs) s.heap := ⟨G00.T, G00.B, G00.D, G00.TE, G00.TD, G00.W, G00.X.1, G00.cls, G00.has, G00.apart, G00.once, G00.K⟩
  have RF := G00.X.2
  have hT' := hT
  refine ⟨s₀, hf, hg0, s, hT, fun n hn => ?_, RF.1, RF.2.1, ?_⟩
  · obtain rfl : n = r.name := by split at hn <;> simp_all
    exact pinned_of_view hg G0 hdef hp hk
  have hgens : s.gens = #[] := Array.eq_empty_of_size_eq_zero (beq_iff_eq.mp hgens)
  have G : Ground q loose r.records XP w s _ _ s.heap := RF.ground G0
  refine callFromG (c := r.toRowW.claim) (tree := fun vs => do match ← nsGet mainNs r.name with
      | some f => do ret (← PySem.call f vs)
      | none => unsupported "claim.caller:no-such-global") hz hgens fun args hpre hlay ord hord => ?_
  obtain ⟨⟨vs, s₁⟩, hlaid⟩ := Option.isSome_iff_exists.mp (layAllW_isSome (P := w.params) (ord := ord) G.has args r.args s (pre_splitW hpre).1)
  have keeps := layAllW_keeps _ _ _ hlaid
  have hal := layAllW_rest _ _ _ hlaid
  obtain ⟨as, hrd, hin, hold⟩ := reads_layAllW hord _ _ _ hlaid hlay s₁.heap (fun _ _ e => e)
  have L : Laid r.records w s s₁ args vs as := ⟨⟨ord, hord, hlaid⟩, hrd, hin, hold, keeps, hal.1.trans hgens, hal.2.2.1⟩
  have G₁ := G.keeps hXk keeps
  obtain ⟨a, o, pm, cd, doc, dV, kV, h1, h2, h3, h4, h5⟩ := G₁.fn hdef
  have h := call w s s₁ _ _ G₁ (hYk _ _ _ (hY w s y) keeps) a o pm cd doc dV kV h2 h3 h4 h5 (defOf_name hdef ▸ h1) L.gens (Nat.lt_of_lt_of_le htk (layAllW_toks _ _ _ hlaid)) args vs as hpre hlay L.reads L.well (L.low G.low)
  have hi := ident_freeW hu ha hap
  have hwi : r.claim.within = [] := List.isEmpty_iff.mp k6
  refine ⟨vs, s₁, hlaid, ?_⟩
  rw [Sem.wp_bind']
  have hns : s₁.heap.Ns mainNs (s.heap.nsMap mainGlobals) := G₁.T.g
  refine (Sem.wp_nsGet _ _ _ _ _ hns _ _).mpr ?_
  rw [h1]
  show Sem.wp _ _ (PySem.call (.ref a) vs >>= fun v => ret v) _ _ _ _
  rw [Sem.wp_bind']
  refine Sem.wp_mono _ _ _ (fun v p' s' g => ?_) (fun _ _ _ x => x) _ _ h
  have z := g.laid (c := r.claim) hsame hwi hi L
  exact ⟨_, rfl, z.1, z.2.1, z.2.2, fun q => ⟨namesKept_of hT' hg _ keeps g.2.1.old, noTable hwr q⟩⟩
end Mine

end
section
open PySem PySem.W PySem.Calls PyProof.Rows
set_option Elab.async false
set_option maxRecDepth 100000
namespace Mine

noncomputable def notCI : Code → Bool
  | .builtin id _ => !(id == "callable_iterator.__next__")
  | _ => true
noncomputable def CleanB (Γ : Ctx) : Prop := ∀ x ∈ Γ.below, notCI x.1 = true
noncomputable def Clean (Γ : Ctx) : Prop := notCI Γ.code = true ∧ CleanB Γ

theorem clean_enter {Γ : Ctx} (h : Clean Γ) (c : Code) (hd : Option Value) (p : Pos) : CleanB (Γ.enter c hd p) := by
  intro x hx
  rcases List.mem_cons.mp hx with rfl | hx
  · exact h.1
  · exact h.2 x hx
theorem clean_caller : Clean callerG := ⟨rfl, fun _ hx => nomatch hx⟩

/-! the count of tokens only grows -/
theorem runs_toks {M : Model} {Γ : Ctx} {p : Pos} {t : Sem Fin} {fs : List Frame} {s s' : Shared} {e : End} (h : Runs M Γ p t fs s e s') : s.toks ≤ s'.toks := by
  induction h <;> (try simp only [Shared.setGen] at *) <;> omega
theorem wakes_toks {M : Model} {Γ : Ctx} {p : Pos} {g : Nat} {r : Resume} {s s' : Shared} {res : GenResult} (h : Wakes M Γ p g r s res s') : s.toks ≤ s'.toks := by
  unfold Wakes at h
  split at h
  · exact h.elim
  · split at h
    · obtain ⟨e₁, s₁, hr, _, _, rfl⟩ := h; exact (runs_toks hr : (s.setGen g .running).toks ≤ s₁.toks)
    · rw [h.2]; exact Nat.le_refl _
    · rw [h.2]; exact Nat.le_refl _
  · obtain ⟨e₁, s₁, hr, _, _, rfl⟩ := h; exact (runs_toks hr : (s.setGen g .running).toks ≤ s₁.toks)
  · rw [h.2]; exact Nat.le_refl _
  · rw [h.2]; exact Nat.le_refl _
theorem wp_toks {α : Type} (M : Model) (Γ : Ctx) (n : Nat) (t : Sem α) : ∀ (Q : α → Pos → Shared → Prop) (E : Value → Pos → Shared → Prop) (p : Pos) (s : Shared), n ≤ s.toks → Sem.wp M Γ t Q E p s →
    Sem.wp M Γ t (fun a p' s' => n ≤ s'.toks ∧ Q a p' s') E p s := by
  induction t with
  | pure a => intro Q E p s hn h; exact ⟨hn, h⟩
  | raise e => intro Q E p s hn h; exact h
  | unsupported _ => intro Q E p s _ h; exact h
  | finish _ => intro Q E p s _ h; exact h
  | rule _ k ih => intro Q E p s hn h; exact ih () Q E p s hn h
  | «at» p' k ih => intro Q E p s hn h; exact ih () Q E p' s hn h
  | load a _ k ih => intro Q E p s hn h; obtain ⟨o, ho, h⟩ := h; exact ⟨o, ho, ih o Q E p s hn h⟩
  | update a _ f k ih => intro Q E p s hn h; exact ⟨h.1, ih () Q E p _ hn h.2⟩
  | loadIfAlive a k ih => intro Q E p s hn h; exact ih _ Q E p s hn h
  | point _ k ih => intro Q E p s hn h; exact ih () Q E p s hn h
  | register _ _ => intro Q E p s _ h; exact h
  | alloc o k ih => intro Q E p s hn h; exact ih _ Q E p _ hn h
  | fresh k ih => intro Q E p s hn h; exact ih _ Q E p { s with toks := s.toks + 1 } (Nat.le_succ_of_le hn) h
  | ask k ih => intro Q E p s hn h; exact ih _ Q E p s hn h
  | choose src m k ih => intro Q E p s hn h; exact ⟨h.1, ih _ Q E p _ hn h.2⟩
  | os q _ k ih => intro Q E p s hn h; exact ih _ Q E p _ hn h
  | call c hd _ _ k ih => intro Q E p s hn h; obtain ⟨r, s', hr, h⟩ := h; exact ⟨r, s', hr, ih r Q E p s' (Nat.le_trans hn (runs_toks hr)) h⟩
  | handled own k ih => intro Q E p s hn h; exact ih _ Q E p s hn h
  | genState g k ih => intro Q E p s hn h; obtain ⟨st, hs, h⟩ := h; exact ⟨st, hs, ih _ Q E p s hn h⟩
  | newGen c k ih => intro Q E p s hn h; exact ih _ Q E p _ hn h
  | resume g r _ k ih => intro Q E p s hn h; obtain ⟨res, s', hw, h⟩ := h; exact ⟨res, s', hw, ih res Q E p s' (Nat.le_trans hn (wakes_toks hw)) h⟩
  | yield _ _ _ _ => intro Q E p s _ h; exact h
  | stack k ih => intro Q E p s hn h; exact ih _ Q E p s hn h
  | fork _ _ => intro Q E p s _ h; exact h
  | thread k ih => intro Q E p s hn h; exact ih _ Q E p s hn h
  | await _ _ _ _ _ => intro Q E p s _ h; exact h

/-- from s the tree comes to its end without an exception, in every context that runs no callable iterator's step -/
noncomputable def W {α : Type} (prog : Program) (w : World) (A : Around) (t : Sem α) (Q : α → Shared → Prop) (s : Shared) : Prop :=
  0 < s.toks → ∀ Γ p, Γ.In A → Clean Γ → Sem.wp (Mg prog w) Γ t (fun a _ s' => Q a s') (fun _ _ _ => False) p s
noncomputable def C (prog : Program) (w : World) (A : Around) (c : Code) (R : Flow → Shared → Prop) (s : Shared) : Prop :=
  0 < s.toks → ∀ Γ p, Γ.code = c → Γ.Below A → CleanB Γ → wpCode (Mg prog w) Γ (fun r s' => match r with | .ok f => R f s' | .error _ => False) p s

section
variable {α β : Type} {prog : Program} {w : World} {A : Around} {s : Shared}

theorem W.of_any {t : Sem α} {Q : α → Shared → Prop} (h : wpAny (model prog w) A t Q (fun _ _ => False) s) : W prog w A t Q s :=
  fun _ Γ p hΓ _ => any_mono_model h Γ p hΓ
theorem W.mono {t : Sem α} {Q Q' : α → Shared → Prop} (h : W prog w A t Q s) (hQ : ∀ a s', Q a s' → Q' a s') : W prog w A t Q' s :=
  fun ht Γ p hΓ hc => Sem.wp_mono _ Γ t (fun a _ s => hQ a s) (fun _ _ _ x => x) p s (h ht Γ p hΓ hc)
/-- there is a token ahead of each -/
theorem W.tok {t : Sem α} {Q : α → Shared → Prop} (h : 0 < s.toks → W prog w A t Q s) : W prog w A t Q s := fun ht => h ht ht
theorem W.pure {a : α} {Q : α → Shared → Prop} (h : Q a s) : W prog w A (Pure.pure a) Q s := fun _ _ _ _ _ => h
theorem W.bind {m : Sem α} {f : α → Sem β} {Q : β → Shared → Prop} (h : W prog w A m (fun a s' => W prog w A (f a) Q s') s) : W prog w A (m >>= f) Q s := fun ht Γ p hΓ hc => by
  rw [Sem.wp_bind']
  exact Sem.wp_mono _ Γ m (fun a p' s' h' => h'.2 h'.1 Γ p' hΓ hc) (fun _ _ _ h' => h') p s (wp_toks _ Γ 1 m _ _ p s ht (h ht Γ p hΓ hc))
theorem W.map {m : Sem α} {f : α → β} {Q : β → Shared → Prop} (h : W prog w A m (fun a s' => Q (f a) s') s) : W prog w A (f <$> m) Q s := fun ht Γ p hΓ hc => by
  rw [Sem.wp_map]; exact h ht Γ p hΓ hc
theorem W.holding {vs : List Value} {m : Sem α} {Q : α → Shared → Prop} (h : W prog w A m Q s) : W prog w A (PySem.holding vs m) Q s :=
  fun ht Γ p hΓ hc => by rw [Sem.wp_holding]; exact h ht Γ p hΓ hc
theorem W.keep {vs : List Value} {m : Sem α} {Q : α → Shared → Prop} (h : W prog w A m Q s) : W prog w A (m.keep vs) Q s :=
  fun ht Γ p hΓ hc => by rw [Sem.wp_keep]; exact h ht Γ p hΓ hc
theorem W.standAt {pos : Pos} {Q : Unit → Shared → Prop} (h : Q () s) : W prog w A (PySem.standAt pos) Q s := fun _ _ _ _ _ => h
theorem W.rule {tag : String} {Q : Unit → Shared → Prop} (h : Q () s) : W prog w A (PySem.rule tag) Q s := fun _ _ _ _ _ => h
theorem W.point {Q : Unit → Shared → Prop} (h : Q () s) : W prog w A PySem.point Q s := fun _ _ _ _ _ => h
theorem W.onRaise {m : Sem α} {k : Value → Sem Unit} {Q : α → Shared → Prop} (h : W prog w A m Q s) : W prog w A (m.onRaise k) Q s := fun ht Γ p hΓ hc => by
  rw [Sem.wp_onRaise]
  exact Sem.wp_mono _ Γ m (fun _ _ _ h' => h') (fun _ _ _ h' => h'.elim) p s (h ht Γ p hΓ hc)
theorem W.attempt {m : Sem α} {Q : Except Value α → Shared → Prop} (h : W prog w A m (fun a => Q (.ok a)) s) : W prog w A m.attempt Q s := fun ht Γ p hΓ hc => by
  rw [Sem.wp_attempt]
  exact Sem.wp_mono _ Γ m (fun _ _ _ h' => h') (fun _ _ _ h' => h'.elim) p s (h ht Γ p hΓ hc)
theorem W.operate {vs : List Value} {m : Sem Value} {Q : Value → Shared → Prop} (h : W prog w A m Q s) : W prog w A (PySem.operate vs m) Q s := fun ht Γ p hΓ hc => by
  rw [Sem.wp_operate]; exact h ht Γ p hΓ hc
theorem W.of_eq {t t' : Sem α} {Q : α → Shared → Prop} (e : t = t') (h : W prog w A t' Q s) : W prog w A t Q s := e ▸ h
theorem W.pureQ {a : α} {Q : α → Shared → Prop} (h : Q a s) : W prog w A (Sem.pure a) Q s := fun _ _ _ _ _ => h

theorem C.mono {c : Code} {R R' : Flow → Shared → Prop} (h : C prog w A c R s) (hR : ∀ f s', R f s' → R' f s') : C prog w A c R' s :=
  fun ht Γ p hc hΓ hb => wpCode_mono (fun r s' h' => by cases r with | ok f => exact hR f s' h' | error e => exact h') (h ht Γ p hc hΓ hb)
theorem C.of_any {c : Code} {R : Flow → Shared → Prop} (h : codeAny (model prog w) A c (fun r s' => match r with | .ok f => R f s' | .error _ => False) s) : C prog w A c R s :=
  fun _ Γ p hc hΓ _ => wpCode_mono_model (fun _ _ x => x) (h Γ p hc hΓ)
theorem W.run {c : Code} {Q : Flow → Shared → Prop} (hc : C prog w A c Q s) : W prog w A (PySem.run c) Q s := fun ht Γ p hΓ hcl => by
  rw [Sem.wp_run]
  refine wpCode_mono (fun r s' h' => ?_) (hc ht _ p rfl (by have := hΓ.enter c none p (by intro x; cases x); exact this) (clean_enter hcl c none p))
  cases r with
  | ok f => exact h'
  | error e => exact h'
theorem W.runValue {c : Code} {Q : Value → Shared → Prop} (hc : C prog w A c (fun f s' => ∃ v, f = .ret v ∧ Q v s') s) : W prog w A (PySem.runValue c) Q s := by
  unfold PySem.runValue
  refine W.bind (W.mono (W.run hc) fun f s' h' => ?_)
  obtain ⟨v, rfl, hv⟩ := h'
  exact W.pure hv
theorem W.call {f : Value} {pos : List Value} {kw : List (Str × Value)} {Q : Value → Shared → Prop} (hc : C prog w A (.call f ⟨pos, kw⟩) (fun f s' => ∃ v, f = .ret v ∧ Q v s') s) :
    W prog w A (PySem.call f pos kw) Q s := W.runValue hc
theorem W.runOwn {c : Code} {env : Env} {Q : Flow → Shared → Prop} (hc : C prog w A c Q s) : W prog w A (PySem.runOwn c env) Q s := by
  unfold PySem.runOwn
  exact W.onRaise (W.run hc)

theorem C.of_tree {c : Code} {R : Flow → Shared → Prop} (hci : notCI c = true) (hask : isAsk c = false)
    (h : W prog w (A.under c) (denote table c) (fun fin s' => match fin with | .done f => R f s' | .again c' => c'.quiet = true ∧ C prog w A c' R s') s) : C prog w A c R s := fun ht Γ p hc hΓ hb => by
  rw [wpCode_iff_wp, hc]
  show Sem.wp (Mg prog w) Γ (denG c) _ _ p s
  rw [denG_of_not hask]
  refine Sem.wp_mono _ Γ _ (fun fin p' s' h' => ?_) (fun _ _ _ h' => h'.elim) p s (wp_toks _ Γ 1 _ _ _ p s ht (h ht Γ p (hc ▸ hΓ.in) ⟨by rw [hc]; exact hci, hb⟩))
  obtain ⟨ht', h'⟩ := h'
  cases fin with
  | done f => exact h'
  | again c' => exact ⟨h'.1, h'.2 ht' (Γ.goto c') p' rfl (hΓ.goto c') hb⟩

theorem C.loop {c : Code} {R : Flow → Shared → Prop} (hci : notCI c = true) (hask : isAsk c = false) (hq : c.quiet = true) (I : Nat → Shared → Prop)
    (turn : ∀ n s, I n s → W prog w (A.under c) (denote table c)
      (fun fin s' => match fin with | .done f => R f s' | .again c' => (c' = c ∧ ∃ m, m < n ∧ I m s') ∨ (c'.quiet = true ∧ C prog w A c' R s')) s)
    (n : Nat) (h : I n s) : C prog w A c R s := by
  induction n using Nat.strongRecOn generalizing s with
  | ind n ih =>
    refine C.of_tree hci hask (W.mono (turn n s h) (fun fin s' hf => ?_))
    cases fin with
    | done f => exact hf
    | again c' =>
      rcases hf with ⟨rfl, m, hm, hI⟩ | hf
      · exact ⟨hq, ih m hm hI⟩
      · exact hf

/-! the codes of the text -/
theorem C.block {stmts : List Stmt} {env : Env} {R : Flow → Shared → Prop} (h : W prog w A (execs stmts env) R s) : C prog w A (.block stmts env) R s := by
  refine C.of_tree rfl rfl ?_
  show W _ _ A (do return Fin.done (← (execs stmts env).onRaise (fun x => do noteFrame x env; theTreesLotGoes x))) _ s
  exact W.bind (W.mono (W.onRaise h) fun f s' h' => W.pure h')

theorem C.func {body : List Stmt} {env : Env} {R : Flow → Shared → Prop} (h : W prog w (A.deeper env) (execs body env) (fun f s' => R (.ret (match f with | .ret v => v | _ => .none)) s') s) : C prog w A (.func body env) R s := by
  refine C.of_tree rfl rfl ?_
  show W _ _ (A.deeper env) (do point; match ← (execs body env).onRaise (leaving env) with | .ret v => ret v | _ => ret .none) _ s
  refine W.bind (W.point (W.bind (W.mono (W.onRaise h) fun f s' h' => ?_)))
  cases f <;> exact W.pure h'

theorem C.forLoop {target : PySem.Expr} {it : Value} {body : List Stmt} {env : Env} {R : Flow → Shared → Prop} (I : Nat → Shared → Prop)
    (turn : ∀ n s, I n s → W prog w A (pyNext it) (fun r s₁ => match r with
        | none => R .next s₁
        | some v => W prog w A (letOwnedTupleGo target it v) (fun _ s₂ => W prog w A (assign target env v) (fun _ s₃ => W prog w A (execs body env) (fun f s₄ => match f with
            | .next | .cont => ∃ m, m < n ∧ I m s₄
            | .brk => R .next s₄
            | .ret v => R (.ret v) s₄) s₃) s₂) s₁) s)
    (n : Nat) (h : I n s) : C prog w A (.forLoop target it body [] env) R s := by
  refine C.loop rfl rfl rfl I (fun n s hI => ?_) n h
  show W _ _ A ((forTurn target it body [] env).onRaise (fun x => do noteFrame x env; theTreesLotGoes x)) _ s
  refine W.onRaise ?_
  simp only [forTurn]
  refine W.bind (W.standAt (W.bind (W.onRaise (W.mono (turn n s hI) fun r s₁ h₁ => ?_))))
  cases r with
  | none => exact W.pure (Or.inr ⟨rfl, C.block (W.pure h₁)⟩)
  | some v =>
    refine W.bind (W.mono h₁ fun _ s₂ h₂ => W.bind (W.mono h₂ fun _ s₃ h₃ => W.bind (W.mono h₃ fun f s₄ h₄ => ?_)))
    cases f with
    | next => exact W.pure (Or.inl ⟨rfl, h₄⟩)
    | cont => exact W.pure (Or.inl ⟨rfl, h₄⟩)
    | brk => exact W.pure h₄
    | ret v => exact W.pure h₄
end
end Mine

end
section
open PySem PySem.W PySem.Calls PyProof.Rows
set_option Elab.async false
set_option maxRecDepth 100000
namespace Mine

/-- plain data -/
inductive D where
  | none
  | bool (b : Bool)
  | int (i : Int)
  | str (l : List Nat)
  | list (xs : List D)
  | tup (xs : List D)
  | mat (t : List Nat) (b e g : Nat)
  | inst (q : List Nat)

abbrev Avd := Addr → Prop

structure Cx where
  prog : Program
  w : World
  h₁ : Heap
  mg : Str → Option Value
  mb : Str → Option Value
  hg : h₁.Ns mainGlobals mg
  hb : h₁.Ns builtinsNs mb
  lim : h₁.NoLimit
  pat : Addr
  inst : Heap → Avd → List Nat → Value → Prop
  instMono : ∀ {h h' : Heap} {Av Av' : Avd} {q : List Nat} {v : Value}, (∀ a o, ¬ Av a → h.get? a = some o → h'.get? a = some o) → (∀ a, Av' a → Av a ∨ h.get? a = Option.none) → inst h Av q v → inst h' Av' q v

noncomputable def matSpans (b e g : Nat) : List Value :=
  [rawInt b, rawInt e] ++ (List.range 3).flatMap fun k => if k + 1 = g then [rawInt b, rawInt e] else [rawInt (-1), rawInt (-1)]

structure MatAt (cx : Cx) (h : Heap) (Av : Avd) (t : List Nat) (b e g : Nat) (v : Value) (a sp : Addr) : Prop where
  val : v = .ref a
  obj : ∃ tk : Tok, h.get? a = some { cls := .type "re.Match", data := .fields #[.str ⟨t.toArray⟩ tk, .ref cx.pat, rawInt 0, rawInt t.length, rawInt g, .ref sp] }
  spans : ∃ n, h.get? sp = some { cls := .type "tuple", data := .seq (matSpans b e g).toArray n }
  ok : (∀ c ∈ t, c < 0x110000) ∧ t.length ≤ sizeLine ∧ b ≤ e ∧ e ≤ t.length ∧ 1 ≤ g ∧ g ≤ 3
  av : ¬ Av a ∧ ¬ Av sp

mutual
/-- the value v reads as the datum in the heap, and no object on the way is one of Av -/
noncomputable def Rd (cx : Cx) (h : Heap) (Av : Avd) : D → Value → Prop
  | .none, v => v = .none
  | .bool b, v => v = .bool b
  | .int i, v => ∃ t, v = .int i t
  | .str l, v => ∃ t, v = .str ⟨l.toArray⟩ t ∧ (∀ c ∈ l, c < 0x110000) ∧ l.length ≤ sizeLine
  | .list ds, v => ∃ a vs n, v = .ref a ∧ h.get? a = some { cls := .type "list", data := .seq vs n } ∧ ¬ Av a ∧ vs.size ≤ sizeLine ∧ RdAll cx h Av ds vs.toList
  | .tup ds, v => ∃ a vs n, v = .ref a ∧ h.get? a = some { cls := .type "tuple", data := .seq vs n } ∧ ¬ Av a ∧ vs.size ≤ sizeLine ∧ RdAll cx h Av ds vs.toList
  | .mat t b e g, v => ∃ a sp, MatAt cx h Av t b e g v a sp
  | .inst q, v => cx.inst h Av q v
noncomputable def RdAll (cx : Cx) (h : Heap) (Av : Avd) : List D → List Value → Prop
  | [], vs => vs = []
  | d :: ds, vs => ∃ v r, vs = v :: r ∧ Rd cx h Av d v ∧ RdAll cx h Av ds r
end

section
variable {cx : Cx} {h h' : Heap} {Av Av' : Avd}
theorem not_av {a : Addr} {o : Obj} (ha : ∀ a, Av' a → Av a ∨ h.get? a = Option.none) (hv : ¬ Av a) (ho : h.get? a = some o) : ¬ Av' a := fun x =>
  (ha a x).elim hv fun y => by rw [y] at ho; cases ho
mutual
theorem Rd.mono (hk : ∀ a o, ¬ Av a → h.get? a = some o → h'.get? a = some o) (ha : ∀ a, Av' a → Av a ∨ h.get? a = Option.none) : ∀ {d : D} {v : Value}, Rd cx h Av d v → Rd cx h' Av' d v
  | .none, _, r => by rw [Rd] at r ⊢; exact r
  | .bool _, _, r => by rw [Rd] at r ⊢; exact r
  | .int _, _, r => by rw [Rd] at r ⊢; exact r
  | .str _, _, r => by rw [Rd] at r ⊢; exact r
  | .list ds, v, r => by
    rw [Rd] at r ⊢
    obtain ⟨a, vs, n, e, ho, hv, hz, hr⟩ := r
    exact ⟨a, vs, n, e, hk a _ hv ho, not_av ha hv ho, hz, RdAll.mono hk ha hr⟩
  | .tup ds, v, r => by
    rw [Rd] at r ⊢
    obtain ⟨a, vs, n, e, ho, hv, hz, hr⟩ := r
    exact ⟨a, vs, n, e, hk a _ hv ho, not_av ha hv ho, hz, RdAll.mono hk ha hr⟩
  | .mat t b e g, v, r => by
    rw [Rd] at r ⊢
    obtain ⟨a, sp, r⟩ := r
    obtain ⟨tk, ho⟩ := r.obj
    obtain ⟨n, hs⟩ := r.spans
    exact ⟨a, sp, r.val, ⟨tk, hk _ _ r.av.1 ho⟩, ⟨n, hk _ _ r.av.2 hs⟩, r.ok, ⟨not_av ha r.av.1 ho, not_av ha r.av.2 hs⟩⟩
  | .inst q, v, r => by rw [Rd] at r ⊢; exact cx.instMono hk ha r
theorem RdAll.mono (hk : ∀ a o, ¬ Av a → h.get? a = some o → h'.get? a = some o) (ha : ∀ a, Av' a → Av a ∨ h.get? a = Option.none) : ∀ {ds : List D} {vs : List Value}, RdAll cx h Av ds vs → RdAll cx h' Av' ds vs
  | [], _, r => by rw [RdAll] at r ⊢; exact r
  | d :: ds, _, r => by
    rw [RdAll] at r ⊢
    obtain ⟨v, l, e, r1, r2⟩ := r
    exact ⟨v, l, e, Rd.mono hk ha r1, RdAll.mono hk ha r2⟩
end
theorem Rd.keep {d : D} {v : Value} (r : Rd cx h Av d v) (hk : ∀ a o, h.get? a = some o → h'.get? a = some o) : Rd cx h' Av d v := r.mono (fun a o _ e => hk a o e) fun _ x => .inl x
theorem RdAll.keep {d : List D} {v : List Value} (r : RdAll cx h Av d v) (hk : ∀ a o, h.get? a = some o → h'.get? a = some o) : RdAll cx h' Av d v := r.mono (fun a o _ e => hk a o e) fun _ x => .inl x
theorem Rd.weak {d : D} {v : Value} (r : Rd cx h Av d v) (ha : ∀ a, Av' a → Av a) : Rd cx h Av' d v := r.mono (fun _ _ _ e => e) fun a x => .inl (ha a x)
theorem RdAll.weak {d : List D} {v : List Value} (r : RdAll cx h Av d v) (ha : ∀ a, Av' a → Av a) : RdAll cx h Av' d v := r.mono (fun _ _ _ e => e) fun a x => .inl (ha a x)

theorem RdAll.length : ∀ {ds : List D} {vs : List Value}, RdAll cx h Av ds vs → vs.length = ds.length
  | [], _, r => by rw [RdAll] at r; subst r; rfl
  | d :: ds, _, r => by
    rw [RdAll] at r
    obtain ⟨v, l, rfl, r1, r2⟩ := r
    simp [RdAll.length r2]
theorem RdAll.cons {d : D} {ds : List D} {v : Value} {vs : List Value} (h1 : Rd cx h Av d v) (h2 : RdAll cx h Av ds vs) : RdAll cx h Av (d :: ds) (v :: vs) := by rw [RdAll]; exact ⟨v, vs, rfl, h1, h2⟩
theorem RdAll.nil : RdAll cx h Av [] [] := by rw [RdAll]
theorem RdAll.append : ∀ {ds es : List D} {vs us : List Value}, RdAll cx h Av ds vs → RdAll cx h Av es us → RdAll cx h Av (ds ++ es) (vs ++ us)
  | [], _, _, _, r, q => by rw [RdAll] at r; subst r; exact q
  | d :: ds, es, _, us, r, q => by
    rw [RdAll] at r
    obtain ⟨v, l, rfl, r1, r2⟩ := r
    exact RdAll.cons r1 (RdAll.append r2 q)
theorem RdAll.get : ∀ {ds : List D} {vs : List Value}, RdAll cx h Av ds vs → ∀ {i : Nat} {d : D}, ds[i]? = some d → ∃ v, vs[i]? = some v ∧ Rd cx h Av d v
  | [], _, _, _, _, e => by simp at e
  | d :: ds, _, r, i, d', e => by
    rw [RdAll] at r
    obtain ⟨v, l, rfl, r1, r2⟩ := r
    cases i with
    | zero => simp at e; subst e; exact ⟨v, rfl, r1⟩
    | succ i => simp at e; exact RdAll.get r2 e
theorem RdAll.of_get : ∀ {ds : List D} {vs : List Value}, vs.length = ds.length → (∀ (i : Nat) (d : D) (v : Value), ds[i]? = some d → vs[i]? = some v → Rd cx h Av d v) → RdAll cx h Av ds vs
  | [], vs, hl, _ => by
    cases vs with
    | nil => exact RdAll.nil
    | cons _ _ => simp at hl
  | d :: ds, vs, hl, hg => by
    cases vs with
    | nil => simp at hl
    | cons v vs => exact RdAll.cons (hg 0 d v rfl rfl) (RdAll.of_get (by simpa using hl) fun i d' v' e1 e2 => hg (i + 1) d' v' (by simpa using e1) (by simpa using e2))
theorem RdAll.take {ds : List D} {vs : List Value} (r : RdAll cx h Av ds vs) (n : Nat) : RdAll cx h Av (ds.take n) (vs.take n) := by
  refine RdAll.of_get (by simp [r.length]) fun i d v e1 e2 => ?_
  rw [List.getElem?_take] at e1 e2
  split at e1
  · rename_i hlt
    rw [if_pos hlt] at e2
    obtain ⟨v', e, q⟩ := r.get e1
    rw [e] at e2; cases e2; exact q
  · cases e1
theorem RdAll.drop {ds : List D} {vs : List Value} (r : RdAll cx h Av ds vs) (n : Nat) : RdAll cx h Av (ds.drop n) (vs.drop n) := by
  refine RdAll.of_get (by simp [r.length]) fun i d v e1 e2 => ?_
  rw [List.getElem?_drop] at e1 e2
  obtain ⟨v', e, q⟩ := r.get e1
  rw [e] at e2; cases e2; exact q
theorem RdAll.set {ds : List D} {vs : List Value} (r : RdAll cx h Av ds vs) (n : Nat) {d : D} {v : Value} (q : Rd cx h Av d v) : RdAll cx h Av (ds.set n d) (vs.set n v) := by
  refine RdAll.of_get (by simp [r.length]) fun i d' v' e1 e2 => ?_
  by_cases hn : n = i
  · subst hn
    rw [List.getElem?_set_self'] at e1 e2
    cases h1 : ds[n]? with
    | none => rw [h1] at e1; cases e1
    | some x =>
      obtain ⟨y, e, _⟩ := r.get h1
      rw [h1] at e1; rw [e] at e2
      cases e1; cases e2; exact q
  · rw [List.getElem?_set_ne hn] at e1 e2
    obtain ⟨v'', e, q'⟩ := r.get e1
    rw [e] at e2; cases e2; exact q'
theorem RdAll.reverse {ds : List D} {vs : List Value} (r : RdAll cx h Av ds vs) : RdAll cx h Av ds.reverse vs.reverse := by
  refine RdAll.of_get (by simp [r.length]) fun i d v e1 e2 => ?_
  have hi : i < ds.length := by
    rcases Nat.lt_or_ge i ds.length with hlt | hge
    · exact hlt
    · rw [List.getElem?_eq_none (by simpa using hge)] at e1; cases e1
  rw [List.getElem?_reverse (by simpa using hi)] at e1
  rw [List.getElem?_reverse (by rw [r.length]; exact hi), r.length] at e2
  obtain ⟨v', e, q⟩ := r.get e1
  rw [e] at e2; cases e2; exact q
end
end Mine

end
section
open PySem PySem.W PySem.Calls PyProof.Rows
set_option Elab.async false
set_option maxRecDepth 100000
namespace Mine

inductive Slot where
  | unb
  | val (d : D)
  | own (xs : List D)

/-- nothing that stood is changed -/
structure Ext (s s' : Shared) : Prop where
  gens : s'.gens = s.gens
  os : s'.os = s.os
  size : s.heap.objs.size ≤ s'.heap.objs.size
  keep : ∀ a o, s.heap.get? a = some o → s'.heap.get? a = some o
theorem Ext.refl (s : Shared) : Ext s s := ⟨rfl, rfl, Nat.le_refl _, fun _ _ e => e⟩
theorem Ext.trans {a b c : Shared} (x : Ext a b) (y : Ext b c) : Ext a c := ⟨y.gens.trans x.gens, y.os.trans x.os, Nat.le_trans x.size y.size, fun p o e => y.keep p o (x.keep p o e)⟩
theorem Ext.toks {s : Shared} (t : Nat) : Ext s { s with toks := t } := ⟨rfl, rfl, Nat.le_refl _, fun _ _ e => e⟩
theorem Ext.push {s : Shared} (o : Obj) (t : Nat) : Ext s { s with heap := s.heap.push o, toks := t } :=
  ⟨rfl, rfl, by show _ ≤ (s.heap.push o).objs.size; rw [Heap.size_push]; exact Nat.le_succ _, fun _ _ e => Heap.get?_push_of_some _ e⟩

noncomputable def muts (env : Env) (O : Nat → Option Addr) : Avd := fun a => (∃ j, O j = some a) ∨ a = env.locals ∨ ∃ x, env.cells.lookup x = some a
noncomputable def Av (env : Env) (P : Avd) (O : Nat → Option Addr) : Avd := fun a => P a ∨ muts env O a

/-- of what stood only the frame's own names and lists are changed -/
structure Tr (env : Env) (O : Nat → Option Addr) (s : Shared) (O' : Nat → Option Addr) (s' : Shared) : Prop where
  gens : s'.gens = s.gens
  os : s'.os = s.os
  size : s.heap.objs.size ≤ s'.heap.objs.size
  keep : ∀ a o, ¬ muts env O a → s.heap.get? a = some o → s'.heap.get? a = some o
  own : ∀ j a, O' j = some a → (∃ i, O i = some a) ∨ s.heap.objs.size ≤ a

theorem get_none {h : Heap} {a : Addr} (ha : h.objs.size ≤ a) : h.get? a = none := by
  cases e : h.get? a with
  | none => rfl
  | some o => exact absurd (Heap.lt_size e) (Nat.not_lt.mpr ha)

theorem Tr.refl (env : Env) (O : Nat → Option Addr) (s : Shared) : Tr env O s O s := ⟨rfl, rfl, Nat.le_refl _, fun _ _ _ e => e, fun j _ e => .inl ⟨j, e⟩⟩
theorem Tr.trans {env : Env} {O O' O'' : Nat → Option Addr} {s s' s'' : Shared} (x : Tr env O s O' s') (y : Tr env O' s' O'' s'') : Tr env O s O'' s'' where
  gens := y.gens.trans x.gens
  os := y.os.trans x.os
  size := Nat.le_trans x.size y.size
  keep := fun a o hn e => y.keep a o (fun m => by
    rcases m with ⟨j, hj⟩ | m
    · rcases x.own j a hj with ⟨i, hi⟩ | hge
      · exact hn (.inl ⟨i, hi⟩)
      · exact absurd (Heap.lt_size e) (Nat.not_lt.mpr hge)
    · exact hn (.inr m)) (x.keep a o hn e)
  own := fun j a hj => by
    rcases y.own j a hj with ⟨i, hi⟩ | hge
    · exact x.own i a hi
    · exact .inr (Nat.le_trans x.size hge)
theorem Ext.tr {env : Env} {O : Nat → Option Addr} {s s' : Shared} (x : Ext s s') : Tr env O s O s' := ⟨x.gens, x.os, x.size, fun a o _ e => x.keep a o e, fun j _ e => .inl ⟨j, e⟩⟩

noncomputable def SlotOk (cx : Cx) (h : Heap) (V : Avd) (O : Nat → Option Addr) (i : Nat) (v? : Option Value) : Slot → Prop
  | .unb => True
  | .val d => ∃ v, v? = some v ∧ Rd cx h V d v
  | .own xs => ∃ a vs n, O i = some a ∧ v? = some (.ref a) ∧ h.get? a = some { cls := .type "list", data := .seq vs n } ∧ vs.size ≤ sizeLine ∧ RdAll cx h V xs vs.toList

structure FrV (cx : Cx) (sc : Scope) (tab : List (Option Str)) (env : Env) (P : Avd) (O : Nat → Option Addr) (vm : Str → Option Value) (s : Shared) (ρ : List Slot) : Prop where
  scope : env.scope = sc
  kind : sc.kind = .function
  glob : env.globals = mainGlobals
  blt : env.builtins = builtinsNs
  base : ∀ a o, cx.h₁.get? a = some o → s.heap.get? a = some o
  ns : ∃ m, s.heap.Ns env.locals m ∧ ∀ x, sc.names.lookup x = some .local → m x = vm x
  cell : ∀ x c, env.cells.lookup x = some c → s.heap.IsCell c (vm x)
  apart : env.cells.Pairwise fun x y => x.2 ≠ y.2
  fresh : ∀ a, muts env O a → cx.h₁.objs.size ≤ a ∧ a < s.heap.objs.size
  nsCell : ∀ x, env.cells.lookup x ≠ some env.locals
  av : ∀ a, P a → a < s.heap.objs.size
  len : ρ.length = tab.length
  tabInj : ∀ (i j : Nat) (x : Str), tab[i]? = some (some x) → tab[j]? = some (some x) → i = j
  cellNL : ∀ x c, env.cells.lookup x = some c → sc.names.lookup x ≠ some .local
  known : ∀ (i : Nat) (x : Str), tab[i]? = some (some x) → sc.names.lookup x = some .local ∨ ((sc.names.lookup x = some .cell ∨ sc.names.lookup x = some .free) ∧ (env.cells.lookup x).isSome = true)
  slots : ∀ (i : Nat) (x : Str) (sl : Slot), tab[i]? = some (some x) → ρ[i]? = some sl → SlotOk cx s.heap (Av env P O) O i (vm x) sl
  ownInj : ∀ (i j : Nat) (a : Addr), O i = some a → O j = some a → i = j
  ownSlot : ∀ (i : Nat) (a : Addr), O i = some a → ∃ x xs, tab[i]? = some (some x) ∧ ρ[i]? = some (.own xs)
  ownApart : ∀ (j : Nat) (a : Addr), O j = some a → a ≠ env.locals ∧ ∀ x, env.cells.lookup x ≠ some a
  ownNP : ∀ (j : Nat) (a : Addr), O j = some a → ¬ P a

section
variable {cx : Cx} {sc : Scope} {tab : List (Option Str)} {env : Env} {P : Avd} {O : Nat → Option Addr} {vm : Str → Option Value} {s s' : Shared} {ρ : List Slot}

theorem FrV.avLt (F : FrV cx sc tab env P O vm s ρ) {a : Addr} (h : Av env P O a) : a < s.heap.objs.size := h.elim (F.av a) fun m => (F.fresh a m).2
theorem FrV.new (F : FrV cx sc tab env P O vm s ρ) {a : Addr} (h : s.heap.objs.size ≤ a) : ¬ Av env P O a := fun x => Nat.lt_irrefl _ (Nat.lt_of_lt_of_le (F.avLt x) h)

theorem SlotOk.keep {h h' : Heap} {V : Avd} {i : Nat} {v? : Option Value} {sl : Slot} (x : SlotOk cx h V O i v? sl) (hk : ∀ a o, h.get? a = some o → h'.get? a = some o) : SlotOk cx h' V O i v? sl := by
  cases sl with
  | unb => trivial
  | val d => obtain ⟨v, e, r⟩ := x; exact ⟨v, e, r.keep hk⟩
  | own xs => obtain ⟨a, vs, n, e1, e2, e3, e4, r⟩ := x; exact ⟨a, vs, n, e1, e2, hk _ _ e3, e4, r.keep hk⟩

theorem FrV.ext (F : FrV cx sc tab env P O vm s ρ) (x : Ext s s') : FrV cx sc tab env P O vm s' ρ where
  scope := F.scope
  kind := F.kind
  glob := F.glob
  blt := F.blt
  base := fun a o e => x.keep a o (F.base a o e)
  ns := let ⟨m, h1, h2⟩ := F.ns; ⟨m, h1.keeps x.keep, h2⟩
  cell := fun y c e => (F.cell y c e).keeps x.keep
  apart := F.apart
  fresh := fun a m => ⟨(F.fresh a m).1, Nat.lt_of_lt_of_le (F.fresh a m).2 x.size⟩
  nsCell := F.nsCell
  av := fun a h => Nat.lt_of_lt_of_le (F.av a h) x.size
  len := F.len
  tabInj := F.tabInj
  cellNL := F.cellNL
  known := F.known
  slots := fun i y sl h1 h2 => (F.slots i y sl h1 h2).keep x.keep
  ownInj := F.ownInj
  ownSlot := F.ownSlot
  ownApart := F.ownApart
  ownNP := F.ownNP

/-- a change of the avoided objects: fewer -/
theorem FrV.lessP {P' : Avd} (F : FrV cx sc tab env P O vm s ρ) (hP : ∀ a, P' a → P a) : FrV cx sc tab env P' O vm s ρ :=
  { F with
    av := fun a h => F.av a (hP a h)
    ownNP := fun j a e h => F.ownNP j a e (hP a h)
    slots := fun i y sl h1 h2 => by
      have hs := F.slots i y sl h1 h2
      have hA : ∀ a, Av env P' O a → Av env P O a := fun a h => h.imp (hP a) id
      cases sl with
      | unb => trivial
      | val d => obtain ⟨v, e, r⟩ := hs; exact ⟨v, e, r.weak hA⟩
      | own xs => obtain ⟨a, vs, n, e1, e2, e3, e4, r⟩ := hs; exact ⟨a, vs, n, e1, e2, e3, e4, r.weak hA⟩ }

theorem rd_moreP {V V' : Avd} {h : Heap} {N : Nat} (hV : ∀ a, V' a → V a ∨ N ≤ a) {h' : Heap} (hk : ∀ a o, h.get? a = some o → h'.get? a = some o) (hN : h.objs.size ≤ N) {d : D} {v : Value} (r : Rd cx h V d v) : Rd cx h' V' d v :=
  r.mono (fun a o _ e => hk a o e) fun a x => (hV a x).imp id fun y => get_none (Nat.le_trans hN y)
theorem rdAll_moreP {V V' : Avd} {h : Heap} {N : Nat} (hV : ∀ a, V' a → V a ∨ N ≤ a) {h' : Heap} (hk : ∀ a o, h.get? a = some o → h'.get? a = some o) (hN : h.objs.size ≤ N) {d : List D} {v : List Value} (r : RdAll cx h V d v) : RdAll cx h' V' d v :=
  r.mono (fun a o _ e => hk a o e) fun a x => (hV a x).imp id fun y => get_none (Nat.le_trans hN y)

/-- a change of the avoided objects: more, all of them new -/
theorem FrV.moreP {P' : Avd} (F : FrV cx sc tab env P O vm s ρ) (x : Ext s s') (hP : ∀ a, P' a → P a ∨ (s.heap.objs.size ≤ a ∧ a < s'.heap.objs.size)) : FrV cx sc tab env P' O vm s' ρ :=
  { F.ext x with
    av := fun a h => (hP a h).elim (fun y => Nat.lt_of_lt_of_le (F.av a y) x.size) fun y => y.2
    ownNP := fun j a e h => (hP a h).elim (F.ownNP j a e) fun y => Nat.lt_irrefl _ (Nat.lt_of_lt_of_le (F.fresh a (.inl ⟨j, e⟩)).2 y.1)
    slots := fun i y sl h1 h2 => by
      have hs := F.slots i y sl h1 h2
      have hA : ∀ a, Av env P' O a → Av env P O a ∨ s.heap.objs.size ≤ a := fun a h => h.elim (fun y => (hP a y).imp .inl And.left) fun y => .inl (.inr y)
      cases sl with
      | unb => trivial
      | val d => obtain ⟨v, e, r⟩ := hs; exact ⟨v, e, rd_moreP hA x.keep (Nat.le_refl _) r⟩
      | own xs => obtain ⟨a, vs, n, e1, e2, e3, e4, r⟩ := hs; exact ⟨a, vs, n, e1, e2, x.keep _ _ e3, e4, rdAll_moreP hA x.keep (Nat.le_refl _) r⟩ }

/-- a read of a datum goes on behind a statement -/
theorem FrV.rdTr {O' : Nat → Option Addr} (F : FrV cx sc tab env P O vm s ρ) (x : Tr env O s O' s') {d : D} {v : Value} (r : Rd cx s.heap (Av env P O) d v) : Rd cx s'.heap (Av env P O') d v := by
  refine r.mono (fun a o hn e => x.keep a o (fun m => hn (.inr m)) e) fun a h => ?_
  rcases h with h | ⟨j, hj⟩ | h
  · exact .inl (.inl h)
  · rcases x.own j a hj with ⟨i, hi⟩ | hge
    · exact .inl (.inr (.inl ⟨i, hi⟩))
    · exact .inr (get_none hge)
  · exact .inl (.inr (.inr h))
end

noncomputable def upd (vm : Str → Option Value) (x : Str) (v : Value) : Str → Option Value := fun y => if y = x then some v else vm y
noncomputable def off (O : Nat → Option Addr) (i : Nat) : Nat → Option Addr := fun j => if j = i then none else O j
noncomputable def onO (O : Nat → Option Addr) (i : Nat) (a : Addr) : Nat → Option Addr := fun j => if j = i then some a else O j
theorem off_some {O : Nat → Option Addr} {i j : Nat} {a : Addr} (h : off O i j = some a) : j ≠ i ∧ O j = some a := by
  unfold off at h
  split at h
  · cases h
  · exact ⟨by assumption, h⟩
theorem onO_some {O : Nat → Option Addr} {i j : Nat} {a b : Addr} (h : onO O i a j = some b) : (j = i ∧ b = a) ∨ (j ≠ i ∧ O j = some b) := by
  unfold onO at h
  split at h
  · cases h; exact .inl ⟨by assumption, rfl⟩
  · exact .inr ⟨by assumption, h⟩

section
variable {cx : Cx} {sc : Scope} {tab : List (Option Str)} {env : Env} {P : Avd} {O : Nat → Option Addr} {vm : Str → Option Value} {s : Shared} {ρ : List Slot} {prog : Program} {w : World} {A : Around}

theorem FrV.load (F : FrV cx sc tab env P O vm s ρ) {i : Nat} {x : Str} {v : Value} {Q : Value → Shared → Prop} (ht : tab[i]? = some (some x)) (hv : vm x = some v) (hQ : Q v s) (hcd : (x == ("__classdict__" : Str)) = false) : W prog w A (loadName env x) Q s := by
  have hk : env.scope.kind = .function := by rw [F.scope]; exact F.kind
  rcases F.known i x ht with hl | ⟨hl, hc⟩
  · obtain ⟨m, hn, hm⟩ := F.ns
    exact W.of_any (wpAny_loadName_local hk (by show env.scope.names.lookup x = _; rw [F.scope]; exact hl) hn ((hm x hl).trans hv) hQ)
  · obtain ⟨c, hc⟩ := Option.isSome_iff_exists.mp hc
    rcases hl with hl | hl
    · exact W.of_any (wpAny_loadName_cell hk (by show env.scope.names.lookup x = _; rw [F.scope]; exact hl) hc (hv ▸ F.cell x c hc) hQ)
    · exact W.of_any (wpAny_loadName_free hk (by show env.scope.names.lookup x = _; rw [F.scope]; exact hl) hc (hv ▸ F.cell x c hc) hQ hcd)

/-- the store of a name, told of the heap alone -/
theorem FrV.storeRaw (F : FrV cx sc tab env P O vm s ρ) {i : Nat} {x : Str} {v : Value} {Q : Unit → Shared → Prop} (ht : tab[i]? = some (some x))
    (hnf : sc.names.lookup x = some .free → False)
    (hQ : ∀ s' : Shared, s'.gens = s.gens → s'.os = s.os → s'.heap.objs.size = s.heap.objs.size → (∀ a o, a ≠ env.locals → (∀ y, env.cells.lookup y ≠ some a) → s.heap.get? a = some o → s'.heap.get? a = some o) →
      (∃ m, s'.heap.Ns env.locals m ∧ ∀ y, sc.names.lookup y = some .local → m y = upd vm x v y) → (∀ y c, env.cells.lookup y = some c → s'.heap.IsCell c (upd vm x v y)) → Q () s') : W prog w A (storeName env x v) Q s := by
  have hk : env.scope.kind = .function := by rw [F.scope]; exact F.kind
  obtain ⟨m, hn, hm⟩ := F.ns
  rcases F.known i x ht with hl | ⟨hl, hc⟩
  · refine W.of_any (wpAny_storeName_local (by show env.scope.names.lookup x = _; rw [F.scope]; exact hl) hn (fun h' hn' hs' => hQ _ rfl rfl hs'.1 (fun a o ha _ e => hs'.extBut a o ha e) ⟨_, hn', fun y hy => ?_⟩ fun y c hc => ?_) (by rw [hk]; rfl))
    · unfold upd
      split
      · rfl
      · exact hm y hy
    · have hne : y ≠ x := fun e => by
        subst e
        exact F.cellNL y c hc hl
      have : upd vm x v y = vm y := by unfold upd; rw [if_neg hne]
      rw [this]
      exact (F.cell y c hc).sameBut hs' fun e => F.nsCell y (e ▸ hc)
  · obtain ⟨c, hc⟩ := Option.isSome_iff_exists.mp hc
    rcases hl with hl | hl
    · refine W.of_any (wpAny_storeName_cell hk (by show env.scope.names.lookup x = _; rw [F.scope]; exact hl) hc (F.cell x c hc) fun h' hc' hs' => hQ _ rfl rfl hs'.1 (fun a o _ ha e => hs'.extBut a o (fun e' => ha x (e' ▸ hc)) e) ⟨m, hn.sameBut hs' fun e => F.nsCell x (e ▸ hc), fun y hy => ?_⟩ fun y c' hy => ?_)
      · have hne : y ≠ x := fun e => by subst e; rw [hl] at hy; cases hy
        rw [hm y hy]; unfold upd; rw [if_neg hne]
      · by_cases hyx : y = x
        · subst hyx
          rw [hc] at hy; cases hy
          unfold upd; rw [if_pos rfl]; exact hc'
        · unfold upd; rw [if_neg hyx]
          exact (F.cell y c' hy).sameBut hs' fun e => hyx (name_of_addr F.apart (mem_of_lookup hy) (e ▸ mem_of_lookup hc))
    · exact (hnf hl).elim

theorem FrV.low (F : FrV cx sc tab env P O vm s ρ) {a : Addr} (h : a < cx.h₁.objs.size) : a ≠ env.locals ∧ (∀ y, env.cells.lookup y ≠ some a) ∧ ∀ j, O j ≠ some a :=
  ⟨fun e => Nat.lt_irrefl _ (Nat.lt_of_lt_of_le h (F.fresh a (.inr (.inl e))).1), fun y e => Nat.lt_irrefl _ (Nat.lt_of_lt_of_le h (F.fresh a (.inr (.inr ⟨y, e⟩))).1),
    fun j e => Nat.lt_irrefl _ (Nat.lt_of_lt_of_le h (F.fresh a (.inl ⟨j, e⟩)).1)⟩

theorem FrV.put (F : FrV cx sc tab env P O vm s ρ) {i : Nat} {x : Str} {v : Value} {s' : Shared} {O' : Nat → Option Addr} {sl' : Slot} (ht : tab[i]? = some (some x))
    (hsz : s'.heap.objs.size = s.heap.objs.size) (hk : ∀ a o, a ≠ env.locals → (∀ y, env.cells.lookup y ≠ some a) → s.heap.get? a = some o → s'.heap.get? a = some o)
    (hns : ∃ m, s'.heap.Ns env.locals m ∧ ∀ y, sc.names.lookup y = some .local → m y = upd vm x v y) (hcell : ∀ y c, env.cells.lookup y = some c → s'.heap.IsCell c (upd vm x v y))
    (hO : ∀ j, j ≠ i → O' j = O j)
    (hOi : ∀ a, O' i = some a → (cx.h₁.objs.size ≤ a ∧ a < s.heap.objs.size) ∧ (a ≠ env.locals ∧ ∀ y, env.cells.lookup y ≠ some a) ∧ (∀ j, j ≠ i → O j ≠ some a) ∧ ¬ P a ∧ ∃ xs, sl' = .own xs)
    (hoth : ∀ (j : Nat) (y : Str) (sl : Slot), j ≠ i → tab[j]? = some (some y) → ρ[j]? = some sl → SlotOk cx s'.heap (Av env P O') O' j (vm y) sl)
    (hme : SlotOk cx s'.heap (Av env P O') O' i (some v) sl') : FrV cx sc tab env P O' (upd vm x v) s' (ρ.set i sl') where
  scope := F.scope
  kind := F.kind
  glob := F.glob
  blt := F.blt
  base := fun a o e => hk a o (F.low (Heap.lt_size e)).1 (F.low (Heap.lt_size e)).2.1 (F.base a o e)
  ns := hns
  cell := hcell
  apart := F.apart
  fresh := fun a m => by
    rw [hsz]
    rcases m with ⟨j, hj⟩ | m
    · by_cases hji : j = i
      · subst hji; exact (hOi a hj).1
      · exact F.fresh a (.inl ⟨j, (hO j hji) ▸ hj⟩)
    · exact F.fresh a (.inr m)
  nsCell := F.nsCell
  av := fun a h => by rw [hsz]; exact F.av a h
  len := by rw [List.length_set]; exact F.len
  tabInj := F.tabInj
  cellNL := F.cellNL
  known := F.known
  slots := fun j y sl h1 h2 => by
    by_cases hji : j = i
    · subst hji
      rw [ht] at h1; cases h1
      rw [List.getElem?_set_self'] at h2
      cases hr : ρ[j]? with
      | none => rw [hr] at h2; cases h2
      | some z =>
        rw [hr] at h2
        cases h2
        have : upd vm x v x = some v := by unfold upd; rw [if_pos rfl]
        rw [this]; exact hme
    · rw [List.getElem?_set_ne (Ne.symm hji)] at h2
      have hyx : y ≠ x := fun e => hji (F.tabInj j i x (e ▸ h1) ht)
      have : upd vm x v y = vm y := by unfold upd; rw [if_neg hyx]
      rw [this]
      exact hoth j y sl hji h1 h2
  ownInj := fun j k a h1 h2 => by
    by_cases hj : j = i <;> by_cases hk' : k = i
    · rw [hj, hk']
    · subst hj; exact absurd (hO k hk' ▸ h2) ((hOi a h1).2.2.1 k hk')
    · subst hk'; exact absurd (hO j hj ▸ h1) ((hOi a h2).2.2.1 j hj)
    · exact F.ownInj j k a (hO j hj ▸ h1) (hO k hk' ▸ h2)
  ownSlot := fun j a h1 => by
    by_cases hj : j = i
    · subst hj
      obtain ⟨_, _, _, _, xs, rfl⟩ := hOi a h1
      refine ⟨x, xs, ht, ?_⟩
      have hlt : j < ρ.length := by
        rw [F.len]
        rcases Nat.lt_or_ge j tab.length with h | h
        · exact h
        · rw [List.getElem?_eq_none h] at ht; cases ht
      rw [List.getElem?_set_self hlt]
    · obtain ⟨y, xs, e1, e2⟩ := F.ownSlot j a (hO j hj ▸ h1)
      exact ⟨y, xs, e1, by rw [List.getElem?_set_ne (Ne.symm hj)]; exact e2⟩
  ownApart := fun j a h1 => by
    by_cases hj : j = i
    · subst hj; exact (hOi a h1).2.1
    · exact F.ownApart j a (hO j hj ▸ h1)
  ownNP := fun j a h1 => by
    by_cases hj : j = i
    · subst hj; exact (hOi a h1).2.2.2.1
    · exact F.ownNP j a (hO j hj ▸ h1)

theorem slot_tr {h h' : Heap} {V V' : Avd} {O O' : Nat → Option Addr} {j : Nat} {v? : Option Value} {sl : Slot} (x : SlotOk cx h V O j v? sl)
    (hk : ∀ a o, ¬ V a → h.get? a = some o → h'.get? a = some o) (ha : ∀ a, V' a → V a ∨ h.get? a = none) (hO : O' j = O j) (hown : ∀ a o, O j = some a → h.get? a = some o → h'.get? a = some o) : SlotOk cx h' V' O' j v? sl := by
  cases sl with
  | unb => trivial
  | val d => obtain ⟨v, e, r⟩ := x; exact ⟨v, e, r.mono hk ha⟩
  | own xs => obtain ⟨a, vs, n, e1, e2, e3, e4, r⟩ := x; exact ⟨a, vs, n, hO.trans e1, e2, hown a _ e1 e3, e4, r.mono hk ha⟩

/-- a name is bound to a datum -/
theorem FrV.store (F : FrV cx sc tab env P O vm s ρ) {i : Nat} {x : Str} {v : Value} {d : D} {Q : Unit → Shared → Prop} (ht : tab[i]? = some (some x)) (hnf : sc.names.lookup x = some .free → False)
    (r : Rd cx s.heap (Av env P O) d v)
    (hQ : ∀ s', FrV cx sc tab env P (off O i) (upd vm x v) s' (ρ.set i (.val d)) → Tr env O s (off O i) s' → Q () s') : W prog w A (storeName env x v) Q s := by
  refine F.storeRaw ht hnf fun s' hg ho hsz hk hns hcell => ?_
  have hA : ∀ a, Av env P (off O i) a → Av env P O a := fun a h => h.imp id fun m => m.imp (fun ⟨j, hj⟩ => ⟨j, (off_some hj).2⟩) id
  have hk' : ∀ a o, ¬ Av env P O a → s.heap.get? a = some o → s'.heap.get? a = some o := fun a o hn e => hk a o (fun e' => hn (.inr (.inr (.inl e')))) (fun y e' => hn (.inr (.inr (.inr ⟨y, e'⟩)))) e
  refine hQ s' (F.put ht hsz hk hns hcell (fun j hj => by unfold off; rw [if_neg hj]) (fun a h => absurd rfl (off_some h).1) (fun j y sl hj h1 h2 => ?_) ⟨v, rfl, r.mono hk' fun a h => .inl (hA a h)⟩) ?_
  · exact slot_tr (F.slots j y sl h1 h2) hk' (fun a h => .inl (hA a h)) (by unfold off; rw [if_neg hj]) fun a o e e' => hk a o (F.ownApart j a e).1 (F.ownApart j a e).2 e'
  · exact ⟨hg, ho, Nat.le_of_eq hsz.symm, fun a o hn e => hk a o (fun e' => hn (.inr (.inl e'))) (fun y e' => hn (.inr (.inr ⟨y, e'⟩))) e, fun j a h => .inl ⟨j, (off_some h).2⟩⟩

/-- a name is bound to a new list, which the frame will own -/
theorem FrV.storeOwn {s₀ : Shared} (F₀ : FrV cx sc tab env P O vm s₀ ρ) (X : Ext s₀ s) {i : Nat} {x : Str} {a : Addr} {vs : Array Value} {n : Nat} {xs : List D} {Q : Unit → Shared → Prop} (ht : tab[i]? = some (some x)) (hnf : sc.names.lookup x = some .free → False)
    (hnew : s₀.heap.objs.size ≤ a) (hobj : s.heap.get? a = some { cls := .type "list", data := .seq vs n }) (hz : vs.size ≤ sizeLine) (r : RdAll cx s.heap (fun b => Av env P O b ∨ b = a) xs vs.toList)
    (hQ : ∀ s', FrV cx sc tab env P (onO O i a) (upd vm x (.ref a)) s' (ρ.set i (.own xs)) → Tr env O s₀ (onO O i a) s' → Q () s') : W prog w A (storeName env x (.ref a)) Q s := by
  have F := F₀.ext X
  refine F.storeRaw ht hnf fun s' hg ho hsz hk hns hcell => ?_
  have hlt := Heap.lt_size hobj
  have hnl : a ≠ env.locals := fun e => F₀.new hnew (.inr (.inr (.inl e)))
  have hnc : ∀ y, env.cells.lookup y ≠ some a := fun y e => F₀.new hnew (.inr (.inr (.inr ⟨y, e⟩)))
  have hno : ∀ j, O j ≠ some a := fun j e => F₀.new hnew (.inr (.inl ⟨j, e⟩))
  have hA : ∀ b, Av env P (onO O i a) b → Av env P O b ∨ b = a := fun b h => by
    rcases h with h | ⟨j, hj⟩ | h
    · exact .inl (.inl h)
    · rcases onO_some hj with ⟨_, e⟩ | ⟨_, e⟩
      · exact .inr e
      · exact .inl (.inr (.inl ⟨j, e⟩))
    · exact .inl (.inr (.inr h))
  have hk' : ∀ b o, ¬ Av env P O b → s.heap.get? b = some o → s'.heap.get? b = some o := fun b o hn e => hk b o (fun e' => hn (.inr (.inr (.inl e')))) (fun y e' => hn (.inr (.inr (.inr ⟨y, e'⟩)))) e
  refine hQ s' (F.put ht hsz hk hns hcell (fun j hj => by unfold onO; rw [if_neg hj]) (fun b h => ?_) (fun j y sl hj h1 h2 => ?_) ⟨a, vs, n, by unfold onO; rw [if_pos rfl], rfl, hk a _ hnl hnc hobj, hz, r.mono (fun b o hn e => hk' b o (fun m => hn (.inl m)) e) fun b h => .inl (hA b h)⟩) ?_
  · rcases onO_some h with ⟨_, rfl⟩ | ⟨h', _⟩
    · exact ⟨⟨Nat.le_trans (Nat.le_of_lt_succ (Nat.lt_succ_of_le (by
        obtain ⟨m, hm, _⟩ := F₀.ns
        exact Nat.le_trans (F₀.fresh env.locals (.inr (.inl rfl))).1 (Nat.le_of_lt hm.lt)))) hnew, hlt⟩, ⟨hnl, hnc⟩, fun j _ => hno j, fun h => F₀.new hnew (.inl h), xs, rfl⟩
    · exact absurd rfl h'
  · refine slot_tr ((F₀.slots j y sl h1 h2)) (fun b o hn e => hk' b o hn (X.keep b o e)) (fun b h => (hA b h).imp id fun e => get_none (by rw [e]; exact hnew)) (by unfold onO; rw [if_neg hj]) fun b o e e' => hk b o (F.ownApart j b e).1 (F.ownApart j b e).2 (X.keep b o e')
  · exact ⟨hg.trans X.gens, ho.trans X.os, by rw [hsz]; exact X.size, fun b o hn e => hk b o (fun e' => hn (.inr (.inl e'))) (fun y e' => hn (.inr (.inr ⟨y, e'⟩))) (X.keep b o e), fun j b h => by
      rcases onO_some h with ⟨_, rfl⟩ | ⟨_, e⟩
      · exact .inr hnew
      · exact .inl ⟨j, e⟩⟩

/-- an owned list is given up: from now on it is a datum like any other -/
theorem FrV.freeze (F : FrV cx sc tab env P O vm s ρ) {i : Nat} {xs : List D} (hi : ρ[i]? = some (.own xs)) : FrV cx sc tab env P (off O i) vm s (ρ.set i (.val (.list xs))) := by
  have hA : ∀ a, Av env P (off O i) a → Av env P O a := fun a h => h.imp id fun m => m.imp (fun ⟨j, hj⟩ => ⟨j, (off_some hj).2⟩) id
  have hlt : i < ρ.length := by
    rcases Nat.lt_or_ge i ρ.length with h | h
    · exact h
    · rw [List.getElem?_eq_none h] at hi; cases hi
  exact { F with
    fresh := fun a m => F.fresh a (m.imp (fun ⟨j, hj⟩ => ⟨j, (off_some hj).2⟩) id)
    len := by rw [List.length_set]; exact F.len
    slots := fun j y sl h1 h2 => by
      by_cases hji : j = i
      · subst hji
        rw [List.getElem?_set_self hlt] at h2
        cases h2
        obtain ⟨a, vs, n, e1, e2, e3, e4, r⟩ := F.slots j y _ h1 hi
        refine ⟨.ref a, e2, ?_⟩
        rw [Rd]
        refine ⟨a, vs, n, rfl, e3, fun h => ?_, e4, r.weak hA⟩
        rcases h with h | ⟨k, hk⟩ | h
        · exact F.ownNP j a e1 h
        · exact (off_some hk).1 (F.ownInj k j a (off_some hk).2 e1)
        · rcases h with h | ⟨y', h⟩
          · exact (F.ownApart j a e1).1 h
          · exact (F.ownApart j a e1).2 y' h
      · rw [List.getElem?_set_ne (Ne.symm hji)] at h2
        exact slot_tr (F.slots j y sl h1 h2) (fun _ _ _ e => e) (fun a h => .inl (hA a h)) (by unfold off; rw [if_neg hji]) fun _ _ _ e => e
    ownInj := fun j k a h1 h2 => F.ownInj j k a (off_some h1).2 (off_some h2).2
    ownSlot := fun j a h1 => by
      obtain ⟨y, zs, e1, e2⟩ := F.ownSlot j a (off_some h1).2
      exact ⟨y, zs, e1, by rw [List.getElem?_set_ne (Ne.symm (off_some h1).1)]; exact e2⟩
    ownApart := fun j a h1 => F.ownApart j a (off_some h1).2
    ownNP := fun j a h1 => F.ownNP j a (off_some h1).2 }

/-- an owned list is changed in its place -/
theorem FrV.mutate (F : FrV cx sc tab env P O vm s ρ) {i : Nat} {x : Str} {xs ds : List D} {a : Addr} {s' : Shared} {vs : Array Value} {n : Nat} (ht : tab[i]? = some (some x)) (hi : ρ[i]? = some (.own xs)) (hO : O i = some a)
    (hg : s'.gens = s.gens) (ho : s'.os = s.os) (hs : Heap.SameBut a s.heap s'.heap) (hobj : s'.heap.get? a = some { cls := .type "list", data := .seq vs n }) (hz : vs.size ≤ sizeLine)
    (r : RdAll cx s.heap (Av env P O) ds vs.toList) : FrV cx sc tab env P O vm s' (ρ.set i (.own ds)) ∧ Tr env O s O s' := by
  have hma : muts env O a := .inl ⟨i, hO⟩
  have hk : ∀ b o, b ≠ a → s.heap.get? b = some o → s'.heap.get? b = some o := fun b o hb e => hs.extBut b o hb e
  have hk' : ∀ b o, ¬ Av env P O b → s.heap.get? b = some o → s'.heap.get? b = some o := fun b o hn e => hk b o (fun e' => hn (.inr (e' ▸ hma))) e
  have hap := F.ownApart i a hO
  have hlt : i < ρ.length := by
    rcases Nat.lt_or_ge i ρ.length with h | h
    · exact h
    · rw [List.getElem?_eq_none h] at hi; cases hi
  refine ⟨?_, ⟨hg, ho, Nat.le_of_eq hs.1.symm, fun b o hn e => hk b o (fun e' => hn (e' ▸ hma)) e, fun j b e => .inl ⟨j, e⟩⟩⟩
  exact {
    scope := F.scope, kind := F.kind, glob := F.glob, blt := F.blt
    base := fun b o e => hk b o (fun e' => (F.low (Heap.lt_size e)).2.2 i (e' ▸ hO)) (F.base b o e)
    ns := let ⟨m, h1, h2⟩ := F.ns; ⟨m, h1.sameBut hs (Ne.symm hap.1), h2⟩
    cell := fun y c e => (F.cell y c e).sameBut hs fun e' => hap.2 y (e' ▸ e)
    apart := F.apart
    fresh := fun b m => by rw [hs.1]; exact F.fresh b m
    nsCell := F.nsCell
    av := fun b h => by rw [hs.1]; exact F.av b h
    len := by rw [List.length_set]; exact F.len
    tabInj := F.tabInj, cellNL := F.cellNL, known := F.known
    slots := fun j y sl h1 h2 => by
      by_cases hji : j = i
      · subst hji
        rw [List.getElem?_set_self hlt] at h2
        cases h2
        obtain ⟨a', vs', n', e1, e2, e3, e4, _⟩ := F.slots j y _ h1 hi
        rw [hO] at e1; cases e1
        exact ⟨a, vs, n, hO, e2, hobj, hz, r.mono hk' fun _ h => .inl h⟩
      · rw [List.getElem?_set_ne (Ne.symm hji)] at h2
        exact slot_tr (F.slots j y sl h1 h2) hk' (fun _ h => .inl h) rfl fun b o e e' => hk b o (fun e'' => hji (F.ownInj j i a (e'' ▸ e) hO)) e'
    ownInj := F.ownInj
    ownSlot := fun j b h1 => by
      by_cases hji : j = i
      · subst hji
        exact ⟨x, ds, ht, by rw [List.getElem?_set_self hlt]⟩
      · obtain ⟨y, zs, e1, e2⟩ := F.ownSlot j b h1
        exact ⟨y, zs, e1, by rw [List.getElem?_set_ne (Ne.symm hji)]; exact e2⟩
    ownApart := F.ownApart
    ownNP := F.ownNP }

theorem FrV.glob_ (F : FrV cx sc tab env P O vm s ρ) {x : Str} {v : Value} {Q : Value → Shared → Prop} (hl : sc.names.lookup x = some .globalImplicit) (hv : (cx.mg x).or (cx.mb x) = some v) (hQ : Q v s) : W prog w A (loadName env x) Q s := by
  have hg : s.heap.Ns mainGlobals cx.mg := cx.hg.keeps F.base
  have hb : s.heap.Ns builtinsNs cx.mb := cx.hb.keeps F.base
  refine W.of_any ?_
  unfold loadName
  have hk : env.scope.kind = .function := by rw [F.scope]; exact F.kind
  have hkx : env.kindOf x = some .globalImplicit := by show env.scope.names.lookup x = _; rw [F.scope]; exact hl
  simp only [Env.blockKind, hk, hkx, ScopeKind.isAnnotationScope, Bool.false_and, Bool.false_eq_true, if_false]
  unfold loadGlobal
  rw [F.glob, F.blt]
  refine wpAny_bind (wpAny_nsGet hg ?_)
  cases hm : cx.mg x with
  | some v' =>
    rw [hm] at hv
    cases hv
    exact wpAny_pure hQ
  | none =>
    rw [hm] at hv
    refine wpAny_bind (wpAny_nsGet hb ?_)
    have hv' : cx.mb x = some v := hv
    rw [hv']
    exact wpAny_pure hQ
end
end Mine

end
section
open PySem PySem.W PySem.Calls PyProof.Rows
set_option Elab.async false
set_option maxRecDepth 100000
namespace Mine

noncomputable def Room (A : Around) (k : Nat) : Prop := A.handled = none ∧ A.depth + k < recursionLimit ∧ A.units + 8 * k + 200 < cLine
theorem Room.units {A : Around} {k : Nat} (h : Room A k) : A.units + 100 < cLine := by have := h.2.2; omega

structure Jd where
  cx : Cx
  sc : Scope
  tab : List (Option Str)
  k : Nat

noncomputable abbrev Rho := List Slot

/-- the expression's value is f of the frame's names -/
noncomputable def SE (J : Jd) (e : PySem.Expr) (f : Rho → Option D) : Prop :=
  ∀ (A : Around) (env : Env) (P : Avd) (O : Nat → Option Addr) (vm : Str → Option Value) (s : Shared) (ρ : Rho) (d : D), Room A J.k → FrV J.cx J.sc J.tab env P O vm s ρ → f ρ = some d →
    W J.cx.prog J.cx.w A (eval e env) (fun v s' => Ext s s' ∧ Rd J.cx s'.heap (Av env P O) d v) s
/-- the expression as a test -/
noncomputable def ST (J : Jd) (e : PySem.Expr) (f : Rho → Option Bool) : Prop :=
  ∀ (A : Around) (env : Env) (P : Avd) (O : Nat → Option Addr) (vm : Str → Option Value) (s : Shared) (ρ : Rho) (b : Bool), Room A J.k → FrV J.cx J.sc J.tab env P O vm s ρ → f ρ = some b →
    W J.cx.prog J.cx.w A (isTrue e env (eval e env)) (fun v s' => Ext s s' ∧ v = b) s

/-! equality -/
mutual
noncomputable def toPy : D → PyData
  | .none => .none
  | .bool b => .bool b
  | .int i => .int i
  | .str l => .str ⟨l.toArray⟩
  | .list ds => .list (toPys ds)
  | .tup ds => .tuple (toPys ds)
  | .mat .. => .none
  | .inst _ => .none
noncomputable def toPys : List D → List PyData
  | [] => []
  | d :: ds => toPy d :: toPys ds
end
mutual
noncomputable def pureD : D → Bool
  | .list ds => pureDs ds
  | .tup ds => pureDs ds
  | .mat .. => false
  | .inst _ => false
  | _ => true
noncomputable def pureDs : List D → Bool
  | [] => true
  | d :: ds => pureD d && pureDs ds
end
section
variable {cx : Cx} {h : Heap} {V : Avd}
mutual
theorem Rd.reads : ∀ {d : D} {v : Value}, Rd cx h V d v → pureD d = true → ∃ as, Reads h v (toPy d) as
  | .none, _, r, _ => by rw [Rd] at r; subst r; exact ⟨_, .none⟩
  | .bool _, _, r, _ => by rw [Rd] at r; subst r; exact ⟨_, .bool _⟩
  | .int _, _, r, _ => by rw [Rd] at r; obtain ⟨t, rfl⟩ := r; exact ⟨_, .int _ _⟩
  | .str _, _, r, _ => by rw [Rd] at r; obtain ⟨t, rfl, _⟩ := r; exact ⟨_, .str _ _⟩
  | .list ds, _, r, hp => by
    rw [Rd] at r; obtain ⟨a, vs, n, rfl, ho, _, _, r⟩ := r
    rw [pureD] at hp
    obtain ⟨as, q⟩ := RdAll.reads r hp
    rw [toPy]; exact ⟨_, .list ho rfl rfl q⟩
  | .tup ds, _, r, hp => by
    rw [Rd] at r; obtain ⟨a, vs, n, rfl, ho, _, _, r⟩ := r
    rw [pureD] at hp
    obtain ⟨as, q⟩ := RdAll.reads r hp
    rw [toPy]; exact ⟨_, .tuple ho rfl rfl q⟩
  | .mat .., _, _, hp => by rw [pureD] at hp; cases hp
  | .inst _, _, _, hp => by rw [pureD] at hp; cases hp
theorem RdAll.reads : ∀ {ds : List D} {vs : List Value}, RdAll cx h V ds vs → pureDs ds = true → ∃ as, ReadsAll h vs (toPys ds) as
  | [], _, r, _ => by rw [RdAll] at r; subst r; exact ⟨_, .nil⟩
  | d :: ds, _, r, hp => by
    rw [RdAll] at r; obtain ⟨v, l, rfl, r1, r2⟩ := r
    rw [pureDs, Bool.and_eq_true] at hp
    obtain ⟨as, q1⟩ := Rd.reads r1 hp.1
    obtain ⟨bs, q2⟩ := RdAll.reads r2 hp.2
    rw [toPys]; exact ⟨_, .cons q1 q2⟩
end
mutual
theorem Rd.lay : ∀ {d : D} {v : Value}, Rd cx h V d v → pureD d = true → (toPy d).canLay0 = true
  | .none, _, _, _ => by simp [toPy, PyData.canLay0]
  | .bool _, _, _, _ => by simp [toPy, PyData.canLay0]
  | .int _, _, _, _ => by simp [toPy, PyData.canLay0]
  | .str l, _, r, _ => by
    rw [Rd] at r; obtain ⟨t, rfl, h1, _⟩ := r
    simp only [toPy, PyData.canLay0, PyData.strOk]
    rw [Array.all_eq_true']
    intro c hc
    exact decide_eq_true (h1 c (by simpa using hc))
  | .list ds, _, r, hp => by
    rw [Rd] at r; obtain ⟨a, vs, n, rfl, ho, _, _, r⟩ := r
    rw [pureD] at hp
    simp only [toPy, PyData.canLay0]; exact RdAll.lay r hp
  | .tup ds, _, r, hp => by
    rw [Rd] at r; obtain ⟨a, vs, n, rfl, ho, _, _, r⟩ := r
    rw [pureD] at hp
    simp only [toPy, PyData.canLay0]; exact RdAll.lay r hp
  | .mat .., _, _, hp => by rw [pureD] at hp; cases hp
  | .inst _, _, _, hp => by rw [pureD] at hp; cases hp
theorem RdAll.lay : ∀ {ds : List D} {vs : List Value}, RdAll cx h V ds vs → pureDs ds = true → PyData.canLayAll0 (toPys ds) = true
  | [], _, _, _ => by simp [toPys, PyData.canLayAll0]
  | d :: ds, _, r, hp => by
    rw [RdAll] at r; obtain ⟨v, l, rfl, r1, r2⟩ := r
    rw [pureDs, Bool.and_eq_true] at hp
    simp only [toPys, PyData.canLayAll0, Rd.lay r1 hp.1, RdAll.lay r2 hp.2, Bool.and_self]
end
end

noncomputable def flatD (d : D) : Bool := pureD d && decide ((toPy d).depth ≤ 60)
noncomputable def deq (a b : D) : Bool := PyData.eqv (toPy a) (toPy b)

/-- a comparison of two data -/
noncomputable def opEq (a b : D) : Option Bool := if flatD a && flatD b then some (deq a b) else none
noncomputable def opNe (a b : D) : Option Bool := (opEq a b).map not
noncomputable def opLt : D → D → Option Bool | .int a, .int b => some (decide (a < b)) | _, _ => none
noncomputable def isNone : D → Option Bool | .none => some true | .str _ => some false | .int _ => some false | _ => none
noncomputable def opIs (a b : D) : Option Bool := match b with | .none => isNone a | _ => none
noncomputable def opIsNot (a b : D) : Option Bool := (opIs a b).map not

/-- the comparison op gives F -/
noncomputable def CmpOk (op : CmpOp) (F : D → D → Option Bool) : Prop :=
  ∀ (cx : Cx) (A : Around) (V : Avd) (s : Shared) (a b : D) (x y : Value) (r : Bool), A.units + 100 < cLine → Rd cx s.heap V a x → Rd cx s.heap V b y → F a b = some r →
    W cx.prog cx.w A (compareOp op x y) (fun v s' => Ext s s' ∧ v = .bool r) s

theorem shaped_of {cx : Cx} {h : Heap} {V : Avd} {d : D} {v : Value} (r : Rd cx h V d v) (hf : flatD d = true) : SeqAt.shaped (toPy d) = true := by
  unfold flatD at hf
  rw [Bool.and_eq_true] at hf
  unfold SeqAt.shaped
  rw [Rd.lay r hf.1, Bool.true_and]
  exact decide_eq_true (Nat.le_trans (of_decide_eq_true hf.2) (by decide))

theorem cmp_eq : CmpOk .Eq opEq := fun cx A V s a b x y r hu ra rb h => by
  unfold opEq at h
  split at h
  · rename_i hf
    rw [Bool.and_eq_true] at hf
    cases h
    obtain ⟨as, qa⟩ := ra.reads (Bool.and_eq_true _ _ ▸ hf.1 : pureD a = true ∧ _).1
    obtain ⟨bs, qb⟩ := rb.reads (Bool.and_eq_true _ _ ▸ hf.2 : pureD b = true ∧ _).1
    exact W.of_any (eq_dataH qa qb (shaped_of ra hf.1) (shaped_of rb hf.2) (by omega) ⟨Ext.refl _, rfl⟩)
  · cases h
theorem cmp_ne : CmpOk .NotEq opNe := fun cx A V s a b x y r hu ra rb h => by
  unfold opNe opEq at h
  split at h
  · rename_i hf
    rw [Bool.and_eq_true] at hf
    cases h
    obtain ⟨as, qa⟩ := ra.reads (Bool.and_eq_true _ _ ▸ hf.1 : pureD a = true ∧ _).1
    obtain ⟨bs, qb⟩ := rb.reads (Bool.and_eq_true _ _ ▸ hf.2 : pureD b = true ∧ _).1
    exact W.of_any (ne_dataH qa qb (shaped_of ra hf.1) (shaped_of rb hf.2) (by omega) ⟨Ext.refl _, rfl⟩)
  · cases h
theorem cmp_lt : CmpOk .Lt opLt := fun cx A V s a b x y r hu ra rb h => by
  unfold opLt at h
  split at h
  · cases h; rw [Rd] at ra rb; obtain ⟨t, rfl⟩ := ra; obtain ⟨u, rfl⟩ := rb
    exact W.of_any (lt_int ⟨Ext.refl _, rfl⟩)
  · cases h
theorem cmp_isNot : CmpOk .IsNot opIsNot := fun cx A V s a b x y r hu ra rb h => by
  unfold opIsNot opIs at h
  split at h
  · rw [Rd] at rb; subst rb
    unfold isNone at h
    split at h
    · cases h; rw [Rd] at ra; subst ra; exact W.of_any (wpAny_isNot_self rfl ⟨Ext.refl _, rfl⟩)
    · cases h; rw [Rd] at ra; obtain ⟨t, rfl, _⟩ := ra; exact W.of_any (wpAny_isNot_other rfl (by intro x; cases x) ⟨Ext.refl _, rfl⟩)
    · cases h; rw [Rd] at ra; obtain ⟨t, rfl⟩ := ra; exact W.of_any (wpAny_isNot_other rfl (by intro x; cases x) ⟨Ext.refl _, rfl⟩)
    · cases h
  · cases h
end Mine

end
section
open PySem PySem.W PySem.Calls PyProof.Rows
set_option Elab.async false
set_option maxRecDepth 100000
namespace Mine

/-! in, not in -/
/-! two-place operations -/
noncomputable def opAdd : D → D → Option D
  | .int a, .int b => some (.int (a + b))
  | .str a, .str b => if a.length + b.length ≤ sizeLine then some (.str (a ++ b)) else none
  | .list a, .list b => if a.length + b.length ≤ sizeLine then some (.list (a ++ b)) else none
  | _, _ => none
noncomputable def opDiv : D → D → Option D
  | .int a, .int b => if b = 0 ∨ 1073741824 ≤ b.natAbs then none else some (.int (a.fdiv b))
  | _, _ => none
noncomputable def opMod : D → D → Option D
  | .int a, .int b => if b = 0 then none else some (.int (a.fmod b))
  | _, _ => none

noncomputable def BinOk (op : Operator) (F : D → D → Option D) : Prop :=
  ∀ (cx : Cx) (A : Around) (V : Avd) (s : Shared) (a b : D) (x y : Value) (r : D), A.units + 100 < cLine → (∀ p, V p → p < s.heap.objs.size) → Rd cx s.heap V a x → Rd cx s.heap V b y → F a b = some r →
    W cx.prog cx.w A (binaryOp op x y) (fun v s' => Ext s s' ∧ Rd cx s'.heap V r v) s

theorem str_append (a b : List Nat) : (⟨a.toArray⟩ : Str) ++ ⟨b.toArray⟩ = ⟨(a ++ b).toArray⟩ := by
  show Str.append _ _ = _
  simp [Str.append]
theorem rd_str {cx : Cx} {h : Heap} {V : Avd} {l : List Nat} {t : Tok} (h1 : ∀ c ∈ l, c < 0x110000) (h2 : l.length ≤ sizeLine) : Rd cx h V (.str l) (.str ⟨l.toArray⟩ t) := by rw [Rd]; exact ⟨t, rfl, h1, h2⟩
theorem str_len (l : List Nat) : (⟨l.toArray⟩ : Str).length = l.length := by simp [Str.length]

theorem bin_add : BinOk .Add opAdd := fun cx A V s a b x y r hu hV ra rb h => by
  unfold opAdd at h
  split at h
  · cases h; rw [Rd] at ra rb; obtain ⟨t, rfl⟩ := ra; obtain ⟨u, rfl⟩ := rb
    exact W.of_any (add_int ⟨Ext.toks _, by rw [Rd]; exact ⟨_, rfl⟩⟩)
  · split at h
    · rename_i hz
      cases h; rw [Rd] at ra rb; obtain ⟨t, rfl, h1, _⟩ := ra; obtain ⟨u, rfl, h2, _⟩ := rb
      refine W.of_any (add_str (fun t' tk => ⟨Ext.toks _, ?_⟩) (by rw [str_len, str_len]; exact hz))
      rw [str_append]
      exact rd_str (fun c hc => (List.mem_append.mp hc).elim (h1 c) (h2 c)) (by rw [List.length_append]; exact hz)
    · cases h
  · split at h
    · rename_i hz
      cases h; rw [Rd] at ra rb
      obtain ⟨p, vs, n, rfl, h1, _, _, r1⟩ := ra
      obtain ⟨q, us, m, rfl, h2, _, _, r2⟩ := rb
      have l1 := r1.length
      have l2 := r2.length
      have hz' : vs.size + us.size ≤ sizeLine := by
        rw [← Array.length_toList, ← Array.length_toList, l1, l2]; exact hz
      refine W.of_any (P.add_list h1 h2 ⟨Ext.push _ _, ?_⟩ hz')
      rw [Rd]
      refine ⟨_, vs ++ us, 0, rfl, Heap.get?_push_size _ rfl, fun hp => Nat.lt_irrefl _ (hV _ hp), by rw [Array.size_append]; exact hz', ?_⟩
      rw [Array.toList_append]
      exact (r1.append r2).keep fun _ _ e => Heap.get?_push_of_some _ e
    · cases h
  · cases h
theorem bin_mod : BinOk .Mod opMod := fun cx A V s a b x y r hu hV ra rb h => by
  unfold opMod at h
  split at h
  · split at h
    · cases h
    · rename_i hb
      cases h; rw [Rd] at ra rb; obtain ⟨t, rfl⟩ := ra; obtain ⟨u, rfl⟩ := rb
      exact W.of_any (mod_int' hb ⟨Ext.toks _, by rw [Rd]; exact ⟨_, rfl⟩⟩)
  · cases h
theorem bin_div : BinOk .FloorDiv opDiv := fun cx A V s a b x y r hu hV ra rb h => by
  unfold opDiv at h
  split at h
  · split at h
    · cases h
    · rename_i hb
      cases h; rw [Rd] at ra rb; obtain ⟨t, rfl⟩ := ra; obtain ⟨u, rfl⟩ := rb
      exact W.of_any (floordiv_int (fun e => hb (.inl e)) ⟨Ext.toks _, by rw [Rd]; exact ⟨_, rfl⟩⟩ (.inl (PyProof.noPylong_small (by omega))))
  · cases h

/-! expressions -/
noncomputable def cE (d : D) : Rho → Option D := fun _ => some d
noncomputable def vE (i : Nat) : Rho → Option D := fun ρ => match ρ[i]? with | some (.val d) => some d | _ => none
noncomputable def binE (F : D → D → Option D) (f g : Rho → Option D) : Rho → Option D := fun ρ => (f ρ).bind fun a => (g ρ).bind fun b => F a b
noncomputable def cmpB (F : D → D → Option Bool) (f g : Rho → Option D) : Rho → Option Bool := fun ρ => (f ρ).bind fun a => (g ρ).bind fun b => F a b
noncomputable def asD (f : Rho → Option Bool) : Rho → Option D := fun ρ => (f ρ).map .bool
noncomputable def ifE {α : Type} (t : Rho → Option Bool) (f g : Rho → Option α) : Rho → Option α := fun ρ => (t ρ).bind fun b => if b then f ρ else g ρ
noncomputable def truth : D → Option Bool
  | .none => some false
  | .bool b => some b
  | .int i => some (i != 0)
  | .str l => some (!l.isEmpty)
  | .list xs => some (!xs.isEmpty)
  | _ => none
noncomputable def truB (f : Rho → Option D) : Rho → Option Bool := fun ρ => (f ρ).bind truth

section
variable {J : Jd}

theorem se_none {k pos} : SE J (.Constant .none k pos) (cE .none) := fun A env P O vm s ρ d hA F h => by
  cases h; exact W.pureQ ⟨Ext.refl _, by rw [Rd]⟩
theorem se_bool {b k pos} : SE J (.Constant (.bool b) k pos) (cE (.bool b)) := fun A env P O vm s ρ d hA F h => by
  cases h; exact W.pureQ ⟨Ext.refl _, by rw [Rd]⟩
theorem se_int {i k pos} : SE J (.Constant (.int i) k pos) (cE (.int i)) := fun A env P O vm s ρ d hA F h => by
  cases h; exact W.of_any (wpAny_mkInt ⟨Ext.toks _, by rw [Rd]; exact ⟨_, rfl⟩⟩)
theorem se_str {x : Str} {l : List Nat} {k pos} (e : x = ⟨l.toArray⟩ := by decide) (h1 : (l.all (· < 0x110000) && decide (l.length ≤ 1000)) = true := by decide) : SE J (.Constant (.str x) k pos) (cE (.str l)) := fun A env P O vm s ρ d hA F h => by
  cases h
  subst e
  rw [Bool.and_eq_true] at h1
  refine W.of_any (wpAny_mkText ⟨Ext.toks _, rd_str (fun c hc => ?_) (Nat.le_trans (of_decide_eq_true h1.2) (by decide))⟩)
  have := List.all_eq_true.mp h1.1 c hc
  exact of_decide_eq_true this

theorem se_var {i : Nat} {x : Str} {pos : Pos} (ht : J.tab[i]? = some (some x) := by rfl) (hd : (x == ("__debug__" : Str) || x == ("__classdict__" : Str)) = false := by decide) : SE J (.Name x pos) (vE i) := fun A env P O vm s ρ d hA F h => by
  rw [Bool.or_eq_false_iff] at hd
  rw [eval_Name env x pos hd.1]
  refine W.bind (W.standAt ?_)
  unfold vE at h
  split at h
  · rename_i d' hr
    cases h
    obtain ⟨v, hv, r⟩ := F.slots i x _ ht hr
    exact F.load ht hv ⟨Ext.refl _, r⟩ hd.2
  · cases h

theorem se_bin {l r : PySem.Expr} {op : Operator} {pos : Pos} {f g : Rho → Option D} {G : D → D → Option D} (hG : BinOk op G) (hl : SE J l f) (hr : SE J r g) : SE J (.BinOp l op r pos) (binE G f g) := fun A env P O vm s ρ d hA F h => by
  unfold binE at h
  rw [Option.bind_eq_some_iff] at h
  obtain ⟨a, ha, h⟩ := h
  rw [Option.bind_eq_some_iff] at h
  obtain ⟨b, hb, h⟩ := h
  rw [eval_BinOp]
  refine W.bind (W.mono (hl A env P O vm s ρ a hA F ha) fun x s₁ ⟨X1, r1⟩ => W.bind (W.holding (W.mono (hr A env P O vm s₁ ρ b hA (F.ext X1) hb) fun y s₂ ⟨X2, r2⟩ => W.bind (W.standAt (W.operate ?_)))))
  exact W.mono (hG J.cx A (Av env P O) s₂ a b x y d hA.units (fun p hp => ((F.ext X1).ext X2).avLt hp) (r1.keep X2.keep) r2 h) fun v s₃ ⟨X3, r3⟩ => ⟨X1.trans (X2.trans X3), r3⟩

theorem se_cmp {l r : PySem.Expr} {op : CmpOp} {pos : Pos} {f g : Rho → Option D} {G : D → D → Option Bool} (hG : CmpOk op G) (hl : SE J l f) (hr : SE J r g) (hm : behindInMarks op r = false := by rfl) : SE J (.Compare l [op] [r] pos) (asD (cmpB G f g)) := fun A env P O vm s ρ d hA F h => by
  unfold asD cmpB at h
  rw [Option.map_eq_some_iff] at h
  obtain ⟨t, h, rfl⟩ := h
  rw [Option.bind_eq_some_iff] at h
  obtain ⟨a, ha, h⟩ := h
  rw [Option.bind_eq_some_iff] at h
  obtain ⟨b, hb, h⟩ := h
  rw [eval_Compare1, markedBehindIn_of_false hm]
  refine W.bind (W.mono (hl A env P O vm s ρ a hA F ha) fun x s₁ ⟨X1, r1⟩ => W.bind (W.holding (W.mono (hr A env P O vm s₁ ρ b hA (F.ext X1) hb) fun y s₂ ⟨X2, r2⟩ => W.bind (W.standAt (W.operate ?_)))))
  exact W.mono (hG J.cx A (Av env P O) s₂ a b x y t hA.units (r1.keep X2.keep) r2 h) fun v s₃ ⟨X3, e⟩ => ⟨X1.trans (X2.trans X3), by rw [Rd]; exact e⟩
theorem st_cmp {l r : PySem.Expr} {op : CmpOp} {pos : Pos} {f g : Rho → Option D} {G : D → D → Option Bool} (hG : CmpOk op G) (hl : SE J l f) (hr : SE J r g) (hm : behindInMarks op r = false := by rfl) : ST J (.Compare l [op] [r] pos) (cmpB G f g) := fun A env P O vm s ρ t hA F h => by
  unfold cmpB at h
  rw [Option.bind_eq_some_iff] at h
  obtain ⟨a, ha, h⟩ := h
  rw [Option.bind_eq_some_iff] at h
  obtain ⟨b, hb, h⟩ := h
  rw [isTrue_Compare1, markedBehindIn_of_false hm]
  refine W.bind (W.mono (hl A env P O vm s ρ a hA F ha) fun x s₁ ⟨X1, r1⟩ => W.bind (W.holding (W.mono (hr A env P O vm s₁ ρ b hA (F.ext X1) hb) fun y s₂ ⟨X2, r2⟩ => W.bind (W.standAt (W.bind (W.operate ?_))))))
  refine W.mono (hG J.cx A (Av env P O) s₂ a b x y t hA.units (r1.keep X2.keep) r2 h) fun v s₃ ⟨X3, e⟩ => ?_
  subst e
  exact W.holding (W.of_any (wpAny_truthy_bool ⟨X1.trans (X2.trans X3), rfl⟩))
end
end Mine

end
section
open PySem PySem.W PySem.Calls PyProof.Rows
set_option Elab.async false
set_option maxRecDepth 100000
namespace Mine

theorem szl : sizeLine = 16777216 := by decide

theorem truthy_ok {cx : Cx} {A : Around} {V : Avd} {s : Shared} {d : D} {v : Value} {b : Bool} (r : Rd cx s.heap V d v) (h : truth d = some b) :
    W cx.prog cx.w A (truthy v) (fun x s' => Ext s s' ∧ x = b) s := by
  unfold truth at h
  split at h
  · cases h; rw [Rd] at r; subst r; exact W.of_any (truthy_none ⟨Ext.refl _, rfl⟩)
  · cases h; rw [Rd] at r; subst r; exact W.of_any (wpAny_truthy_bool ⟨Ext.refl _, rfl⟩)
  · cases h; rw [Rd] at r; obtain ⟨t, rfl⟩ := r; exact W.of_any (truthy_int ⟨Ext.refl _, rfl⟩)
  · rename_i l
    cases h; rw [Rd] at r; obtain ⟨t, rfl, _, hz⟩ := r
    refine W.of_any (P.truthy_str (by have := szl; rw [str_len]; omega) ⟨Ext.toks _, ?_⟩)
    rw [str_len]
    cases l with
    | nil => rfl
    | cons c l => simp; omega
  · rename_i xs
    cases h; rw [Rd] at r; obtain ⟨a, vs, n, rfl, ho, _, hz, r⟩ := r
    have hl := r.length
    refine W.of_any (wpAny_truthy_list ⟨_, ho, rfl, n, rfl⟩ (by have := szl; omega) ⟨Ext.toks _, ?_⟩)
    cases xs with
    | nil => simp at hl; simp [hl]
    | cons x xs =>
      cases hv : vs.toList with
      | nil => rw [hv] at hl; simp at hl
      | cons y ys =>
        have : vs.size ≠ 0 := by rw [← Array.length_toList, hv]; simp
        simp [Array.isEmpty, this]
  · cases h

noncomputable def plainTest : PySem.Expr → Bool
  | .UnaryOp .Not _ _ => false
  | .BoolOp .. => false
  | .IfExp .. => false
  | .Compare .. => false
  | _ => true
noncomputable def negE (f : Rho → Option D) : Rho → Option D := fun ρ => (f ρ).bind fun a => match a with | .int i => some (.int (-i)) | _ => none

section
variable {J : Jd}

theorem st_plain {e : PySem.Expr} {f : Rho → Option D} (he : SE J e f) (hp : plainTest e = true := by rfl) : ST J e (truB f) := fun A env P O vm s ρ b hA F h => by
  unfold truB at h
  rw [Option.bind_eq_some_iff] at h
  obtain ⟨d, hd, h⟩ := h
  have hi : isTrue e env (eval e env) = (do let v ← eval e env; standAt e.pos; holding [v] (truthy v)) := by
    cases e <;> first | rfl | cases hp | skip
    case UnaryOp op x pos => cases op <;> first | rfl | cases hp
  rw [hi]
  refine W.bind (W.mono (he A env P O vm s ρ d hA F hd) fun v s₁ ⟨X1, r1⟩ => W.bind (W.standAt (W.holding ?_)))
  exact W.mono (truthy_ok r1 h) fun x s₂ ⟨X2, e⟩ => ⟨X1.trans X2, e⟩

theorem se_ifexp {t l r : PySem.Expr} {pos : Pos} {c : Rho → Option Bool} {f g : Rho → Option D} (ht : ST J t c) (hl : SE J l f) (hr : SE J r g) : SE J (.IfExp t l r pos) (ifE c f g) := fun A env P O vm s ρ b hA F h => by
  unfold ifE at h
  rw [Option.bind_eq_some_iff] at h
  obtain ⟨a, ha, h⟩ := h
  show W _ _ A (do if ← isTrue t env (eval t env) then eval l env else eval r env) _ s
  refine W.bind (W.mono (ht A env P O vm s ρ a hA F ha) fun x s₁ ⟨X1, e⟩ => ?_)
  subst e
  cases x with
  | true => simp only [if_true] at h ⊢; exact W.mono (hl A env P O vm s₁ ρ b hA (F.ext X1) h) fun y s₂ ⟨X2, e⟩ => ⟨X1.trans X2, e⟩
  | false => simp only [Bool.false_eq_true, if_false] at h ⊢; exact W.mono (hr A env P O vm s₁ ρ b hA (F.ext X1) h) fun y s₂ ⟨X2, e⟩ => ⟨X1.trans X2, e⟩

theorem se_neg {e : PySem.Expr} {pos : Pos} {f : Rho → Option D} (he : SE J e f) : SE J (.UnaryOp .USub e pos) (negE f) := fun A env P O vm s ρ d hA F h => by
  unfold negE at h
  rw [Option.bind_eq_some_iff] at h
  obtain ⟨a, ha, h⟩ := h
  split at h
  · cases h
    show W _ _ A (do let v ← eval e env; standAt pos; holding [v] (unaryOp .USub v)) _ s
    refine W.bind (W.mono (he A env P O vm s ρ _ hA F ha) fun v s₁ ⟨X1, r1⟩ => W.bind (W.standAt (W.holding ?_)))
    rw [Rd] at r1; obtain ⟨t, rfl⟩ := r1
    exact W.of_any (PyProof.Rows.neg_int ⟨X1.trans (Ext.toks _), by rw [Rd]; exact ⟨_, rfl⟩⟩)
  · cases h

end
end Mine

end
section
open PySem PySem.W PySem.Calls PyProof.Rows
set_option Elab.async false
set_option maxRecDepth 100000
namespace Mine

/-! displays -/
noncomputable def SEs (J : Jd) (es : List PySem.Expr) (f : Rho → Option (List D)) : Prop :=
  ∀ (A : Around) (env : Env) (P : Avd) (O : Nat → Option Addr) (vm : Str → Option Value) (s : Shared) (ρ : Rho) (ds : List D) (pos : Pos), Room A J.k → FrV J.cx J.sc J.tab env P O vm s ρ → f ρ = some ds →
    W J.cx.prog J.cx.w A (spliced (backTo pos (starEach es env))) (fun vs s' => Ext s s' ∧ RdAll J.cx s'.heap (Av env P O) ds vs) s
noncomputable def nilF : Rho → Option (List D) := fun _ => some []
noncomputable def consF (f : Rho → Option D) (g : Rho → Option (List D)) : Rho → Option (List D) := fun ρ => (f ρ).bind fun d => (g ρ).map fun ds => d :: ds
noncomputable def tupE (f : Rho → Option (List D)) : Rho → Option D := fun ρ => (f ρ).bind fun ds => if ds.length ≤ 1000 then some (.tup ds) else none
/-- the expression makes a new list -/
noncomputable def SEF (J : Jd) (e : PySem.Expr) (f : Rho → Option (List D)) : Prop :=
  ∀ (A : Around) (env : Env) (P : Avd) (O : Nat → Option Addr) (vm : Str → Option Value) (s : Shared) (ρ : Rho) (ds : List D), Room A J.k → FrV J.cx J.sc J.tab env P O vm s ρ → f ρ = some ds →
    W J.cx.prog J.cx.w A (eval e env) (fun v s' => Ext s s' ∧ ∃ a vs n, v = .ref a ∧ s.heap.objs.size ≤ a ∧ s'.heap.get? a = some { cls := .type "list", data := .seq vs n } ∧ vs.size ≤ sizeLine ∧
      RdAll J.cx s'.heap (fun b => Av env P O b ∨ b = a) ds vs.toList) s

section
variable {J : Jd}
theorem ses_nil : SEs J [] nilF := fun A env P O vm s ρ ds pos hA F h => by
  cases h
  exact W.of_any (Calls.spliced_nil ⟨Ext.refl _, RdAll.nil⟩)
theorem ses_cons {e : PySem.Expr} {es : List PySem.Expr} {f : Rho → Option D} {g : Rho → Option (List D)} (he : SE J e f) (hes : SEs J es g) (hs : isStarred e = false := by rfl) : SEs J (e :: es) (consF f g) := fun A env P O vm s ρ ds pos hA F h => by
  unfold consF at h
  rw [Option.bind_eq_some_iff] at h
  obtain ⟨d, hd, h⟩ := h
  rw [Option.map_eq_some_iff] at h
  obtain ⟨ds', hds, rfl⟩ := h
  have e1 : backTo pos (starEach (e :: es) env) = (false, eval e env) :: backTo pos (starEach es env) := by
    cases e <;> first | rfl | cases hs
  rw [e1, spliced]
  refine W.bind (W.mono (he A env P O vm s ρ d hA F hd) fun v s₁ ⟨X1, r1⟩ => ?_)
  simp only [Bool.false_eq_true, if_false]
  refine W.bind (W.pure (W.bind (W.holding (W.mono (hes A env P O vm s₁ ρ ds' pos hA (F.ext X1) hds) fun vs s₂ ⟨X2, r2⟩ => W.pure ⟨X1.trans X2, ?_⟩))))
  exact RdAll.cons (r1.keep X2.keep) r2

theorem sef_list {es : List PySem.Expr} {pos : Pos} {f : Rho → Option (List D)} (hes : SEs J es f) : SEF J (.List es pos) (fun ρ => (f ρ).bind fun ds => if ds.length ≤ 1000 then some ds else none) := fun A env P O vm s ρ ds hA F h => by
  rw [Option.bind_eq_some_iff] at h
  obtain ⟨ds', hds, h⟩ := h
  split at h
  · rename_i hz
    cases h
    show W _ _ A (do standAt pos; newList (← spliced (backTo pos (starEach es env)))) _ s
    refine W.bind (W.standAt (W.bind (W.mono (hes A env P O vm s ρ ds pos hA F hds) fun vs s₁ ⟨X1, r1⟩ => ?_)))
    have hl := r1.length
    have hz' : vs.length ≤ sizeLine := by have := szl; omega
    refine W.of_any (wpAny_newList ⟨X1.trans (Ext.push _ _), _, vs.toArray, 0, rfl, X1.size, Heap.get?_push_size _ rfl, by simpa using hz', ?_⟩ hz')
    refine r1.mono (fun a o _ e => Heap.get?_push_of_some _ e) fun a ha => ha.imp id fun e => ?_
    rw [e]; exact get_none (Nat.le_refl _)
  · cases h
theorem se_tup {es : List PySem.Expr} {k : Nat} {pos : Pos} {f : Rho → Option (List D)} (hes : SEs J es f) : SE J (.Tuple es k pos) (tupE f) := fun A env P O vm s ρ d hA F h => by
  unfold tupE at h
  rw [Option.bind_eq_some_iff] at h
  obtain ⟨ds, hds, h⟩ := h
  split at h
  · rename_i hz
    cases h
    show W _ _ A (do standAt pos; newTuple (← spliced (backTo pos (starEach es env)))) _ s
    refine W.bind (W.standAt (W.bind (W.mono (hes A env P O vm s ρ ds pos hA F hds) fun vs s₁ ⟨X1, r1⟩ => ?_)))
    have hl := r1.length
    have hz' : vs.length ≤ sizeLine := by have := szl; omega
    refine W.of_any (wpAny_newTuple ⟨X1.trans (Ext.push _ _), ?_⟩ hz')
    rw [Rd]
    refine ⟨_, vs.toArray, 0, rfl, Heap.get?_push_size _ rfl, (F.ext X1).new (Nat.le_refl _), by simpa using hz', ?_⟩
    exact r1.keep fun a o e => Heap.get?_push_of_some _ e
  · cases h
end

/-! subscripts -/
noncomputable def opItem : D → D → Option D
  | .str l, .int i => (seqIndex? i l.length).bind fun k => (l[k]?).map fun c => .str [c]
  | .list xs, .int i => (seqIndex? i xs.length).bind (xs[·]?)
  | .tup xs, .int i => (seqIndex? i xs.length).bind (xs[·]?)
  | _, _ => none
theorem seqIndex_bound {i : Int} {n k : Nat} (h : seqIndex? i n = some k) : -(n : Int) ≤ i ∧ i < n ∧ k = (if i < 0 then i + n else i).toNat ∧ k < n := by
  unfold seqIndex? at h
  dsimp only at h
  by_cases hi : i < 0
  · rw [if_pos hi] at h ⊢
    split at h
    · rename_i hc
      rw [Bool.and_eq_true, decide_eq_true_eq, decide_eq_true_eq] at hc
      cases h
      exact ⟨by omega, by omega, rfl, by omega⟩
    · cases h
  · rw [if_neg hi] at h ⊢
    split at h
    · rename_i hc
      rw [Bool.and_eq_true, decide_eq_true_eq, decide_eq_true_eq] at hc
      cases h
      exact ⟨by omega, by omega, rfl, by omega⟩
    · cases h

/-- one item -/
theorem item_ok {cx : Cx} {A : Around} {V : Avd} {s : Shared} {a b r : D} {x y : Value} {value slice : PySem.Expr} (ra : Rd cx s.heap V a x) (rb : Rd cx s.heap V b y) (h : opItem a b = some r)
    (hs : subscripted slice false x y = operate [x, y] (getItem x y)) : W cx.prog cx.w A (subscriptTail value slice x y) (fun v s' => Ext s s' ∧ Rd cx s'.heap V r v) s := by
  have hsz := szl
  unfold opItem at h
  split at h
  · rename_i l i
    rw [Rd] at ra
    rw [Rd] at rb
    obtain ⟨t, rfl, h1, h2⟩ := ra
    obtain ⟨u, rfl⟩ := rb
    rw [Option.bind_eq_some_iff] at h
    obtain ⟨k, hk, h⟩ := h
    rw [Option.map_eq_some_iff] at h
    obtain ⟨c, hc, rfl⟩ := h
    obtain ⟨b1, b2, b3, b4⟩ := seqIndex_bound hk
    refine W.of_any (tail_any (typeIs_str s _ t) slot_str_getitem.lookup (getItem_str (c := c) ?_ ?_ ⟨Ext.toks _, ?_⟩) hs)
    · simp only [Bool.or_eq_false_iff, decide_eq_false_iff_not]; constructor <;> omega
    · rw [str_len, hk]; simp [hc]
    · exact rd_str (fun c' hc' => by simp at hc'; subst hc'; exact h1 _ (List.mem_of_getElem? hc)) (by have := szl; simp; omega)
  · rename_i xs i
    rw [Rd] at ra
    rw [Rd] at rb
    obtain ⟨p, vs, n, rfl, ho, _, hz, ra⟩ := ra
    obtain ⟨u, rfl⟩ := rb
    rw [Option.bind_eq_some_iff] at h
    obtain ⟨k, hk, h⟩ := h
    obtain ⟨b1, b2, b3, b4⟩ := seqIndex_bound hk
    obtain ⟨v, hv, r⟩ := ra.get h
    have hl := ra.length
    rw [Array.length_toList] at hl
    have hv' : vs[k]? = some v := by rw [← Array.getElem?_toList]; exact hv
    have hlist : s.heap.IsList p vs := ⟨_, ho, rfl, n, rfl⟩
    by_cases hi : i < 0
    · rw [if_pos hi] at b3
      refine W.of_any (tail_any hlist.typeIs F.slot_list_getitem.lookup (wpAny_getItem_list_neg hlist hi (by omega) (by omega) (x := v) ?_ ⟨Ext.refl _, r⟩) hs)
      rw [show (i + (vs.size : Int)).toNat = k by rw [b3, hl]]; exact hv'
    · rw [if_neg hi] at b3
      refine W.of_any (tail_any hlist.typeIs F.slot_list_getitem.lookup (wpAny_getItem_list hlist (by omega) (by omega) (x := v) ?_ ⟨Ext.refl _, r⟩) hs)
      rw [← b3]; exact hv'
  · rename_i xs i
    rw [Rd] at ra
    rw [Rd] at rb
    obtain ⟨p, vs, n, rfl, ho, _, hz, ra⟩ := ra
    obtain ⟨u, rfl⟩ := rb
    rw [Option.bind_eq_some_iff] at h
    obtain ⟨k, hk, h⟩ := h
    obtain ⟨b1, b2, b3, b4⟩ := seqIndex_bound hk
    obtain ⟨v, hv, r⟩ := ra.get h
    have hl := ra.length
    rw [Array.length_toList] at hl
    have hv' : vs[k]? = some v := by rw [← Array.getElem?_toList]; exact hv
    exact W.of_any (tail_any (T := "tuple") ⟨_, ho, rfl⟩ F.slot_tuple_getitem.lookup (P.getItem_tuple ho (by omega) (by omega) (by rw [hl]; exact hk) hv' ⟨Ext.refl _, r⟩) hs)
  · cases h

noncomputable def notSlice : PySem.Expr → Bool
  | .Slice .. => false
  | _ => true
noncomputable def itemE (f g : Rho → Option D) : Rho → Option D := binE opItem f g
section
variable {J : Jd}
theorem subscript_split {value slice : PySem.Expr} {pos : Pos} {env : Env} : eval (.Subscript value slice pos) env = (do
    let o ← eval value env
    let i ← holding [o] (eval slice env)
    standAt pos
    subscriptTail value slice o i) := rfl
theorem se_item {value slice : PySem.Expr} {pos : Pos} {f g : Rho → Option D} (hv : SE J value f) (hi : SE J slice g) (hs : notSlice slice = true := by rfl) : SE J (.Subscript value slice pos) (itemE f g) := fun A env P O vm s ρ d hA F h => by
  unfold itemE binE at h
  rw [Option.bind_eq_some_iff] at h
  obtain ⟨a, ha, h⟩ := h
  rw [Option.bind_eq_some_iff] at h
  obtain ⟨b, hb, h⟩ := h
  rw [subscript_split]
  refine W.bind (W.mono (hv A env P O vm s ρ a hA F ha) fun x s₁ ⟨X1, r1⟩ => W.bind (W.holding (W.mono (hi A env P O vm s₁ ρ b hA (F.ext X1) hb) fun y s₂ ⟨X2, r2⟩ => W.bind (W.standAt ?_))))
  refine W.mono (item_ok (r1.keep X2.keep) r2 h ?_) fun v s₃ ⟨X3, r3⟩ => ⟨X1.trans (X2.trans X3), r3⟩
  cases slice <;> first | rfl | cases hs
end

/-! slices -/
noncomputable def cut {α : Type} (l : List α) (lo hi : Option Int) : List α := (l.drop (lo.elim 0 (clipAt l.length))).take (hi.elim l.length (clipAt l.length) - lo.elim 0 (clipAt l.length))
noncomputable def opCut (lo hi : Option Int) : D → Option D
  | .str l => some (.str (cut l lo hi))
  | .list xs => some (.list (cut xs lo hi))
  | _ => none
noncomputable def PartV : Option Int → Value → Prop
  | none, v => v = .none
  | some i, v => ∃ t, v = .int i t
noncomputable def SP (J : Jd) (e : Option PySem.Expr) (f : Rho → Option (Option Int)) : Prop :=
  ∀ (A : Around) (env : Env) (P : Avd) (O : Nat → Option Addr) (vm : Str → Option Value) (s : Shared) (ρ : Rho) (d : Option Int), Room A J.k → FrV J.cx J.sc J.tab env P O vm s ρ → f ρ = some d →
    W J.cx.prog J.cx.w A (valueOrNone (evalOpt e env)) (fun v s' => Ext s s' ∧ PartV d v) s
noncomputable def noP : Rho → Option (Option Int) := fun _ => some none
noncomputable def intP (f : Rho → Option D) : Rho → Option (Option Int) := fun ρ => (f ρ).bind fun d => match d with | .int i => some (some i) | _ => none
section
variable {J : Jd}
theorem sp_none : SP J none noP := fun A env P O vm s ρ d hA F h => by
  cases h; exact W.pure ⟨Ext.refl _, rfl⟩
theorem sp_some {e : PySem.Expr} {f : Rho → Option D} (he : SE J e f) : SP J (some e) (intP f) := fun A env P O vm s ρ d hA F h => by
  unfold intP at h
  rw [Option.bind_eq_some_iff] at h
  obtain ⟨a, ha, h⟩ := h
  split at h
  · cases h
    refine W.mono (he A env P O vm s ρ _ hA F ha) fun v s₁ ⟨X, r⟩ => ⟨X, ?_⟩
    rw [Rd] at r; exact r
  · cases h
theorem partV_isPart {d : Option Int} {v : Value} (h : PartV d v) : IsPart v d := by
  cases d with
  | none => cases h; exact .none
  | some i => obtain ⟨t, rfl⟩ := h; exact .int i t
theorem partV_value {d : Option Int} {v : Value} (h : PartV d v) : ∃ p : Option (Int × Tok), v = partValue p ∧ p.map (·.1) = d := by
  cases d with
  | none => cases h; exact ⟨none, rfl, rfl⟩
  | some i => obtain ⟨t, rfl⟩ := h; exact ⟨some (i, t), rfl, rfl⟩
theorem strSlice_plain (l : List Nat) (lo hi : Option Int) : (Builtin.Str.strSliceIndices lo hi 1 l.length).filterMap (l[·]?) = cut l lo hi := by
  have h1 : Builtin.Str.strSliceIndices lo hi 1 l.length = sliceRange (((lo.elim 0 (clipAt l.length) : Nat) : Int)) ((hi.elim l.length (clipAt l.length) : Nat) : Int) 1 := by
    cases lo <;> cases hi <;> simp [Builtin.Str.strSliceIndices, clipAt_cast]
  rw [h1, sliceRange_one]
  have := pick_run l.toArray (lo.elim 0 (clipAt l.length)) (hi.elim l.length (clipAt l.length) - lo.elim 0 (clipAt l.length))
  simpa [cut] using this
theorem mem_cut {α : Type} {l : List α} {lo hi : Option Int} {c : α} (h : c ∈ cut l lo hi) : c ∈ l := List.mem_of_mem_drop (List.mem_of_mem_take h)
theorem cut_le {α : Type} (l : List α) (lo hi : Option Int) : (cut l lo hi).length ≤ l.length := by
  unfold cut; rw [List.length_take, List.length_drop]; omega

noncomputable def cutE (f : Rho → Option D) (lo hi : Rho → Option (Option Int)) : Rho → Option D := fun ρ => (f ρ).bind fun a => (lo ρ).bind fun i => (hi ρ).bind fun j => opCut i j a

theorem cut_ok {cx : Cx} {A : Around} {V : Avd} {s : Shared} {a r : D} {x vl vu : Value} {lo hi : Option Int} {value : PySem.Expr} {l u : Option PySem.Expr} {p : Pos} {sl : Addr} (hV : ∀ p, V p → p < s.heap.objs.size) (ra : Rd cx s.heap V a x) (pl : PartV lo vl) (pu : PartV hi vu)
    (hsl : s.heap.get? sl = some { cls := .type "slice", data := .fields #[vl, vu, .none] }) (h : opCut lo hi a = some r) :
    W cx.prog cx.w A (subscriptTail value (.Slice l u none p) x (.ref sl)) (fun v s' => Ext s s' ∧ Rd cx s'.heap V r v) s := by
  unfold opCut at h
  split at h
  · rename_i l'
    cases h
    rw [Rd] at ra
    obtain ⟨t, rfl, h1, h2⟩ := ra
    obtain ⟨p1, rfl, e1⟩ := partV_value pl
    obtain ⟨p2, rfl, e2⟩ := partV_value pu
    refine W.of_any (tail_any (ops := [.ref sl, .str ⟨l'.toArray⟩ t]) (typeIs_str s _ t) slot_str_getitem.lookup (wpAny_getItem_str_slice (l := p1) (u := p2) (st := none) ⟨_, hsl, rfl, rfl⟩ rfl ?_) rfl)
    have hp : slicePicked ⟨l'.toArray⟩ p1 p2 none = Builtin.Str.strSliceIndices lo hi 1 l'.length := by
      unfold slicePicked; rw [e1, e2, str_len]; rfl
    unfold sliceMade
    rw [hp]
    have hget : ((Builtin.Str.strSliceIndices lo hi 1 l'.length).filterMap ((⟨l'.toArray⟩ : Str).cps[·]?)) = cut l' lo hi := by
      rw [← strSlice_plain]; simp
    have hr : ∀ t', Rd cx s.heap V (.str (cut l' lo hi)) (.str ⟨(cut l' lo hi).toArray⟩ t') := fun t' => rd_str (fun c hc => h1 c (mem_cut hc)) (Nat.le_trans (cut_le _ _ _) h2)
    split
    · rename_i hc
      rw [Bool.and_eq_true] at hc
      have hlen : (Builtin.Str.strSliceIndices lo hi 1 l'.length).length = l'.length := by have := hc.2; rw [str_len] at this; simpa using this
      have hcut : cut l' lo hi = l' := by
        have h1 : (Builtin.Str.strSliceIndices lo hi 1 l'.length) = sliceRange (((lo.elim 0 (clipAt l'.length) : Nat) : Int)) ((hi.elim l'.length (clipAt l'.length) : Nat) : Int) 1 := by
          cases lo <;> cases hi <;> simp [Builtin.Str.strSliceIndices, clipAt_cast]
        rw [h1, sliceRange_one] at hlen
        simp only [List.length_map, List.length_range] at hlen
        unfold cut
        generalize lo.elim 0 (clipAt l'.length) = i at *
        have hj : hi.elim l'.length (clipAt l'.length) ≤ l'.length := by
          cases hi with
          | none => exact Nat.le_refl _
          | some j => simp only [Option.elim]; have := clipAt_cast l'.length j; omega
        generalize hi.elim l'.length (clipAt l'.length) = j at *
        rcases Nat.eq_zero_or_pos l'.length with h0 | h0
        · have : l' = [] := List.length_eq_zero_iff.mp h0
          subst this; simp
        · have : i = 0 := by omega
          subst this
          rw [List.drop_zero, List.take_of_length_le (by omega)]
      exact ⟨Ext.refl _, by have := hr t; rw [hcut] at this ⊢; exact this⟩
    · rw [hget]
      exact ⟨by rw [str_len]; exact Nat.le_trans (cut_le _ _ _) h2, Ext.toks _, hr _⟩
  · rename_i xs
    cases h
    rw [Rd] at ra
    obtain ⟨q, vs, n, rfl, ho, _, hz, ra⟩ := ra
    have hlist : s.heap.IsList q vs := ⟨_, ho, rfl, n, rfl⟩
    refine W.of_any (tail_any (ops := [.ref sl, .ref q]) hlist.typeIs F.slot_list_getitem.lookup (wpAny_getItem_list_slice hlist ⟨_, hsl, rfl, rfl⟩ (partV_isPart pl) (partV_isPart pu) .none (by intro x; cases x) ⟨Ext.push _ _, ?_⟩ hz) rfl)
    have hl := ra.length
    rw [Array.length_toList] at hl
    rw [Rd]
    refine ⟨_, _, 0, rfl, Heap.get?_push_size _ rfl, fun hp => Nat.lt_irrefl _ (hV _ hp), Nat.le_trans (slicePick_size_le _ _ _ _) hz, ?_⟩
    rw [slicePick_plain, hl]
    exact ((ra.drop _).take _).keep fun _ _ e => Heap.get?_push_of_some _ e
  · cases h

theorem se_cut {value : PySem.Expr} {l u : Option PySem.Expr} {p pos : Pos} {f : Rho → Option D} {lo hi : Rho → Option (Option Int)} (hv : SE J value f) (hl : SP J l lo) (hu : SP J u hi) : SE J (.Subscript value (.Slice l u none p) pos) (cutE f lo hi) := fun A env P O vm s ρ d hA F h => by
  unfold cutE at h
  rw [Option.bind_eq_some_iff] at h
  obtain ⟨a, ha, h⟩ := h
  rw [Option.bind_eq_some_iff] at h
  obtain ⟨i, hi', h⟩ := h
  rw [Option.bind_eq_some_iff] at h
  obtain ⟨j, hj, h⟩ := h
  rw [subscript_split]
  refine W.bind (W.mono (hv A env P O vm s ρ a hA F ha) fun x s₁ ⟨X1, r1⟩ => W.bind (W.holding ?_))
  show W _ _ A (do let l' ← valueOrNone (evalOpt l env); let u' ← holding [l'] (valueOrNone (evalOpt u env)); let st ← holding [l', u'] (valueOrNone (evalOpt none env)); newFields "slice" [l', u', st]) _ s₁
  refine W.bind (W.mono (hl A env P O vm s₁ ρ i hA (F.ext X1) hi') fun vl s₂ ⟨X2, p2⟩ => W.bind (W.holding (W.mono (hu A env P O vm s₂ ρ j hA (F.ext (X1.trans X2)) hj) fun vu s₃ ⟨X3, p3⟩ => W.bind (W.holding (W.pure ?_)))))
  refine W.of_any (wpAny_newObj_type ?_ (by show (#[vl, vu, Value.none] : Array Value).size ≤ _; have := szl; simp; omega))
  refine W.bind (W.standAt ?_)
  have X := X1.trans (X2.trans (X3.trans (Ext.push (s := s₃) { cls := .type "slice", data := .fields #[vl, vu, .none] } s₃.toks)))
  refine W.mono (cut_ok (fun q hq => (F.ext X).avLt hq) (((r1.keep X2.keep).keep X3.keep).keep fun _ _ e => Heap.get?_push_of_some _ e) p2 p3 (Heap.get?_push_size _ rfl) h) fun v s₄ ⟨X4, r4⟩ => ⟨X.trans X4, r4⟩
end
end Mine

end
section
open PySem PySem.W PySem.Calls PyProof.Rows
set_option Elab.async false
set_option maxRecDepth 100000
namespace Mine

/-! calls -/
noncomputable def KeepOk (f : Value) (h : Heap) : Prop := (∃ a o fd, f = .ref a ∧ h.get? a = some o ∧ o.data = .func fd) ∨ ∀ a, f ≠ .ref a

theorem backTo_plain (pos : Pos) (env : Env) : ∀ {es : List PySem.Expr}, es.any isStarred = false → (backTo pos (starEach es env)).any (·.1) = false ∧ (backTo pos (starEach es env)).length = es.length
  | [], _ => ⟨rfl, rfl⟩
  | e :: es, h => by
    rw [List.any_cons, Bool.or_eq_false_iff] at h
    have e1 : backTo pos (starEach (e :: es) env) = (false, eval e env) :: backTo pos (starEach es env) := by
      cases e <;> first | rfl | cases h.1
    have ih := backTo_plain pos env h.2
    rw [e1]
    exact ⟨by rw [List.any_cons, ih.1]; rfl, by rw [List.length_cons, List.length_cons, ih.2]⟩

section
variable {prog : Program} {w : World} {A : Around} {s : Shared}
theorem evalArgs_ok {f : Value} {args : List (Bool × Sem Value)} {Q : Args → Shared → Prop} (hs : args.any (·.1) = false) (h : W prog w A (spliced args) (fun vs s' => Q ⟨vs, []⟩ s') s) : W prog w A (evalArgs f true args []) Q s := by
  have e : evalArgs f true args [] = (spliced args >>= fun pos => holding (pos ++ (Option.none : Option Value).toList) (do
      let kw := (([] : List (Option Str × Sem Value)).filterMap (·.1)).zip (← evalAll (([] : List (Option Str × Sem Value)).map (·.2)))
      return ⟨← (pure pos : Sem (List Value)), kw⟩)) := by
    unfold evalArgs
    cases args with
    | nil => simp
    | cons x rest =>
      obtain ⟨b, t⟩ := x
      cases b with
      | true => simp at hs
      | false => simp
  rw [e]
  exact W.bind (W.mono h fun vs s' h' => W.holding (W.bind (W.pure (W.bind (W.pure (W.pure h'))))))

theorem callWith_ok {pos : Pos} {f : Value} {first : List Value} {args : List (Bool × Sem Value)} {Q : Value → Shared → Prop} (hs : args.any (·.1) = false) (hl : args.length ≤ 30)
    (h : W prog w A (spliced args) (fun vs s₁ => KeepOk f s₁.heap ∧ W prog w A (PySem.call f (first ++ vs)) Q s₁) s) : W prog w A (callWith pos f first args []) Q s := by
  unfold callWith
  refine W.bind (W.holding (evalArgs_ok hs (W.mono h fun vs s₁ ⟨hk, h₁⟩ => W.bind (W.standAt ?_))))
  have hfin : ∀ {t : Sem Value}, W prog w A t Q s₁ → W prog w A (t >>= fun r => do holding [r] point; pure r) Q s₁ := fun ht =>
    W.bind (W.mono ht fun r s₂ hr => W.bind (W.holding (W.point (W.pure hr))))
  rcases hk with ⟨a, o, fd, rfl, ho, hd⟩ | hk
  · refine W.bind (m := keeperOf (.ref a)) ?_
    have hko : W prog w A (keeperOf (.ref a)) (fun k s' => k = .frame ∧ s' = s₁) s₁ := by
      refine W.of_any ?_
      unfold keeperOf
      refine wpAny_bind (wpAny_load ho ?_)
      rw [hd]
      exact wpAny_pure ⟨rfl, rfl⟩
    refine W.mono hko fun k s' ⟨e1, e2⟩ => ?_
    subst e1 e2
    simp only [hs, List.any_nil, Bool.or_false]
    rw [if_neg (by simp; omega)]
    refine hfin ?_
    unfold callMarked
    exact W.keep h₁
  · have hko : keeperOf f = pure .machine := by
      unfold keeperOf
      cases f <;> first | rfl | exact absurd rfl (hk _)
    rw [hko]
    refine W.bind (W.pure ?_)
    simp only [hs, List.any_nil, Bool.or_false]
    exact hfin h₁
end

noncomputable def Base (cx : Cx) (h : Heap) : Prop := cx.h₁.objs.size ≤ h.objs.size ∧ ∀ a o, cx.h₁.get? a = some o → h.get? a = some o
theorem FrV.baseOf {cx : Cx} {sc : Scope} {tab : List (Option Str)} {env : Env} {P : Avd} {O : Nat → Option Addr} {vm : Str → Option Value} {s : Shared} {ρ : List Slot} (F : FrV cx sc tab env P O vm s ρ) : Base cx s.heap :=
  ⟨have x := F.fresh env.locals (.inr (.inl rfl)); Nat.le_of_lt (Nat.lt_of_le_of_lt x.1 x.2), F.base⟩
/-- what a call of fv on data gives -/
noncomputable def Con (cx : Cx) (k : Nat) (fv : Value) (F : List D → Option D) : Prop :=
  ∀ (A : Around) (V : Avd) (s : Shared) (ds : List D) (vs : List Value) (r : D), Room A k → (∀ p, V p → p < s.heap.objs.size) → Base cx s.heap → RdAll cx s.heap V ds vs → F ds = some r →
    W cx.prog cx.w A (PySem.call fv vs) (fun v s' => Ext s s' ∧ Rd cx s'.heap V r v) s
noncomputable def callE (F : List D → Option D) (g : Rho → Option (List D)) : Rho → Option D := fun ρ => (g ρ).bind F

theorem Room.le {A : Around} {k k' : Nat} (h : Room A k) (hk : k' ≤ k) : Room A k' := ⟨h.1, by have := h.2.1; omega, by have := h.2.2; omega⟩

section
variable {J : Jd}
theorem se_call {fn : Str} {fv : Value} {p pos : Pos} {es : List PySem.Expr} {F : List D → Option D} {g : Rho → Option (List D)} {k : Nat} (hc : Con J.cx k fv F) (hes : SEs J es g)
    (hv : (J.cx.mg fn).or (J.cx.mb fn) = some fv) (hkeep : KeepOk fv J.cx.h₁) (hk : k ≤ J.k := by decide)
    (hl : J.sc.names.lookup fn = some .globalImplicit := by rfl) (hst : es.any isStarred = false := by rfl) (hlen : es.length ≤ 30 := by decide) (hdb : (fn == ("__debug__" : Str)) = false := by decide) :
    SE J (.Call (.Name fn p) es [] pos) (callE F g) := fun A env P O vm s ρ d hA Fr h => by
  unfold callE at h
  rw [Option.bind_eq_some_iff] at h
  obtain ⟨ds, hds, h⟩ := h
  show W _ _ A (do callWith pos (← eval (.Name fn p) env) [] (backTo pos (starEach es env)) []) _ s
  rw [eval_Name env fn p hdb]
  refine W.bind (W.bind (W.standAt (Fr.glob_ hl hv ?_)))
  have hb := backTo_plain pos env hst
  refine callWith_ok hb.1 (by rw [hb.2]; exact hlen) (W.mono (hes A env P O vm s ρ ds pos hA Fr hds) fun vs s₁ ⟨X1, r1⟩ => ⟨?_, ?_⟩)
  · rcases hkeep with ⟨a, o, fd, e, ho, hd⟩ | hk
    · exact .inl ⟨a, o, fd, e, (Fr.ext X1).base a o ho, hd⟩
    · exact .inr hk
  · exact W.mono (hc A (Av env P O) s₁ ds vs d (hA.le hk) (fun q hq => (Fr.ext X1).avLt hq) (Fr.ext X1).baseOf r1 h) fun v s₂ ⟨X2, r2⟩ => ⟨X1.trans X2, r2⟩
end

/-! built-in functions -/
noncomputable def lenF : List D → Option D
  | [.str l] => some (.int l.length)
  | [.list xs] => some (.int xs.length)
  | _ => none
theorem con_len {cx : Cx} {k : Nat} : Con cx k (.builtin "len") lenF := fun A V s ds vs r hA hV hb ra h => by
  have hsz := szl
  unfold lenF at h
  split at h
  · cases h
    rw [RdAll] at ra; obtain ⟨v, l, rfl, ra, rb⟩ := ra
    rw [RdAll] at rb; subst rb
    rw [Rd] at ra; obtain ⟨t, rfl, _, hz⟩ := ra
    exact W.of_any (len_str (by rw [str_len]; omega) ⟨Ext.toks _, by rw [Rd, str_len]; exact ⟨_, rfl⟩⟩)
  · cases h
    rw [RdAll] at ra; obtain ⟨v, l, rfl, ra, rb⟩ := ra
    rw [RdAll] at rb; subst rb
    rw [Rd] at ra; obtain ⟨a, us, n, rfl, ho, _, hz, ra⟩ := ra
    have hl := ra.length
    rw [Array.length_toList] at hl
    exact W.of_any (Calls.call_len_list ⟨_, ho, rfl, n, rfl⟩ (by omega) ⟨Ext.toks _, by rw [Rd, hl]; exact ⟨_, rfl⟩⟩)
  · cases h
noncomputable def chrF : List D → Option D
  | [.int i] => if 0 ≤ i ∧ i < 1114112 then some (.str [i.toNat]) else none
  | _ => none
theorem con_chr {cx : Cx} {k : Nat} : Con cx k (.builtin "chr") chrF := fun A V s ds vs r hA hV hb ra h => by
  have hsz := szl
  unfold chrF at h
  split at h
  · split at h
    · rename_i hi
      cases h
      rw [RdAll] at ra; obtain ⟨v, l, rfl, ra, rb⟩ := ra
      rw [RdAll] at rb; subst rb
      rw [Rd] at ra; obtain ⟨t, rfl⟩ := ra
      refine W.of_any (chr_of_range hi.1 (by omega) ⟨Ext.toks _, rd_str (fun c hc => ?_) (by simp; omega)⟩)
      simp at hc; subst hc; omega
    · cases h
  · cases h
end Mine

end
section
open PySem PySem.W PySem.Calls PyProof.Rows
set_option Elab.async false
set_option maxRecDepth 100000
namespace Mine

/-! the heap only grows -/
theorem runs_size {M : Model} {Γ : Ctx} {p : Pos} {t : Sem Fin} {fs : List Frame} {s s' : Shared} {e : End} (h : Runs M Γ p t fs s e s') : s.heap.objs.size ≤ s'.heap.objs.size := by
  induction h <;> (try simp only [Shared.setGen, Heap.size_push, Heap.size_after_update] at *) <;> omega
theorem wakes_size {M : Model} {Γ : Ctx} {p : Pos} {g : Nat} {r : Resume} {s s' : Shared} {res : GenResult} (h : Wakes M Γ p g r s res s') : s.heap.objs.size ≤ s'.heap.objs.size := by
  unfold Wakes at h
  split at h
  · exact h.elim
  · split at h
    · obtain ⟨e₁, s₁, hr, _, _, rfl⟩ := h; exact (runs_size hr : (s.setGen g .running).heap.objs.size ≤ s₁.heap.objs.size)
    · rw [h.2]; exact Nat.le_refl _
    · rw [h.2]; exact Nat.le_refl _
  · obtain ⟨e₁, s₁, hr, _, _, rfl⟩ := h; exact (runs_size hr : (s.setGen g .running).heap.objs.size ≤ s₁.heap.objs.size)
  · rw [h.2]; exact Nat.le_refl _
  · rw [h.2]; exact Nat.le_refl _
theorem wp_size {α : Type} (M : Model) (Γ : Ctx) (n : Nat) (t : Sem α) : ∀ (Q : α → Pos → Shared → Prop) (E : Value → Pos → Shared → Prop) (p : Pos) (s : Shared), n ≤ s.heap.objs.size → Sem.wp M Γ t Q E p s →
    Sem.wp M Γ t (fun a p' s' => n ≤ s'.heap.objs.size ∧ Q a p' s') E p s := by
  induction t with
  | pure a => intro Q E p s hn h; exact ⟨hn, h⟩
  | raise e => intro Q E p s hn h; exact h
  | unsupported _ => intro Q E p s _ h; exact h
  | finish _ => intro Q E p s _ h; exact h
  | rule _ k ih => intro Q E p s hn h; exact ih () Q E p s hn h
  | «at» p' k ih => intro Q E p s hn h; exact ih () Q E p' s hn h
  | load a _ k ih => intro Q E p s hn h; obtain ⟨o, ho, h⟩ := h; exact ⟨o, ho, ih o Q E p s hn h⟩
  | update a _ f k ih => intro Q E p s hn h; exact ⟨h.1, ih () Q E p _ (by show n ≤ (s.heap.update a f).objs.size; rw [Heap.size_after_update]; exact hn) h.2⟩
  | loadIfAlive a k ih => intro Q E p s hn h; exact ih _ Q E p s hn h
  | point _ k ih => intro Q E p s hn h; exact ih () Q E p s hn h
  | register _ _ => intro Q E p s _ h; exact h
  | alloc o k ih => intro Q E p s hn h; exact ih _ Q E p _ (by show n ≤ (s.heap.push o).objs.size; rw [Heap.size_push]; exact Nat.le_succ_of_le hn) h
  | fresh k ih => intro Q E p s hn h; exact ih _ Q E p { s with toks := s.toks + 1 } hn h
  | ask k ih => intro Q E p s hn h; exact ih _ Q E p s hn h
  | choose src m k ih => intro Q E p s hn h; exact ⟨h.1, ih _ Q E p _ hn h.2⟩
  | os q _ k ih => intro Q E p s hn h; exact ih _ Q E p _ hn h
  | call c hd _ _ k ih => intro Q E p s hn h; obtain ⟨r, s', hr, h⟩ := h; exact ⟨r, s', hr, ih r Q E p s' (Nat.le_trans hn (runs_size hr)) h⟩
  | handled own k ih => intro Q E p s hn h; exact ih _ Q E p s hn h
  | genState g k ih => intro Q E p s hn h; obtain ⟨st, hs, h⟩ := h; exact ⟨st, hs, ih _ Q E p s hn h⟩
  | newGen c k ih => intro Q E p s hn h; exact ih _ Q E p _ hn h
  | resume g r _ k ih => intro Q E p s hn h; obtain ⟨res, s', hw, h⟩ := h; exact ⟨res, s', hw, ih res Q E p s' (Nat.le_trans hn (wakes_size hw)) h⟩
  | yield _ _ _ _ => intro Q E p s _ h; exact h
  | stack k ih => intro Q E p s hn h; exact ih _ Q E p s hn h
  | fork _ _ => intro Q E p s _ h; exact h
  | thread k ih => intro Q E p s hn h; exact ih _ Q E p s hn h
  | await _ _ _ _ _ => intro Q E p s _ h; exact h

section
variable {α : Type} {prog : Program} {w : World} {A : Around} {s : Shared}
theorem W.size {t : Sem α} {Q : α → Shared → Prop} (h : W prog w A t Q s) : W prog w A t (fun a s' => s.heap.objs.size ≤ s'.heap.objs.size ∧ Q a s') s :=
  fun ht Γ p hΓ hc => wp_size _ Γ _ t _ _ p s (Nat.le_refl _) (h ht Γ p hΓ hc)
/-- a leaf whose rule tells the heap's size not at all -/
theorem W.of_anyS {t : Sem α} {Q : α → Shared → Prop} (h : wpAny (model prog w) A t (fun a s' => s.heap.objs.size ≤ s'.heap.objs.size → Q a s') (fun _ _ => False) s) : W prog w A t Q s :=
  W.mono (W.size (W.of_any h)) fun _ _ ⟨h1, h2⟩ => h2 h1
end

/-! statements -/
inductive Out where
  | next
  | ret (d : D)
noncomputable def OutOk (cx : Cx) (h : Heap) (P : Avd) : Out → Flow → Prop
  | .next, f => f = .next
  | .ret d, f => ∃ v, f = .ret v ∧ Rd cx h P d v

noncomputable def Post (J : Jd) (env : Env) (P : Avd) (O : Nat → Option Addr) (s : Shared) (out : Out) (ρ' : Rho) (fl : Flow) (s' : Shared) : Prop :=
  OutOk J.cx s'.heap P out fl ∧ ∃ O' vm', FrV J.cx J.sc J.tab env P O' vm' s' ρ' ∧ Tr env O s O' s'
noncomputable def SS (J : Jd) (st : List Stmt) (f : Rho → Option (Out × Rho)) : Prop :=
  ∀ (A : Around) (env : Env) (P : Avd) (O : Nat → Option Addr) (vm : Str → Option Value) (s : Shared) (ρ : Rho) (out : Out) (ρ' : Rho), Room A J.k → FrV J.cx J.sc J.tab env P O vm s ρ → f ρ = some (out, ρ') →
    W J.cx.prog J.cx.w A (execs st env) (Post J env P O s out ρ') s
noncomputable def S1 (J : Jd) (st : Stmt) (f : Rho → Option (Out × Rho)) : Prop :=
  ∀ (A : Around) (env : Env) (P : Avd) (O : Nat → Option Addr) (vm : Str → Option Value) (s : Shared) (ρ : Rho) (out : Out) (ρ' : Rho), Room A J.k → FrV J.cx J.sc J.tab env P O vm s ρ → f ρ = some (out, ρ') →
    W J.cx.prog J.cx.w A (exec st env) (Post J env P O s out ρ') s
/-- a target -/
noncomputable def SA (J : Jd) (t : PySem.Expr) (g : D → Rho → Option Rho) : Prop :=
  ∀ (A : Around) (env : Env) (P : Avd) (O : Nat → Option Addr) (vm : Str → Option Value) (s : Shared) (ρ : Rho) (d : D) (v : Value) (ρ' : Rho), Room A J.k → FrV J.cx J.sc J.tab env P O vm s ρ → Rd J.cx s.heap (Av env P O) d v → g d ρ = some ρ' →
    W J.cx.prog J.cx.w A (assign t env v) (fun _ s' => ∃ O' vm', FrV J.cx J.sc J.tab env P O' vm' s' ρ' ∧ Tr env O s O' s') s

noncomputable def skS : Rho → Option (Out × Rho) := fun ρ => some (.next, ρ)
noncomputable def seqS (f g : Rho → Option (Out × Rho)) : Rho → Option (Out × Rho) := fun ρ => (f ρ).bind fun x => match x with | (.next, ρ') => g ρ' | (.ret d, ρ') => some (.ret d, ρ')
noncomputable def retS (f : Rho → Option D) : Rho → Option (Out × Rho) := fun ρ => (f ρ).map fun d => (.ret d, ρ)
noncomputable def setS (g : D → Rho → Option Rho) (f : Rho → Option D) : Rho → Option (Out × Rho) := fun ρ => (f ρ).bind fun d => (g d ρ).map fun ρ' => (.next, ρ')
noncomputable def ownS (i : Nat) (f : Rho → Option (List D)) : Rho → Option (Out × Rho) := fun ρ => (f ρ).map fun ds => (.next, ρ.set i (.own ds))
noncomputable def ifS (t : Rho → Option Bool) (f g : Rho → Option (Out × Rho)) : Rho → Option (Out × Rho) := fun ρ => (t ρ).bind fun b => if b then f ρ else g ρ
noncomputable def frzS (i : Nat) (g : Rho → Option (Out × Rho)) : Rho → Option (Out × Rho) := fun ρ => match ρ[i]? with | some (.own xs) => g (ρ.set i (.val (.list xs))) | _ => none
noncomputable def nameA (i : Nat) : D → Rho → Option Rho := fun d ρ => some (ρ.set i (.val d))
noncomputable def setAll : List Nat → List D → Rho → Option Rho
  | [], [], ρ => some ρ
  | i :: is, d :: ds, ρ => setAll is ds (ρ.set i (.val d))
  | _, _, _ => none
noncomputable def tupA (is : List Nat) : D → Rho → Option Rho := fun d ρ => match d with | .tup ds => setAll is ds ρ | _ => none
section
variable {J : Jd}
theorem ss_nil : SS J [] skS := fun A env P O vm s ρ out ρ' hA F h => by
  cases h
  exact W.pure ⟨rfl, O, vm, F, Tr.refl _ _ _⟩
theorem ss_cons {st : Stmt} {rest : List Stmt} {f g : Rho → Option (Out × Rho)} (h1 : S1 J st f) (h2 : SS J rest g) : SS J (st :: rest) (seqS f g) := fun A env P O vm s ρ out ρ' hA F h => by
  unfold seqS at h
  rw [Option.bind_eq_some_iff] at h
  obtain ⟨⟨o1, ρ1⟩, hf, h⟩ := h
  rw [execs_cons]
  refine W.bind (W.mono (h1 A env P O vm s ρ o1 ρ1 hA F hf) fun fl s₁ ⟨ok, O1, vm1, F1, T1⟩ => ?_)
  cases o1 with
  | next =>
    have : fl = .next := ok
    subst this
    exact W.mono (h2 A env P O1 vm1 s₁ ρ1 out ρ' hA F1 h) fun fl s₂ ⟨ok2, O2, vm2, F2, T2⟩ => ⟨ok2, O2, vm2, F2, T1.trans T2⟩
  | ret d =>
    cases h
    obtain ⟨v, rfl, r⟩ := ok
    exact W.pure ⟨⟨v, rfl, r⟩, O1, vm1, F1, T1⟩
theorem ss_freeze {st : List Stmt} {g : Rho → Option (Out × Rho)} {i : Nat} (h1 : SS J st g) : SS J st (frzS i g) := fun A env P O vm s ρ out ρ' hA F h => by
  unfold frzS at h
  split at h
  · rename_i xs hi
    refine W.mono (h1 A env P (off O i) vm s _ out ρ' hA (F.freeze hi) h) fun fl s₁ ⟨ok, O1, vm1, F1, T1⟩ => ⟨ok, O1, vm1, F1, ⟨T1.gens, T1.os, T1.size, fun a o hn e => T1.keep a o (fun m => hn (m.imp (fun ⟨j, hj⟩ => ⟨j, (off_some hj).2⟩) id)) e, fun j a e => (T1.own j a e).imp (fun ⟨k, hk⟩ => ⟨k, (off_some hk).2⟩) id⟩⟩
  · cases h

theorem s1_return {e : PySem.Expr} {pos : Pos} {f : Rho → Option D} (he : SE J e f) : S1 J (.Return (some e) pos) (retS f) := fun A env P O vm s ρ out ρ' hA F h => by
  unfold retS at h
  rw [Option.map_eq_some_iff] at h
  obtain ⟨d, hd, h⟩ := h
  cases h
  rw [exec_Return_some]
  exact W.bind (W.standAt (W.bind (W.mono (he A env P O vm s ρ d hA F hd) fun v s₁ ⟨X, r⟩ => W.pure ⟨⟨v, rfl, r.weak fun a ha => .inl ha⟩, O, vm, F.ext X, X.tr⟩)))

theorem sa_name {x : Str} {pos : Pos} {i : Nat} (ht : J.tab[i]? = some (some x) := by rfl) (hf : J.sc.names.lookup x ≠ some .free := by decide) : SA J (.Name x pos) (nameA i) := fun A env P O vm s ρ d v ρ' hA F r h => by
  cases h
  show W _ _ A (do standAt pos; bindName env x v) _ s
  refine W.bind (W.standAt ?_)
  unfold bindName
  exact W.bind (W.holding (W.point (W.bind (F.store ht (fun e => hf e) r fun s' F' T' => W.point ⟨_, _, F', T'⟩))))

noncomputable def notComp : PySem.Expr → Bool
  | .ListComp .. | .SetComp .. | .DictComp .. => false
  | _ => true
noncomputable def notTup : PySem.Expr → Bool
  | .Tuple .. => false
  | _ => true
noncomputable def notListT : PySem.Expr → Bool
  | .List .. => false
  | _ => true
theorem swaps_false {value : PySem.Expr} {t : Option PySem.Expr} {line : Nat} {env : Env} (h : notComp value = true) : swapsWith value t line env = pure false := by
  cases value <;> first | rfl | cases h

theorem assignEach_cons (env : Env) {t : PySem.Expr} {rest : List PySem.Expr} (h : isStarred t = false) : assignEach (t :: rest) env = (false, assign t env) :: assignEach rest env := by
  cases t <;> first | rfl | (cases h; done)
theorem s1_assign {t value : PySem.Expr} {pos : Pos} {f : Rho → Option D} {g : D → Rho → Option Rho} (ht : SA J t g) (hv : SE J value f) (hc : notComp value = true := by rfl) (hn : (notTup value || notTup t) = true := by rfl)
    (hst : isStarred t = false := by rfl) (hl : notListT t = true := by rfl) : S1 J (.Assign [t] value pos) (setS g f) := fun A env P O vm s ρ out ρ' hA F h => by
  unfold setS at h
  rw [Option.bind_eq_some_iff] at h
  obtain ⟨d, hd, h⟩ := h
  rw [Option.map_eq_some_iff] at h
  obtain ⟨ρ1, hg, h⟩ := h
  cases h
  have hsw : swappedStores [t] value env = pure none := by
    unfold swappedStores
    cases t <;> first | rfl | (cases hl; done) | skip
    all_goals (cases value <;> first | rfl | (cases hn; done))
  have hae : (assignEach [t] env).map (·.2) = [assign t env] := by rw [assignEach_cons env hst]; rfl
  show W _ _ A (do
    standAt pos
    if ← swapsWithSole [t] value pos.line env then do
      evalThenUse value env fun v => assignAll v ((assignEach [t] env).map (·.2))
      pure Flow.next
    else do
      let v ← eval value env
      assignStores env v (← swappedStores [t] value env) ((assignEach [t] env).map (·.2))) _ s
  rw [show swapsWithSole [t] value pos.line env = pure false from swaps_false hc, hsw, hae]
  refine W.bind (W.standAt (W.bind (W.pure ?_)))
  rw [if_neg Bool.false_ne_true]
  refine W.bind (W.mono (hv A env P O vm s ρ d hA F hd) fun v s₁ ⟨X, r⟩ => W.bind (W.pure ?_))
  show W _ _ A (do assignAll v [assign t env]; pure Flow.next) _ s₁
  refine W.bind (W.mono (ht A env P O vm s₁ ρ d v ρ' hA (F.ext X) r hg) fun _ s₂ ⟨O', vm', F', T'⟩ => W.pure ⟨rfl, O', vm', F', X.tr.trans T'⟩)

theorem s1_own {x : Str} {p pos : Pos} {value : PySem.Expr} {i : Nat} {f : Rho → Option (List D)} (hv : SEF J value f) (hc : notComp value = true := by rfl) (ht : J.tab[i]? = some (some x) := by rfl) (hf : J.sc.names.lookup x ≠ some .free := by decide) :
    S1 J (.Assign [.Name x p] value pos) (ownS i f) := fun A env P O vm s ρ out ρ' hA F h => by
  unfold ownS at h
  rw [Option.map_eq_some_iff] at h
  obtain ⟨ds, hds, h⟩ := h
  cases h
  rw [exec_Assign_Name env x p value pos (swaps_false hc)]
  refine W.bind (W.standAt (W.bind (W.mono (hv A env P O vm s ρ ds hA F hds) fun v s₁ ⟨X, a, vs, n, e1, e2, e3, e4, e5⟩ => W.bind (W.standAt ?_))))
  subst e1
  unfold bindName
  exact W.bind (W.bind (W.holding (W.point (W.bind (F.storeOwn X ht (fun e => hf e) e2 e3 e4 e5 fun s' F' T' => W.point (W.pure ⟨rfl, _, _, F', T'⟩))))))

theorem s1_if {t : PySem.Expr} {body orelse : List Stmt} {pos : Pos} {c : Rho → Option Bool} {f g : Rho → Option (Out × Rho)} (ht : ST J t c) (hb : SS J body f) (ho : SS J orelse g) : S1 J (.If t body orelse pos) (ifS c f g) := fun A env P O vm s ρ out ρ' hA F h => by
  unfold ifS at h
  rw [Option.bind_eq_some_iff] at h
  obtain ⟨b, hb', h⟩ := h
  rw [exec_If]
  refine W.bind (W.standAt (W.bind (W.mono (ht A env P O vm s ρ b hA F hb') fun x s₁ ⟨X, e⟩ => ?_)))
  subst e
  cases x with
  | true =>
    simp only [if_true] at h ⊢
    exact W.mono (hb A env P O vm s₁ ρ out ρ' hA (F.ext X) h) fun fl s₂ ⟨ok, O', vm', F', T'⟩ => ⟨ok, O', vm', F', X.tr.trans T'⟩
  | false =>
    simp only [Bool.false_eq_true, if_false] at h ⊢
    exact W.mono (ho A env P O vm s₁ ρ out ρ' hA (F.ext X) h) fun fl s₂ ⟨ok, O', vm', F', T'⟩ => ⟨ok, O', vm', F', X.tr.trans T'⟩

end
end Mine

end
section
open PySem PySem.W PySem.Calls PyProof.Rows
set_option Elab.async false
set_option maxRecDepth 100000
namespace Mine

theorem FrV.rdAllTr {cx : Cx} {sc : Scope} {tab : List (Option Str)} {env : Env} {P : Avd} {O O' : Nat → Option Addr} {vm : Str → Option Value} {s s' : Shared} {ρ : List Slot} (F : FrV cx sc tab env P O vm s ρ) (x : Tr env O s O' s') {d : List D} {v : List Value} (r : RdAll cx s.heap (Av env P O) d v) : RdAll cx s'.heap (Av env P O') d v :=
  RdAll.of_get r.length fun i d' v' e1 e2 => by
    obtain ⟨v'', e, q⟩ := r.get e1
    rw [e] at e2; cases e2
    exact F.rdTr x q

/-! targets of several names -/
inductive TN (J : Jd) : List PySem.Expr → List Nat → Prop
  | nil : TN J [] []
  | cons {x : Str} {p : Pos} {i : Nat} {es : List PySem.Expr} {is : List Nat} (ht : J.tab[i]? = some (some x)) (hf : J.sc.names.lookup x ≠ some .free) (h : TN J es is) : TN J (.Name x p :: es) (i :: is)
theorem TN.length {J : Jd} {es : List PySem.Expr} {is : List Nat} (h : TN J es is) : es.length = is.length := by
  induction h with
  | nil => rfl
  | cons _ _ _ ih => simp [ih]
theorem setAll_length : ∀ {is : List Nat} {ds : List D} {ρ ρ' : Rho}, setAll is ds ρ = some ρ' → ds.length = is.length
  | [], [], _, _, _ => rfl
  | [], _ :: _, _, _, h => by simp [setAll] at h
  | _ :: _, [], _, _, h => by simp [setAll] at h
  | i :: is, d :: ds, ρ, ρ', h => by rw [setAll] at h; simp [setAll_length h]
section
variable {J : Jd}
theorem tn_store {es : List PySem.Expr} {is : List Nat} (h : TN J es is) : ∀ (A : Around) (env : Env) (P : Avd) (O : Nat → Option Addr) (vm : Str → Option Value) (s : Shared) (ρ : Rho) (ds : List D) (vs : List Value) (ρ' : Rho),
    Room A J.k → FrV J.cx J.sc J.tab env P O vm s ρ → RdAll J.cx s.heap (Av env P O) ds vs → setAll is ds ρ = some ρ' →
    W J.cx.prog J.cx.w A (assignInOrder ((assignEach es env).map (·.2)) vs) (fun _ s' => ∃ O' vm', FrV J.cx J.sc J.tab env P O' vm' s' ρ' ∧ Tr env O s O' s') s := by
  induction h with
  | nil =>
    intro A env P O vm s ρ ds vs ρ' hA F r hs
    cases ds with
    | nil => rw [setAll] at hs; cases hs; exact W.pure ⟨O, vm, F, Tr.refl _ _ _⟩
    | cons _ _ => simp [setAll] at hs
  | cons ht hf h ih =>
    intro A env P O vm s ρ ds vs ρ' hA F r hs
    cases ds with
    | nil => simp [setAll] at hs
    | cons d ds =>
      rw [setAll] at hs
      rw [RdAll] at r
      obtain ⟨v, l, rfl, r1, r2⟩ := r
      rw [assignEach_cons env rfl]
      show W _ _ A (do holding l (assign _ env v); assignInOrder _ l) _ s
      refine W.bind (W.holding (W.mono (sa_name ht hf A env P O vm s ρ d v _ hA F r1 rfl) fun _ s₁ ⟨O1, vm1, F1, T1⟩ => ?_))
      exact W.mono (ih A env P O1 vm1 s₁ _ ds l ρ' hA F1 (F.rdAllTr T1 r2) hs) fun _ s₂ ⟨O2, vm2, F2, T2⟩ => ⟨O2, vm2, F2, T1.trans T2⟩

theorem tn_nostar (env : Env) {es : List PySem.Expr} {is : List Nat} (h : TN J es is) : (assignEach es env).findIdx? (·.1) = none ∧ (assignEach es env).length = es.length := by
  induction h with
  | nil => exact ⟨rfl, rfl⟩
  | cons ht hf h ih => rw [assignEach_cons env rfl]; exact ⟨by simp [List.findIdx?_cons, ih.1], by simp [ih.2]⟩

theorem sa_tup {es : List PySem.Expr} {is : List Nat} {k : Nat} {pos : Pos} (h : TN J es is) : SA J (.Tuple es k pos) (tupA is) := fun A env P O vm s ρ d v ρ' hA F r hs => by
  unfold tupA at hs
  split at hs
  · rename_i ds
    rw [Rd] at r
    obtain ⟨a, vs, n, rfl, ho, _, hz, r⟩ := r
    have hst := tn_nostar env h
    have hl := r.length
    rw [Array.length_toList] at hl
    have hn : (assignEach es env).length = vs.size := by rw [hst.2, h.length, hl, setAll_length hs]
    show W _ _ A (do standAt pos; unpack (.ref a) (assignEach es env)) _ s
    refine W.bind (W.standAt ?_)
    unfold unpack
    rw [hn, hst.1]
    refine W.bind (W.holding (W.of_anyS (wpAny_unpackItems_tuple hA.1 ⟨_, ho, rfl, n, rfl⟩ fun h' hk hsz => ?_)))
    have X : Ext s { s with heap := h' } := ⟨rfl, rfl, hsz, fun b o e => hk b o (Nat.ne_of_lt (Heap.lt_size e)) e⟩
    exact W.mono (tn_store h A env P O vm _ ρ ds vs.toList ρ' hA (F.ext X) (r.keep X.keep) hs) fun _ s₂ ⟨O2, vm2, F2, T2⟩ => ⟨O2, vm2, F2, X.tr.trans T2⟩
  · cases hs
end

/-! methods of built-in types -/
noncomputable def GetOk (name : Str) (id : String) (p : D → Bool) : Prop :=
  ∀ (cx : Cx) (A : Around) (V : Avd) (s : Shared) (d : D) (v : Value) (pl : Sem Bool) (Q : Value × List Value → Shared → Prop), p d = true → Rd cx s.heap V d v → Q (.builtin id, [v]) s → wpAny (model cx.prog cx.w) A (getMethod v name pl) Q (fun _ _ => False) s
noncomputable def isStrD : D → Bool | .str _ => true | _ => false
noncomputable def isMatD : D → Bool | .mat .. => true | _ => false
noncomputable def methE (p : D → Bool) (F : List D → Option D) (f : Rho → Option D) (g : Rho → Option (List D)) : Rho → Option D := fun ρ => (f ρ).bind fun a => (g ρ).bind fun as => if p a then F (a :: as) else none
theorem get_str {name : Str} {id : String} (slot : PySem.Slot "str" name id) (ty : typeOf (.builtin id) = pure (.type "method_descriptor")) : GetOk name id isStrD := fun cx A V s d v pl Q hp r h => by
  unfold isStrD at hp
  split at hp
  · rw [Rd] at r; obtain ⟨t, rfl, _⟩ := r
    exact GM.of _ (typeIs_str _ _ _) slot ty (fun _ e => nomatch e) h
  · cases hp

noncomputable def notSuperCall : PySem.Expr → Bool
  | .Call (.Name _ _) [] [] _ => false
  | _ => true
theorem attributeBase_plain {o : PySem.Expr} {name : Str} {env : Env} {whole : Sem Value} (h : notSuperCall o = true) : attributeBase o name env whole = whole := by
  unfold attributeBase
  split
  · cases h
  · rfl
section
variable {J : Jd}
theorem method_split {o : PySem.Expr} {name : Str} {apos pos : Pos} {es : List PySem.Expr} {env : Env} (ho : notSuperCall o = true) (hst : es.any isStarred = false) (hlen : es.length < 29) (hp : apos.endLine = pos.line) :
    eval (.Call (.Attribute o name apos) es [] pos) env = (do
      let ov ← eval o env
      standAt apos.atName
      let r ← holding [ov] (getMethod ov name (do return (← importBound o env).getD true))
      callWith pos r.1 r.2 (backTo pos (starEach es env)) []) := by
  have hb := backTo_plain pos env hst
  have hall : (backTo pos (starEach es env)).all (!·.1) = true := by
    have := hb.1
    rw [List.any_eq_false] at this
    rw [List.all_eq_true]
    intro x hx
    have := this x hx
    simpa using this
  have hf : methodCallForm (es.length + 0) (backTo pos (starEach es env)) [] = true := by
    unfold methodCallForm
    rw [hall]
    simp; omega
  have e1 : eval (.Call (.Attribute o name apos) es [] pos) env = (do
      let ov ← attributeBase o name env (eval o env)
      standAt apos.atName
      methodCall o name apos pos env ov (es.length + 0) (backTo pos (starEach es env)) []) := rfl
  rw [e1, attributeBase_plain ho]
  unfold methodCall
  simp only [hf, calleeOf, if_true, methodCallPos, Bool.not_true, Bool.false_or, hp, beq_self_eq_true, pure_bind]

theorem se_method {o : PySem.Expr} {name : Str} {id : String} {apos pos : Pos} {es : List PySem.Expr} {f : Rho → Option D} {g : Rho → Option (List D)} {p : D → Bool} {F : List D → Option D} {k : Nat} (hg : GetOk name id p) (hc : Con J.cx k (.builtin id) F) (ho : SE J o f) (hes : SEs J es g)
    (hk : k ≤ J.k := by decide) (hs : notSuperCall o = true := by rfl) (hst : es.any isStarred = false := by rfl) (hlen : es.length < 29 := by decide) (hp : apos.endLine = pos.line := by rfl) :
    SE J (.Call (.Attribute o name apos) es [] pos) (methE p F f g) := fun A env P O vm s ρ d hA Fr h => by
  unfold methE at h
  rw [Option.bind_eq_some_iff] at h
  obtain ⟨a, ha, h⟩ := h
  rw [Option.bind_eq_some_iff] at h
  obtain ⟨as, has, h⟩ := h
  split at h
  · rename_i hpa
    rw [method_split hs hst hlen hp]
    refine W.bind (W.mono (ho A env P O vm s ρ a hA Fr ha) fun v s₁ ⟨X1, r1⟩ => W.bind (W.standAt (W.bind (W.holding (W.of_any (hg J.cx A (Av env P O) s₁ a v _ _ hpa r1 ?_))))))
    have hb := backTo_plain pos env hst
    refine callWith_ok hb.1 (by rw [hb.2]; omega) (W.mono (hes A env P O vm s₁ ρ as pos hA (Fr.ext X1) has) fun vs s₂ ⟨X2, r2⟩ => ⟨.inr (by intro a e; cases e), ?_⟩)
    have X := X1.trans X2
    exact W.mono (hc A (Av env P O) s₂ (a :: as) (v :: vs) d (hA.le hk) (fun q hq => (Fr.ext X).avLt hq) (Fr.ext X).baseOf (RdAll.cons (r1.keep X2.keep) r2) h) fun v s₃ ⟨X3, r3⟩ => ⟨X.trans X3, r3⟩
  · cases h
end

/-! a def's own call -/
noncomputable def runF (n m : Nat) (g : Rho → Option (Out × Rho)) : List D → Option D := fun ds =>
  if ds.length = n then (g (ds.map .val ++ List.replicate m .unb)).map fun x => match x.1 with | .next => .none | .ret d => d else none

theorem bindL_get (kindOf : Str → Option NameKind) : ∀ (binds : List (Str × Value)) (m : Str → Option Value) (x : Str), kindOf x = some .local → bindL kindOf binds m x = (binds.reverse.lookup x).or (m x)
  | [], m, x, _ => by simp [bindL]
  | (n, v) :: r, m, x, hx => by
    rw [bindL, bindL_get kindOf r _ x hx, List.reverse_cons, List.lookup_append, Option.or_assoc]
    congr 1
    by_cases hn : x = n
    · subst hn; simp [hx, List.lookup_cons]
    · have hb : (x == n) = false := by simpa using hn
      split <;> simp [List.lookup_cons, hb, hn]
theorem bindC_get (kindOf : Str → Option NameKind) : ∀ (binds : List (Str × Value)) (m : Str → Option Value) (x : Str), kindOf x ≠ some .local → bindC kindOf binds m x = (binds.reverse.lookup x).or (m x)
  | [], m, x, _ => by simp [bindC]
  | (n, v) :: r, m, x, hx => by
    rw [bindC, bindC_get kindOf r _ x hx, List.reverse_cons, List.lookup_append, Option.or_assoc]
    congr 1
    by_cases hn : x = n
    · subst hn; simp [hx, List.lookup_cons]
    · have hb : (x == n) = false := by simpa using hn
      split <;> simp [List.lookup_cons, hb, hn]

theorem lookup_zip_rev {xs : List Str} {vs : List Value} (hn : xs.Nodup) (hl : vs.length = xs.length) {i : Nat} {x : Str} {v : Value} (hx : xs[i]? = some x) (hv : vs[i]? = some v) : ((xs.zip vs).reverse.lookup x) = some v := by
  induction xs generalizing vs i with
  | nil => simp at hx
  | cons y ys ih =>
    cases vs with
    | nil => simp at hl
    | cons u us =>
      rw [List.nodup_cons] at hn
      rw [List.zip_cons_cons, List.reverse_cons, List.lookup_append]
      cases i with
      | zero =>
        simp at hx hv
        subst hx hv
        have : (ys.zip us).reverse.lookup y = none := by
          rw [List.lookup_eq_none_iff]
          intro p hp
          rw [List.mem_reverse] at hp
          have := (List.of_mem_zip hp).1
          simpa using fun e : y = p.1 => hn.1 (e ▸ this)
        rw [this]; simp [List.lookup_cons]
      | succ i =>
        simp at hx hv
        rw [ih hn.2 (by simpa using hl) hx hv]; rfl

theorem C.call_function {prog : Program} {w : World} {A : Around} {s : Shared} {a : Addr} {args : Args} {o : Obj} {fd : FuncData} {body : List Stmt} {R : Flow → Shared → Prop} (hroom : A.depth < recursionLimit)
    (ho : s.heap.get? a = some o) (hd' : o.data = .func fd) (hco : fd.scope.isCoroutine = false) (hgen : fd.scope.isGenerator = false) (hbody : fd.body = .stmts body) (hcd : s.heap.CodeRec fd.code fd.qualname)
    (h : wpAny (model prog w) A.in1 (bindArgs fd args) (fun binds s₁ => wpAny (model prog w) A.in1 (newFunctionEnv fd.scope fd.globals fd.closure binds (fd.qualname ++ ".<locals>.") (some a) fd.code none fd.builtins)
        (fun env s₂ => s₂.heap.NoLimit ∧ C prog w A (.func body env) R s₂) (fun _ _ => False) s₁) (fun _ _ => False) s) : C prog w A (.call (.ref a) args) R s := by
  refine C.of_tree rfl rfl (W.of_any ?_)
  show wpAny _ A.in1 (callAny (.ref a) args) _ _ s
  simp only [callAny]
  refine wpAny_bind (wpAny_load ho ?_)
  obtain ⟨c, oc, vs, tq, hc, hoc, hdc, hq⟩ := hcd
  simp only [hd', callFunction, hco, hgen, hbody, hc]
  rw [hc] at h
  refine wpAny_bind (m := field (.ref c) 1) (wpAny_field hoc hdc hq (wpAny_bind (wpAny_pure ?_)))
  exact wpAny_bind (wpAny_mono h (fun binds s₁ h₁ => wpAny_bind (wpAny_mono h₁ (fun env s₂ h₂ => wpAny_bind (wpAny_enterFrame h₂.1 hroom
    (wpAny_pure (And.intro rfl h₂.2)))) fun _ _ h' => h')) fun _ _ h' => h')

theorem cellsFrom_mem : ∀ (names : List (Str × NameKind)) (n : Nat) (acc : List (Str × Addr)) (x : Str) (c : Addr), (x, c) ∈ cellsFrom n names acc → (x, c) ∈ acc ∨ (x, NameKind.cell) ∈ names
  | [], _, _, _, _, h => .inl h
  | (y, kd) :: r, n, acc, x, c, h => by
    unfold cellsFrom at h
    split at h
    · rename_i hk
      have hk' : kd = .cell := by simpa using hk
      rcases cellsFrom_mem r _ _ x c h with h | h
      · rcases List.mem_cons.mp h with e | h
        · cases e; subst hk'; exact .inr (List.mem_cons_self)
        · exact .inl h
      · exact .inr (List.mem_cons_of_mem _ h)
    · rcases cellsFrom_mem r _ _ x c h with h | h
      · exact .inl h
      · exact .inr (List.mem_cons_of_mem _ h)
theorem cellsFrom_acc : ∀ (names : List (Str × NameKind)) (n : Nat) (acc : List (Str × Addr)) (x : Str), (acc.lookup x).isSome = true → ((cellsFrom n names acc).lookup x).isSome = true
  | [], _, _, _, h => h
  | (y, kd) :: r, n, acc, x, h => by
    unfold cellsFrom
    split
    · refine cellsFrom_acc r _ _ x ?_
      rw [List.lookup_cons]
      split
      · rfl
      · exact h
    · exact cellsFrom_acc r _ _ x h
theorem cellsFrom_has : ∀ (names : List (Str × NameKind)) (n : Nat) (acc : List (Str × Addr)) (x : Str), (x, NameKind.cell) ∈ names → ((cellsFrom n names acc).lookup x).isSome = true
  | (y, kd) :: r, n, acc, x, h => by
    unfold cellsFrom
    rcases List.mem_cons.mp h with e | h
    · cases e
      rw [if_pos (by rfl)]
      exact cellsFrom_acc r _ _ y (by simp)
    · split
      · exact cellsFrom_has r _ _ x h
      · exact cellsFrom_has r _ _ x h
theorem lookup_of_mem {names : List (Str × NameKind)} (hn : (names.map (·.1)).Nodup) {x : Str} {kd : NameKind} (h : (x, kd) ∈ names) : names.lookup x = some kd := by
  induction names with
  | nil => cases h
  | cons p r ih =>
    obtain ⟨y, kd'⟩ := p
    rw [List.map_cons, List.nodup_cons] at hn
    rw [List.lookup_cons]
    rcases List.mem_cons.mp h with e | h
    · cases e; simp
    · have : x ≠ y := fun e => hn.1 (e ▸ List.mem_map.mpr ⟨_, h, rfl⟩)
      have hb : (x == y) = false := by simpa using this
      rw [hb]; exact ih hn.2 h

theorem con_def {cx : Cx} {k : Nat} {a : Addr} {o : Obj} {name : Str} {params : Arguments} {body : List Stmt} {scope : Scope} {pm cd doc : Value} {xs rest : List Str} {g : Rho → Option (Out × Rho)}
    (ho : cx.h₁.get? a = some o) (hd : o.data = .func (docDef name params body scope pm cd doc)) (hcd : cx.h₁.CodeRec cd name)
    (hbody : SS ⟨cx, scope, (xs ++ rest).map some, k⟩ body g)
    (hbind : ∀ vs : List Value, vs.length = xs.length → bindArgs (docDef name params body scope pm cd doc) ⟨vs, []⟩ = pure (xs.zip vs))
    (hnd : decide (xs ++ rest).Nodup = true := by decide) (hnames : decide (scope.names.map (·.1)).Nodup = true := by decide)
    (hknown : ((xs ++ rest).all fun x => scope.names.lookup x == some .local || scope.names.lookup x == some .cell) = true := by decide)
    (hco : scope.isCoroutine = false := by rfl) (hgen : scope.isGenerator = false := by rfl) (hk : scope.kind = .function := by rfl) : Con cx (k + 1) (.ref a) (runF xs.length rest.length g) := fun A V s ds vs r hA hV hbase' ra h => by
  have hbase := hbase'.2
  unfold runF at h
  split at h
  · rename_i hlen
    have hnd := of_decide_eq_true hnd
    have hnames := of_decide_eq_true hnames
    have hkn : ∀ x ∈ xs ++ rest, scope.names.lookup x = some .local ∨ scope.names.lookup x = some .cell := fun x hx => by
      have := List.all_eq_true.mp hknown x hx
      simpa using this
    have hlv : vs.length = xs.length := by rw [ra.length, hlen]
    rw [Option.map_eq_some_iff] at h
    obtain ⟨⟨out, ρ'⟩, hg, h⟩ := h
    refine W.call (C.call_function (by have := hA.2.1; omega) (hbase a o ho) hd hco hgen rfl (hcd.keeps hbase) ?_)
    rw [hbind vs hlv]
    have hmem : ∀ x, scope.names.lookup x = some .cell → (x, NameKind.cell) ∈ scope.names := fun x hx => mem_of_lookup hx
    refine wpAny_pure (wpAny_newFunctionEnv_cells hk (fun x hx => ?_) fun env he s' x => ?_)
    · have hx' : x.1 ∈ xs := (List.of_mem_zip hx).1
      rcases hkn x.1 (List.mem_append_left _ hx') with h1 | h1
      · exact .inl h1
      · exact .inr ⟨h1, cellsFrom_has _ _ _ _ (hmem _ h1)⟩
    refine ⟨(cx.lim.keeps hbase).keeps x.toInCall.keep, C.func ?_⟩
    obtain ⟨hh, tk, hs'⟩ := x.toInCall.same
    have hkeep := x.toInCall.keep
    have hEs : env.scope = scope := by rw [he]; rfl
    have hEl : env.locals = s.heap.objs.size := by rw [he]; rfl
    have hEc : env.cells = cellsFrom (s.heap.objs.size + 1) scope.names [] := by rw [he]; rfl
    have hEg : env.globals = mainGlobals := by rw [he]; rfl
    have hEb : env.builtins = builtinsNs := by rw [he]; rfl
    have hsz : s.heap.objs.size ≤ s'.heap.objs.size := by
      have h0 := x.toInCall.ns.lt
      rw [hEl] at h0; exact Nat.le_of_lt h0
    have X : Ext s s' := ⟨by rw [hs'], by rw [hs'], hsz, hkeep⟩
    have hkind : ∀ y, env.kindOf y = scope.names.lookup y := fun y => by show env.scope.names.lookup y = _; rw [hEs]
    have hge1 : cx.h₁.objs.size ≤ s.heap.objs.size := hbase'.1
    let vm : Str → Option Value := fun y => if scope.names.lookup y = some .local then bindL env.kindOf (xs.zip vs) (fun _ => none) y else bindC env.kindOf (xs.zip vs) (fun _ => none) y
    have hvm : ∀ y, vm y = (xs.zip vs).reverse.lookup y := fun y => by
      show (if scope.names.lookup y = some .local then _ else _) = _
      split
      · rename_i hy; rw [bindL_get _ _ _ _ (by rw [hkind]; exact hy)]; simp
      · rename_i hy; rw [bindC_get _ _ _ _ (by rw [hkind]; exact hy)]; simp
    have F : FrV cx scope ((xs ++ rest).map some) env V (fun _ => none) vm s' (ds.map .val ++ List.replicate rest.length .unb) := {
      scope := hEs, kind := hk, glob := hEg, blt := hEb
      base := fun b o' e => hkeep b o' (hbase b o' e)
      ns := ⟨_, x.toInCall.ns, fun y hy => by show _ = (if scope.names.lookup y = some .local then _ else _); rw [if_pos hy]⟩
      cell := fun y c hc => by
        have := x.cell y c hc
        have hy : scope.names.lookup y ≠ some .local := by
          have hm := mem_of_lookup hc
          rw [hEc] at hm
          rcases cellsFrom_mem _ _ _ _ _ hm with h' | h'
          · cases h'
          · rw [lookup_of_mem hnames h']; intro e; cases e
        show s'.heap.IsCell c (if scope.names.lookup y = some .local then _ else _)
        rw [if_neg hy]; exact this
      apart := x.apart
      fresh := fun b hb => by
        rcases hb with ⟨j, hj⟩ | hb | ⟨y, hy⟩
        · cases hj
        · subst hb; exact ⟨by rw [hEl]; exact hge1, x.toInCall.ns.lt⟩
        · have h0 := x.above y b (mem_of_lookup hy)
          exact ⟨by rw [hEl] at h0; exact Nat.le_trans hge1 (Nat.le_of_lt h0), (x.cell y b hy).lt⟩
      nsCell := fun y hy => Nat.lt_irrefl _ (x.above y _ (mem_of_lookup hy))
      av := fun b hb => Nat.lt_of_lt_of_le (hV b hb) hsz
      len := by simp [hlen]
      tabInj := fun i j y h1 h2 => by
        rw [List.getElem?_map, Option.map_eq_some_iff] at h1 h2
        obtain ⟨y1, h1, e1⟩ := h1
        obtain ⟨y2, h2, e2⟩ := h2
        cases e1; cases e2
        have hi : i < (xs ++ rest).length := by
          rcases Nat.lt_or_ge i (xs ++ rest).length with h' | h'
          · exact h'
          · rw [List.getElem?_eq_none h'] at h1; cases h1
        exact (List.getElem?_inj hi hnd).mp (h1.trans h2.symm)
      cellNL := fun y c hc => by
        have hm := mem_of_lookup hc
        rw [hEc] at hm
        rcases cellsFrom_mem _ _ _ _ _ hm with h' | h'
        · cases h'
        · rw [lookup_of_mem hnames h']; intro e; cases e
      known := fun i y h1 => by
        rw [List.getElem?_map, Option.map_eq_some_iff] at h1
        obtain ⟨y1, h1, e1⟩ := h1
        cases e1
        rcases hkn y (List.mem_of_getElem? h1) with h' | h'
        · exact .inl h'
        · exact .inr ⟨.inl h', by rw [hEc]; exact cellsFrom_has _ _ _ _ (hmem _ h')⟩
      slots := fun i y sl h1 h2 => by
        rw [List.getElem?_map, Option.map_eq_some_iff] at h1
        obtain ⟨y1, h1, e1⟩ := h1
        cases e1
        rcases Nat.lt_or_ge i xs.length with hi | hi
        · rw [List.getElem?_append_left hi] at h1
          rw [List.getElem?_append_left (by simpa [hlen] using hi), List.getElem?_map, Option.map_eq_some_iff] at h2
          obtain ⟨d', h2, e2⟩ := h2
          subst e2
          obtain ⟨v', hv', q⟩ := ra.get h2
          refine ⟨v', by rw [hvm]; exact lookup_zip_rev (List.nodup_append.mp hnd).1 hlv h1 hv', ?_⟩
          refine q.mono (fun b o' _ e => hkeep b o' e) fun b hb => ?_
          rcases hb with hb | ⟨j, hj⟩ | hb | ⟨z, hz⟩
          · exact .inl hb
          · cases hj
          · exact .inr (get_none (by rw [hb, hEl]; exact Nat.le_refl _))
          · exact .inr (get_none (by have h0 := x.above z b (mem_of_lookup hz); rw [hEl] at h0; exact Nat.le_of_lt h0))
        · rw [List.getElem?_append_right (by simpa [hlen] using hi)] at h2
          have := List.mem_of_getElem? h2
          rw [List.mem_replicate] at this
          rw [this.2]; trivial
      ownInj := fun i j b h1 _ => by cases h1
      ownSlot := fun i b h1 => by cases h1
      ownApart := fun i b h1 => by cases h1
      ownNP := fun i b h1 => by cases h1 }
    have hA' : Room (A.deeper env) k := ⟨hA.1, by show A.depth + 1 + k < _; have := hA.2.1; omega, by show A.units + 3 + 8 * k + 200 < _; have := hA.2.2; omega⟩
    refine W.mono (hbody (A.deeper env) env V (fun _ => none) vm s' _ out ρ' hA' F hg) fun fl s₂ ⟨ok, O2, vm2, F2, T2⟩ => ?_
    have X2 : Ext s s₂ := ⟨T2.gens.trans X.gens, T2.os.trans X.os, Nat.le_trans X.size T2.size, fun b o' e => T2.keep b o' (fun hm => by
      have hb := Heap.lt_size e
      rcases hm with ⟨j, hj⟩ | hm | ⟨z, hz⟩
      · cases hj
      · rw [hm, hEl] at hb; exact Nat.lt_irrefl _ hb
      · have h0 := x.above z b (mem_of_lookup hz); rw [hEl] at h0; exact Nat.lt_irrefl _ (Nat.lt_trans hb h0)) (hkeep b o' e)⟩
    cases out with
    | next =>
      have : fl = .next := ok
      subst this
      cases h
      exact ⟨_, rfl, X2, by rw [Rd]⟩
    | ret d =>
      obtain ⟨v, rfl, q⟩ := ok
      cases h
      exact ⟨v, rfl, X2, q⟩
  · cases h
end Mine

end
section
open PySem PySem.W PySem.Calls PyProof.Rows
set_option Elab.async false
set_option maxRecDepth 100000
namespace Mine

/-- of what stood only the objects of wr are changed -/
structure Chg (wr : List Addr) (s s' : Shared) : Prop where
  gens : s'.gens = s.gens
  os : s'.os = s.os
  size : s.heap.objs.size ≤ s'.heap.objs.size
  keep : ∀ a o, a ∉ wr → s.heap.get? a = some o → s'.heap.get? a = some o
theorem Chg.trans {wr : List Addr} {a b c : Shared} (x : Chg wr a b) (y : Chg wr b c) : Chg wr a c := ⟨y.gens.trans x.gens, y.os.trans x.os, Nat.le_trans x.size y.size, fun p o hn e => y.keep p o hn (x.keep p o hn e)⟩
theorem Ext.chg {wr : List Addr} {s s' : Shared} (x : Ext s s') : Chg wr s s' := ⟨x.gens, x.os, x.size, fun a o _ e => x.keep a o e⟩

theorem FrV.chg {cx : Cx} {sc : Scope} {tab : List (Option Str)} {env : Env} {P : Avd} {O : Nat → Option Addr} {vm : Str → Option Value} {s s' : Shared} {ρ : List Slot} {wr : List Addr} (F : FrV cx sc tab env P O vm s ρ) (x : Chg wr s s')
    (hP : ∀ b ∈ wr, P b) (hb : ∀ b ∈ wr, cx.h₁.objs.size ≤ b) (hm : ∀ b ∈ wr, ¬ muts env O b) : FrV cx sc tab env P O vm s' ρ := by
  have hk : ∀ a o, ¬ Av env P O a → s.heap.get? a = some o → s'.heap.get? a = some o := fun a o hn e => x.keep a o (fun hw => hn (.inl (hP a hw))) e
  exact {
    scope := F.scope, kind := F.kind, glob := F.glob, blt := F.blt
    base := fun a o e => x.keep a o (fun hw => Nat.lt_irrefl _ (Nat.lt_of_lt_of_le (Heap.lt_size e) (hb a hw))) (F.base a o e)
    ns := let ⟨m, h1, h2⟩ := F.ns; ⟨m, h1.at' fun o e => x.keep _ o (fun hw => hm _ hw (.inr (.inl rfl))) e, h2⟩
    cell := fun y c e => let ⟨o, h1, h2⟩ := F.cell y c e; ⟨o, x.keep c o (fun hw => hm _ hw (.inr (.inr ⟨y, e⟩))) h1, h2⟩
    apart := F.apart
    fresh := fun a m => ⟨(F.fresh a m).1, Nat.lt_of_lt_of_le (F.fresh a m).2 x.size⟩
    nsCell := F.nsCell
    av := fun a h => Nat.lt_of_lt_of_le (F.av a h) x.size
    len := F.len, tabInj := F.tabInj, cellNL := F.cellNL, known := F.known
    slots := fun i y sl h1 h2 => slot_tr (F.slots i y sl h1 h2) hk (fun _ h => .inl h) rfl fun a o e e' => x.keep a o (fun hw => hm a hw (.inl ⟨i, e⟩)) e'
    ownInj := F.ownInj, ownSlot := F.ownSlot, ownApart := F.ownApart, ownNP := F.ownNP }

/-- an iterator that will give these data, one after the other; wr: what its steps change; N: the heap's size where it was made; U: what others may change -/
structure Wk (cx : Cx) (A : Around) (tgt : PySem.Expr) (I : Addr) (wr : List Addr) (N : Nat) (ds : List D) (U : Avd) (St : Nat → Heap → Prop) : Prop where
  frame : ∀ i h h', St i h → (∀ a o, ¬ U a → a < N → h.get? a = some o → h'.get? a = some o) → St i h'
  item : ∀ (i : Nat) (d : D) (s : Shared) (V : Avd) (Q : Value → Shared → Prop), ds[i]? = some d → St i s.heap → Base cx s.heap → (∀ a, V a → (U a ∨ a ∈ wr ∨ N ≤ a) ∧ a < s.heap.objs.size) →
    (∀ v s', Chg wr s s' → Rd cx s'.heap V d v → St (i + 1) s'.heap → Q v s') →
    W cx.prog cx.w A (pyNext (.ref I)) (fun r s₁ => ∃ v, r = some v ∧ W cx.prog cx.w A (letOwnedTupleGo tgt (.ref I) v) (fun _ s₂ => Q v s₂) s₁) s
  done : ∀ (s : Shared) (Q : Shared → Prop), St ds.length s.heap → Base cx s.heap → (∀ s', Chg wr s s' → Q s') → W cx.prog cx.w A (pyNext (.ref I)) (fun r s' => r = none ∧ Q s') s
  self : ∀ (i : Nat) (s : Shared), St i s.heap → W cx.prog cx.w A (pyIter (.ref I)) (fun v s' => v = .ref I ∧ s' = s) s

/-- the expression, iterated -/
def SI (J : Jd) (tgt e : PySem.Expr) (f : Rho → Option (List D)) : Prop :=
  ∀ (A : Around) (env : Env) (P : Avd) (O : Nat → Option Addr) (vm : Str → Option Value) (s : Shared) (ρ : Rho) (ds : List D), Room A J.k → FrV J.cx J.sc J.tab env P O vm s ρ → f ρ = some ds →
    W J.cx.prog J.cx.w A (eval e env) (fun x s₁ => foldedSetIterable e env x = pure x ∧ W J.cx.prog J.cx.w A (pyIter x) (fun it s₂ => Ext s s₂ ∧ ds.length ≤ sizeLine ∧ ∃ I wr St, it = .ref I ∧
      Wk J.cx A tgt I wr s₂.heap.objs.size ds (Av env P O) St ∧ St 0 s₂.heap ∧ (∀ b ∈ wr, s.heap.objs.size ≤ b ∧ b < s₂.heap.objs.size)) s₁) s

noncomputable def loopS (g : D → Rho → Option Rho) (b : Rho → Option (Out × Rho)) : List D → Rho → Option (Out × Rho)
  | [], ρ => some (.next, ρ)
  | d :: ds, ρ => (g d ρ).bind fun ρ1 => (b ρ1).bind fun x => match x with | (.next, ρ2) => loopS g b ds ρ2 | (.ret r, ρ2) => some (.ret r, ρ2)
noncomputable def forS (f : Rho → Option (List D)) (g : D → Rho → Option Rho) (b : Rho → Option (Out × Rho)) : Rho → Option (Out × Rho) := fun ρ => (f ρ).bind fun ds => loopS g b ds ρ

section
variable {J : Jd}
theorem s1_for {tgt iter : PySem.Expr} {body : List Stmt} {pos : Pos} {f : Rho → Option (List D)} {g : D → Rho → Option Rho} {b : Rho → Option (Out × Rho)} (hi : SI J tgt iter f) (ht : SA J tgt g) (hb : SS J body b) : S1 J (.For tgt iter body [] pos) (forS f g b) := fun A env P O vm s ρ out ρ' hA F h => by
  unfold forS at h
  rw [Option.bind_eq_some_iff] at h
  obtain ⟨ds, hds, h⟩ := h
  show W _ _ A (do
    standAt pos
    let x ← foldedSetIterable iter env (← eval iter env)
    standAt iter.pos
    runOwn (.forLoop tgt (← holding [x] (pyIter x)) body [] env) env) _ s
  refine W.bind (W.standAt (W.bind (W.mono (hi A env P O vm s ρ ds hA F hds) fun x s₁ ⟨hfold, h₁⟩ => ?_)))
  rw [hfold]
  refine W.bind (W.pure (W.bind (W.standAt (W.bind (W.holding (W.mono h₁ fun it s₂ ⟨X, _, I, wr, St, e, wk, st0, hwr'⟩ => ?_))))))
  subst e
  refine W.runOwn ?_
  have hwr : ∀ b ∈ wr, s.heap.objs.size ≤ b := fun b hb => (hwr' b hb).1
  have hwr2 : ∀ b ∈ wr, b < s₂.heap.objs.size := fun b hb => (hwr' b hb).2
  have hbase : J.cx.h₁.objs.size ≤ s.heap.objs.size := F.baseOf.1
  have F2 : FrV J.cx J.sc J.tab env (fun b => P b ∨ b ∈ wr) O vm s₂ ρ := F.moreP X fun a ha => ha.imp id fun hw => ⟨hwr a hw, hwr2 a hw⟩
  -- what stays of the start through all turns
  refine C.forLoop (R := Post J env P O s out ρ') (fun k s₃ => ∃ O₁ vm₁ ρ₁ i, FrV J.cx J.sc J.tab env (fun b => P b ∨ b ∈ wr) O₁ vm₁ s₃ ρ₁ ∧ Tr env O s O₁ s₃ ∧ s₂.heap.objs.size ≤ s₃.heap.objs.size ∧
      (∀ j a, O₁ j = some a → (∃ l, O l = some a) ∨ s₂.heap.objs.size ≤ a) ∧ St i s₃.heap ∧ i ≤ ds.length ∧ k = ds.length - i ∧ loopS g b (ds.drop i) ρ₁ = some (out, ρ')) ?_ ds.length
    ⟨O, vm, ρ, 0, F2, X.tr, Nat.le_refl _, fun j a e => .inl ⟨j, e⟩, st0, Nat.zero_le _, rfl, h⟩
  rintro k s₃ ⟨O₁, vm₁, ρ₁, i, F₁, T₁, hsz, hown, st, hle, rfl, h₃⟩
  have hnm : ∀ b ∈ wr, ¬ muts env O₁ b := fun b hb hm => by
    rcases hm with ⟨j, hj⟩ | hm
    · rcases hown j b hj with ⟨l, hl⟩ | hge
      · exact Nat.lt_irrefl _ (Nat.lt_of_lt_of_le (F.fresh b (.inl ⟨l, hl⟩)).2 (hwr b hb))
      · exact Nat.lt_irrefl _ (Nat.lt_of_lt_of_le (hwr2 b hb) hge)
    · exact Nat.lt_irrefl _ (Nat.lt_of_lt_of_le (F.fresh b (.inr hm)).2 (hwr b hb))
  have hb1 : ∀ b ∈ wr, J.cx.h₁.objs.size ≤ b := fun b hb => Nat.le_trans hbase (hwr b hb)
  have hnfp : ∀ b, ¬ Av env P O b → b < s₂.heap.objs.size → ¬ muts env O₁ b := fun b hn hlt hm => by
    rcases hm with ⟨j, hj⟩ | hm
    · rcases hown j b hj with ⟨l, hl⟩ | hge
      · exact hn (.inr (.inl ⟨l, hl⟩))
      · exact Nat.lt_irrefl _ (Nat.lt_of_lt_of_le hlt hge)
    · exact hn (.inr (.inr hm))
  have chgTr : ∀ s₄, Chg wr s₃ s₄ → Tr env O s O₁ s₄ := fun s₄ x => ⟨x.gens.trans T₁.gens, x.os.trans T₁.os, Nat.le_trans T₁.size x.size, fun a o hn e => x.keep a o (fun hw => Nat.lt_irrefl _ (Nat.lt_of_lt_of_le (Heap.lt_size e) (hwr a hw))) (T₁.keep a o hn e), T₁.own⟩
  rcases Nat.lt_or_ge i ds.length with hlt | hge
  · have hd : ds[i]? = some ds[i] := List.getElem?_eq_getElem hlt
    have hdrop : ds.drop i = ds[i] :: ds.drop (i + 1) := List.drop_eq_getElem_cons hlt
    rw [hdrop, loopS, Option.bind_eq_some_iff] at h₃
    obtain ⟨ρ4, hg4, h₃⟩ := h₃
    rw [Option.bind_eq_some_iff] at h₃
    obtain ⟨⟨o5, ρ5⟩, hb5, h₃⟩ := h₃
    refine W.mono (wk.item i ds[i] s₃ (Av env (fun b => P b ∨ b ∈ wr) O₁) (fun v s₄ => W J.cx.prog J.cx.w A (assign tgt env v) _ s₄) hd st F₁.baseOf (fun a ha => ⟨?_, F₁.avLt ha⟩) fun v s₄ x r st' => ?_) fun r s₄ hr => by obtain ⟨v, e, h₄⟩ := hr; subst e; exact h₄
    · rcases ha with (ha | ha) | ⟨j, hj⟩ | ha
      · exact .inl (.inl ha)
      · exact .inr (.inl ha)
      · rcases hown j a hj with ⟨l, hl⟩ | hge
        · exact .inl (.inr (.inl ⟨l, hl⟩))
        · exact .inr (.inr hge)
      · exact .inl (.inr (.inr ha))
    have F4 := F₁.chg x (fun b hb => .inr hb) hb1 hnm
    refine W.mono (ht A env _ O₁ vm₁ s₄ ρ₁ ds[i] v ρ4 hA F4 r hg4) fun _ s₅ ⟨O5, vm5, F5, T5⟩ => ?_
    refine W.mono (hb A env _ O5 vm5 s₅ ρ4 o5 ρ5 hA F5 hb5) fun fl s₆ ⟨ok, O6, vm6, F6, T6⟩ => ?_
    have T56 := T5.trans T6
    have T := (chgTr s₄ x).trans T56
    cases o5 with
    | next =>
      have : fl = .next := ok
      subst this
      refine ⟨ds.length - (i + 1), by omega, O6, vm6, ρ5, i + 1, F6, T, Nat.le_trans hsz (Nat.le_trans x.size T56.size), fun j a e => ?_, wk.frame _ _ _ st' fun b o hn hlt e => T56.keep b o (hnfp b hn hlt) e, hlt, rfl, h₃⟩
      rcases T56.own j a e with ⟨l, hl⟩ | hge
      · exact hown l a hl
      · exact .inr (Nat.le_trans hsz (Nat.le_trans x.size hge))
    | ret d =>
      cases h₃
      obtain ⟨v', rfl, r'⟩ := ok
      exact ⟨⟨v', rfl, r'.weak fun a ha => .inl ha⟩, O6, vm6, F6.lessP fun a ha => .inl ha, T⟩
  · have hi : i = ds.length := by omega
    subst hi
    rw [List.drop_length, loopS] at h₃
    cases h₃
    refine W.mono (wk.done s₃ (fun s₄ => Post J env P O s .next _ .next s₄) st F₁.baseOf fun s₄ x => ⟨rfl, O₁, vm₁, (F₁.chg x (fun b hb => .inr hb) hb1 hnm).lessP fun a ha => .inl ha, chgTr s₄ x⟩) fun r s₄ ⟨e, h₄⟩ => by subst e; exact h₄
end
end Mine

end
section
open PySem PySem.W PySem.Calls PyProof.Rows
set_option Elab.async false
set_option maxRecDepth 100000
namespace Mine

noncomputable abbrev noO : Nat → Option Addr := fun _ => none

/-! a comprehension's tests -/
noncomputable def tests (ifs : List PySem.Expr) (env : Env) : Sem Bool :=
  forIn ifs true fun c r => if r = true then do let ok ← isTrue c env (eval c env); pure (ForInStep.yield ok) else pure (ForInStep.yield r)
noncomputable def TsOk (J : Jd) (ifs : List PySem.Expr) (t : Rho → Option Bool) : Prop :=
  ∀ (A : Around) (env : Env) (P : Avd) (O : Nat → Option Addr) (vm : Str → Option Value) (s : Shared) (ρ : Rho) (b : Bool), Room A J.k → FrV J.cx J.sc J.tab env P O vm s ρ → t ρ = some b →
    W J.cx.prog J.cx.w A (tests ifs env) (fun v s' => Ext s s' ∧ v = b) s
noncomputable def tt : Rho → Option Bool := fun _ => some true
theorem ts_nil {J : Jd} : TsOk J [] tt := fun A env P O vm s ρ b hA F h => by cases h; exact W.pure ⟨Ext.refl _, rfl⟩
noncomputable def mutsL (env : Env) (O : Nat → Option Addr) : Avd := fun a => (∃ j, O j = some a) ∨ a = env.locals
theorem mutsL.m {env : Env} {O : Nat → Option Addr} {a : Addr} (h : mutsL env O a) : muts env O a := h.imp id .inl
/-! what a turn lays into the new list -/
structure CTr (env : Env) (O : Nat → Option Addr) (L : List Addr) (s : Shared) (O' : Nat → Option Addr) (s' : Shared) : Prop where
  gens : s'.gens = s.gens
  os : s'.os = s.os
  size : s.heap.objs.size ≤ s'.heap.objs.size
  keep : ∀ b o, b ∉ L → ¬ mutsL env O b → s.heap.get? b = some o → s'.heap.get? b = some o
  own : ∀ j a, O' j = some a → (∃ i, O i = some a) ∨ s.heap.objs.size ≤ a
theorem CTr.trans {env : Env} {L : List Addr} {O O' O'' : Nat → Option Addr} {s s' s'' : Shared} (x : CTr env O L s O' s') (y : CTr env O' L s' O'' s'') : CTr env O L s O'' s'' where
  gens := y.gens.trans x.gens
  os := y.os.trans x.os
  size := Nat.le_trans x.size y.size
  keep := fun a o hL hn e => y.keep a o hL (fun m => by
    rcases m with ⟨j, hj⟩ | m
    · rcases x.own j a hj with ⟨i, hi⟩ | hge
      · exact hn (.inl ⟨i, hi⟩)
      · exact absurd (Heap.lt_size e) (Nat.not_lt.mpr hge)
    · exact hn (.inr m)) (x.keep a o hL hn e)
  own := fun j a hj => by
    rcases y.own j a hj with ⟨i, hi⟩ | hge
    · exact x.own i a hi
    · exact .inr (Nat.le_trans x.size hge)
theorem CTr.sub {env : Env} {L L' : List Addr} {O O' : Nat → Option Addr} {s s' : Shared} (x : CTr env O L s O' s') (h : ∀ a ∈ L, a < s.heap.objs.size → a ∈ L') : CTr env O L' s O' s' :=
  ⟨x.gens, x.os, x.size, fun b o hb hn e => x.keep b o (fun hm => hb (h b hm (Heap.lt_size e))) hn e, x.own⟩
theorem CTr.tr {env : Env} {O O' : Nat → Option Addr} {s s' : Shared} (x : CTr env O [] s O' s') : Tr env O s O' s' := ⟨x.gens, x.os, x.size, fun b o hn e => x.keep b o (fun h => nomatch h) (fun h => hn h.m) e, x.own⟩
theorem Ext.c {env : Env} {L : List Addr} {O : Nat → Option Addr} {s s' : Shared} (x : Ext s s') : CTr env O L s O s' := ⟨x.gens, x.os, x.size, fun b o _ _ e => x.keep b o e, fun j _ e => .inl ⟨j, e⟩⟩
/-- a target of local names -/
noncomputable def SAL (J : Jd) (t : PySem.Expr) (g : D → Rho → Option Rho) : Prop :=
  ∀ (A : Around) (env : Env) (P : Avd) (O : Nat → Option Addr) (vm : Str → Option Value) (s : Shared) (ρ : Rho) (d : D) (v : Value) (ρ' : Rho), Room A J.k → FrV J.cx J.sc J.tab env P O vm s ρ → Rd J.cx s.heap (Av env P O) d v → g d ρ = some ρ' →
    W J.cx.prog J.cx.w A (assign t env v) (fun _ s' => ∃ O' vm', FrV J.cx J.sc J.tab env P O' vm' s' ρ' ∧ CTr env O [] s O' s') s
theorem FrV.storeL {cx : Cx} {sc : Scope} {tab : List (Option Str)} {env : Env} {P : Avd} {O : Nat → Option Addr} {vm : Str → Option Value} {s : Shared} {ρ : List Slot} {prog : Program} {w : World} {A : Around} (F : FrV cx sc tab env P O vm s ρ) {i : Nat} {x : Str} {v : Value} {d : D} {Q : Unit → Shared → Prop} (ht : tab[i]? = some (some x)) (hl : sc.names.lookup x = some .local)
    (r : Rd cx s.heap (Av env P O) d v)
    (hQ : ∀ s', FrV cx sc tab env P (off O i) (upd vm x v) s' (ρ.set i (.val d)) → CTr env O [] s (off O i) s' → Q () s') : W prog w A (storeName env x v) Q s := by
  have hkd : env.scope.kind = .function := by rw [F.scope]; exact F.kind
  obtain ⟨m, hn, hm⟩ := F.ns
  refine W.of_any (wpAny_storeName_local (by show env.scope.names.lookup x = _; rw [F.scope]; exact hl) hn (fun h' hn' hs' => ?_) (by rw [hkd]; rfl))
  have hsz := hs'.1
  have hkk : ∀ a o, a ≠ env.locals → s.heap.get? a = some o → h'.get? a = some o := fun a o ha e => hs'.extBut a o ha e
  have hk : ∀ a o, a ≠ env.locals → (∀ y, env.cells.lookup y ≠ some a) → s.heap.get? a = some o → h'.get? a = some o := fun a o ha _ e => hkk a o ha e
  have hns : ∃ m, h'.Ns env.locals m ∧ ∀ y, sc.names.lookup y = some .local → m y = upd vm x v y := ⟨_, hn', fun y hy => by
    unfold upd
    split
    · rfl
    · exact hm y hy⟩
  have hcell : ∀ y c, env.cells.lookup y = some c → h'.IsCell c (upd vm x v y) := fun y c hc => by
    have hne : y ≠ x := fun e => by
      subst e
      exact F.cellNL y c hc hl
    have : upd vm x v y = vm y := by unfold upd; rw [if_neg hne]
    rw [this]
    exact (F.cell y c hc).sameBut hs' fun e => F.nsCell y (e ▸ hc)
  have hA : ∀ a, Av env P (off O i) a → Av env P O a := fun a h => h.imp id fun m => m.imp (fun ⟨j, hj⟩ => ⟨j, (off_some hj).2⟩) id
  have hk' : ∀ a o, ¬ Av env P O a → s.heap.get? a = some o → h'.get? a = some o := fun a o hn e => hk a o (fun e' => hn (.inr (.inr (.inl e')))) (fun y e' => hn (.inr (.inr (.inr ⟨y, e'⟩)))) e
  refine hQ _ (F.put (s' := { s with heap := h', toks := s.toks + 1 }) ht hsz hk hns hcell (fun j hj => by unfold off; rw [if_neg hj]) (fun a h => absurd rfl (off_some h).1) (fun j y sl hj h1 h2 => ?_) ⟨v, rfl, r.mono hk' fun a h => .inl (hA a h)⟩) ?_
  · exact slot_tr (F.slots j y sl h1 h2) hk' (fun a h => .inl (hA a h)) (by unfold off; rw [if_neg hj]) fun a o e e' => hk a o (F.ownApart j a e).1 (F.ownApart j a e).2 e'
  · exact ⟨rfl, rfl, Nat.le_of_eq hsz.symm, fun a o _ hn e => hkk a o (fun e' => hn (.inr e')) e, fun j a h => .inl ⟨j, (off_some h).2⟩⟩
theorem sal_name {J : Jd} {x : Str} {pos : Pos} {i : Nat} (ht : J.tab[i]? = some (some x) := by rfl) (hl : J.sc.names.lookup x = some .local := by rfl) : SAL J (.Name x pos) (nameA i) := fun A env P O vm s ρ d v ρ' hA F r h => by
  cases h
  show W _ _ A (do standAt pos; bindName env x v) _ s
  refine W.bind (W.standAt ?_)
  unfold bindName
  exact W.bind (W.holding (W.point (W.bind (F.storeL ht hl r fun s' F' T' => W.point ⟨_, _, F', T'⟩))))
inductive TNL (J : Jd) : List PySem.Expr → List Nat → Prop
  | nil : TNL J [] []
  | cons {x : Str} {p : Pos} {i : Nat} {es : List PySem.Expr} {is : List Nat} (ht : J.tab[i]? = some (some x)) (hl : J.sc.names.lookup x = some .local) (h : TNL J es is) : TNL J (.Name x p :: es) (i :: is)
theorem TNL.tn {J : Jd} {es : List PySem.Expr} {is : List Nat} (h : TNL J es is) : TN J es is := by
  induction h with
  | nil => exact .nil
  | cons ht hl _ ih => exact .cons ht (by rw [hl]; intro e; cases e) ih
theorem tnl_store {J : Jd} {es : List PySem.Expr} {is : List Nat} (h : TNL J es is) : ∀ (A : Around) (env : Env) (P : Avd) (O : Nat → Option Addr) (vm : Str → Option Value) (s : Shared) (ρ : Rho) (ds : List D) (vs : List Value) (ρ' : Rho),
    Room A J.k → FrV J.cx J.sc J.tab env P O vm s ρ → RdAll J.cx s.heap (Av env P O) ds vs → setAll is ds ρ = some ρ' →
    W J.cx.prog J.cx.w A (assignInOrder ((assignEach es env).map (·.2)) vs) (fun _ s' => ∃ O' vm', FrV J.cx J.sc J.tab env P O' vm' s' ρ' ∧ CTr env O [] s O' s') s := by
  induction h with
  | nil =>
    intro A env P O vm s ρ ds vs ρ' hA F r hs
    cases ds with
    | nil => rw [setAll] at hs; cases hs; exact W.pure ⟨O, vm, F, (Ext.refl _).c⟩
    | cons _ _ => simp [setAll] at hs
  | cons ht hl h ih =>
    intro A env P O vm s ρ ds vs ρ' hA F r hs
    cases ds with
    | nil => simp [setAll] at hs
    | cons d ds =>
      rw [setAll] at hs
      rw [RdAll] at r
      obtain ⟨v, l, rfl, r1, r2⟩ := r
      rw [assignEach_cons env rfl]
      show W _ _ A (do holding l (assign _ env v); assignInOrder _ l) _ s
      refine W.bind (W.holding (W.mono (sal_name ht hl A env P O vm s ρ d v _ hA F r1 rfl) fun _ s₁ ⟨O1, vm1, F1, T1⟩ => ?_))
      exact W.mono (ih A env P O1 vm1 s₁ _ ds l ρ' hA F1 (F.rdAllTr T1.tr r2) hs) fun _ s₂ ⟨O2, vm2, F2, T2⟩ => ⟨O2, vm2, F2, T1.trans T2⟩
theorem sal_tup {J : Jd} {es : List PySem.Expr} {is : List Nat} {k : Nat} {pos : Pos} (h : TNL J es is) : SAL J (.Tuple es k pos) (tupA is) := fun A env P O vm s ρ d v ρ' hA F r hs => by
  unfold tupA at hs
  split at hs
  · rename_i ds
    rw [Rd] at r
    obtain ⟨a, vs, n, rfl, ho, _, hz, r⟩ := r
    have hst := tn_nostar env h.tn
    have hl := r.length
    rw [Array.length_toList] at hl
    have hn : (assignEach es env).length = vs.size := by rw [hst.2, h.tn.length, hl, setAll_length hs]
    show W _ _ A (do standAt pos; unpack (.ref a) (assignEach es env)) _ s
    refine W.bind (W.standAt ?_)
    unfold unpack
    rw [hn, hst.1]
    refine W.bind (W.holding (W.of_anyS (wpAny_unpackItems_tuple hA.1 ⟨_, ho, rfl, n, rfl⟩ fun h' hk hsz => ?_)))
    have X : Ext s { s with heap := h' } := ⟨rfl, rfl, hsz, fun b o e => hk b o (Nat.ne_of_lt (Heap.lt_size e)) e⟩
    exact W.mono (tnl_store h A env P O vm _ ρ ds vs.toList ρ' hA (F.ext X) (r.keep X.keep) hs) fun _ s₂ ⟨O2, vm2, F2, T2⟩ => ⟨O2, vm2, F2, X.c.trans T2⟩
  · cases hs
theorem Chg.c {env : Env} {L : List Addr} {O : Nat → Option Addr} {s s' : Shared} (x : Chg L s s') : CTr env O L s O s' := ⟨x.gens, x.os, x.size, fun b o hb _ e => x.keep b o hb e, fun j _ e => .inl ⟨j, e⟩⟩

/-- the new list, so far -/
structure Acc (cx : Cx) (env : Env) (P : Avd) (O : Nat → Option Addr) (a : Addr) (zs : List D) (s : Shared) : Prop where
  obj : ∃ vs n, s.heap.get? a = some { cls := .type "list", data := .seq vs n } ∧ RdAll cx s.heap (Av env P O) zs vs.toList
  inP : P a
  above : cx.h₁.objs.size ≤ a
  nm : a ≠ env.locals ∧ ∀ x, env.cells.lookup x ≠ some a

section
variable {cx : Cx} {sc : Scope} {tab : List (Option Str)} {env : Env} {P : Avd} {O O' : Nat → Option Addr} {vm : Str → Option Value} {s s' : Shared} {ρ : List Slot} {a : Addr} {zs : List D}
theorem Acc.notMut (x : Acc cx env P O a zs s) (F : FrV cx sc tab env P O vm s ρ) : ¬ muts env O a := fun m => by
  rcases m with ⟨j, hj⟩ | m | ⟨y, hy⟩
  · exact F.ownNP j a hj x.inP
  · exact x.nm.1 m
  · exact x.nm.2 y hy
theorem Acc.ext (x : Acc cx env P O a zs s) (X : Ext s s') : Acc cx env P O a zs s' :=
  let ⟨vs, n, h1, h2⟩ := x.obj
  ⟨⟨vs, n, X.keep _ _ h1, h2.keep X.keep⟩, x.inP, x.above, x.nm⟩
theorem Acc.tr (x : Acc cx env P O a zs s) (F : FrV cx sc tab env P O vm s ρ) (T : Tr env O s O' s') : Acc cx env P O' a zs s' :=
  let ⟨vs, n, h1, h2⟩ := x.obj
  ⟨⟨vs, n, T.keep _ _ (x.notMut F) h1, F.rdAllTr T h2⟩, x.inP, x.above, x.nm⟩
theorem Acc.chg {wr : List Addr} (x : Acc cx env P O a zs s) (X : Chg wr s s') (hP : ∀ b ∈ wr, P b) (ha : a ∉ wr) : Acc cx env P O a zs s' :=
  let ⟨vs, n, h1, h2⟩ := x.obj
  ⟨⟨vs, n, X.keep _ _ ha h1, h2.mono (fun b o hn e => X.keep b o (fun hw => hn (.inl (hP b hw))) e) fun _ h => .inl h⟩, x.inP, x.above, x.nm⟩
theorem Acc.length (x : Acc cx env P O a zs s) : ∃ vs n, s.heap.get? a = some { cls := .type "list", data := .seq vs n } ∧ RdAll cx s.heap (Av env P O) zs vs.toList ∧ vs.size = zs.length := by
  obtain ⟨vs, n, h1, h2⟩ := x.obj
  exact ⟨vs, n, h1, h2, by rw [← Array.length_toList, h2.length]⟩
end

noncomputable def EmOk (J : Jd) (tree : Value → Env → Sem Unit) (em : Rho → Option (List D × Rho)) : Prop :=
  ∀ (A : Around) (env : Env) (P : Avd) (O : Nat → Option Addr) (vm : Str → Option Value) (s : Shared) (ρ : Rho) (a : Addr) (zs ys : List D) (ρ' : Rho), Room A J.k → FrV J.cx J.sc J.tab env P O vm s ρ → Acc J.cx env P O a zs s → zs.length + ys.length ≤ sizeLine → em ρ = some (ys, ρ') →
    W J.cx.prog J.cx.w A (tree (.ref a) env) (fun _ s' => ∃ O' vm', FrV J.cx J.sc J.tab env P O' vm' s' ρ' ∧ Acc J.cx env P O' a (zs ++ ys) s' ∧ CTr env O [a] s O' s') s

noncomputable def emE (f : Rho → Option D) : Rho → Option (List D × Rho) := fun ρ => (f ρ).map fun y => ([y], ρ)
theorem em_last {J : Jd} {elt : PySem.Expr} {f : Rho → Option D} (he : SE J elt f) : EmOk J (fun acc env => do let _ ← PySem.call (.builtin "list.append") [acc, ← eval elt env]) (emE f) := fun A env P O vm s ρ a zs ys ρ' hA F hacc hz h => by
  unfold emE at h
  rw [Option.map_eq_some_iff] at h
  obtain ⟨y, hy, h⟩ := h
  cases h
  refine W.bind (W.mono (he A env P O vm s ρ y hA F hy) fun v s₁ ⟨X, r⟩ => W.bind ?_)
  have hacc1 := hacc.ext X
  obtain ⟨vs, n, ho, hr, hl⟩ := hacc1.length
  have hz1 : vs.size ≤ sizeLine := by rw [hl]; simp at hz; omega
  refine W.of_any (wpAny_list_append_plain (hsz := hz1) ⟨n, ho⟩ fun h' hp hs => ?_)
  show W _ _ _ _ _ _
  refine W.pure ?_
  obtain ⟨n', ho'⟩ := hp
  have F1 := F.ext X
  have hchg : Chg [a] s₁ { s₁ with heap := h' } := ⟨rfl, rfl, Nat.le_of_eq hs.1.symm, fun b o hb e => hs.extBut b o (by simpa using hb) e⟩
  refine ⟨O, vm, F1.chg hchg (fun b hb => by simp at hb; subst hb; exact hacc.inP) (fun b hb => by simp at hb; subst hb; exact hacc.above) (fun b hb => by simp at hb; subst hb; exact hacc1.notMut F1), ⟨⟨vs.push v, n', ho', ?_⟩, hacc.inP, hacc.above, hacc.nm⟩, (X.c).trans hchg.c⟩
  rw [Array.toList_push]
  exact (hr.append (RdAll.cons r RdAll.nil)).mono (fun b o hn e => hs.extBut b o (fun e' => hn (.inl (e' ▸ hacc.inP))) e) fun _ h => .inl h

noncomputable def loopC (g : D → Rho → Option Rho) (t : Rho → Option Bool) (em : Rho → Option (List D × Rho)) : List D → Rho → Option (List D × Rho)
  | [], ρ => some ([], ρ)
  | d :: ds, ρ => (g d ρ).bind fun ρ1 => (t ρ1).bind fun b => if b then (em ρ1).bind fun x => (loopC g t em ds x.2).map fun y => (x.1 ++ y.1, y.2) else loopC g t em ds ρ1

/-- the turn of a clause, as the model has it -/
noncomputable def turnOf (tgt iter : PySem.Expr) (ifs : List PySem.Expr) (tree : Value → Env → Sem Unit) (c : Value → Value → Env → Code) (it acc : Value) (env : Env) : Sem Fin :=
  standAt iter.pos >>= fun _ => pyNext it >>= fun r => match r with
      | none => pure (.done .next)
      | some v => letOwnedTupleGo tgt it v >>= fun _ => assign tgt env v >>= fun _ => tests ifs env >>= fun ok => (if ok = true then (tree acc env >>= fun _ => again (c it acc env)) else again (c it acc env))

/-- one clause's loop -/
theorem comp_loop {J : Jd} {tgt iter : PySem.Expr} {ifs : List PySem.Expr} {tree : Value → Env → Sem Unit} {c : Value → Value → Env → Code} {g : D → Rho → Option Rho} {t : Rho → Option Bool} {em : Rho → Option (List D × Rho)}
    (hden : ∀ it acc env, ∃ k, denote table (c it acc env) = (turnOf tgt iter ifs tree c it acc env).onRaise k)
    (hci : ∀ it acc env, notCI (c it acc env) = true) (hask : ∀ it acc env, isAsk (c it acc env) = false)
    (hq : ∀ it acc env, (c it acc env).quiet = true) (hund : ∀ (A : Around) it acc env, A.under (c it acc env) = A)
    (ht : SAL J tgt g) (hts : TsOk J ifs t) (hem : EmOk J tree em)
    {A : Around} {env : Env} {P : Avd} {O : Nat → Option Addr} {vm : Str → Option Value} {s : Shared} {ρ ρ' : Rho} {a : Addr} {zs ys : List D} {ds : List D} {I : Addr} {wr : List Addr} {N : Nat} {U : Avd} {St : Nat → Heap → Prop} (hA : Room A J.k) (F : FrV J.cx J.sc J.tab env P O vm s ρ) (hacc : Acc J.cx env P O a zs s)
    (hz : zs.length + ys.length ≤ sizeLine) (h : loopC g t em ds ρ = some (ys, ρ')) (wk : Wk J.cx A tgt I wr N ds U St) (st : St 0 s.heap) (hwP : ∀ b ∈ wr, P b) (hwb : ∀ b ∈ wr, J.cx.h₁.objs.size ≤ b) (hwm : ∀ b ∈ wr, ¬ muts env O b) (hwa : a ∉ wr)
    (hN : N ≤ s.heap.objs.size) (hU : ∀ b, Av env P O b → U b ∨ b ∈ wr ∨ N ≤ b) (hUm : ∀ b, b = a ∨ muts env O b → U b ∨ N ≤ b) :
    C J.cx.prog J.cx.w A (c (.ref I) (.ref a) env) (fun _ s' => ∃ O' vm', FrV J.cx J.sc J.tab env P O' vm' s' ρ' ∧ Acc J.cx env P O' a (zs ++ ys) s' ∧ CTr env O (a :: wr) s O' s') s := by
  refine C.loop (hci _ _ _) (hask _ _ _) (hq _ _ _) (fun k s₃ => ∃ O₁ vm₁ ρ₁ zs₁ ys₁ i, FrV J.cx J.sc J.tab env P O₁ vm₁ s₃ ρ₁ ∧ Acc J.cx env P O₁ a zs₁ s₃ ∧ CTr env O (a :: wr) s O₁ s₃ ∧ St i s₃.heap ∧ i ≤ ds.length ∧ k = ds.length - i ∧
      loopC g t em (ds.drop i) ρ₁ = some (ys₁, ρ') ∧ zs₁ ++ ys₁ = zs ++ ys) ?_ ds.length
    ⟨O, vm, ρ, zs, ys, 0, F, hacc, ⟨rfl, rfl, Nat.le_refl _, fun _ _ _ _ e => e, fun j _ e => .inl ⟨j, e⟩⟩, st, Nat.zero_le _, rfl, h, rfl⟩
  rintro k s₃ ⟨O₁, vm₁, ρ₁, zs₁, ys₁, i, F₁, hacc₁, T₁, st, hle, rfl, h₃, hzy⟩
  rw [hund]
  obtain ⟨kk, hd⟩ := hden (.ref I) (.ref a) env
  rw [hd]
  refine W.onRaise (W.bind (W.standAt (W.bind ?_)))
  have hnm : ∀ (O₂ : Nat → Option Addr) (s₄ : Shared), CTr env O (a :: wr) s O₂ s₄ → ∀ b ∈ wr, b < s.heap.objs.size → ¬ muts env O₂ b := fun O₂ s₄ T b hb hlt hm => by
    rcases hm with ⟨j, hj⟩ | hm
    · rcases T.own j b hj with ⟨l, hl⟩ | hge
      · exact hwm b hb (.inl ⟨l, hl⟩)
      · exact Nat.lt_irrefl _ (Nat.lt_of_lt_of_le hlt hge)
    · exact hwm b hb (.inr hm)
  have hlw : ∀ b ∈ wr, b < s.heap.objs.size := fun b hb => F.av b (hwP b hb)
  have hUm1 : ∀ (O₂ : Nat → Option Addr) (s₄ : Shared), CTr env O (a :: wr) s O₂ s₄ → ∀ b, ¬ U b → b < N → ¬ muts env O₂ b := fun O₂ s₄ T b hn hlt hm => by
    rcases hm with ⟨j, hj⟩ | hm
    · rcases T.own j b hj with ⟨l, hl⟩ | hge
      · rcases hUm b (.inr (.inl ⟨l, hl⟩)) with h1 | h1
        · exact hn h1
        · exact Nat.lt_irrefl _ (Nat.lt_of_lt_of_le hlt h1)
      · exact Nat.lt_irrefl _ (Nat.lt_of_lt_of_le hlt (Nat.le_trans hN hge))
    · rcases hUm b (.inr (.inr hm)) with h1 | h1
      · exact hn h1
      · exact Nat.lt_irrefl _ (Nat.lt_of_lt_of_le hlt h1)
  have hUa : ∀ b, ¬ U b → b < N → b ≠ a := fun b hn hlt e => by
    rcases hUm b (.inl e) with h1 | h1
    · exact hn h1
    · exact Nat.lt_irrefl _ (Nat.lt_of_lt_of_le hlt h1)
  have chgT : ∀ s₄, Chg wr s₃ s₄ → CTr env O (a :: wr) s O₁ s₄ := fun s₄ x => T₁.trans (x.c.sub fun b hb _ => List.mem_cons_of_mem _ hb)
  rcases Nat.lt_or_ge i ds.length with hlt | hge
  · have hd : ds[i]? = some ds[i] := List.getElem?_eq_getElem hlt
    have hdrop : ds.drop i = ds[i] :: ds.drop (i + 1) := List.drop_eq_getElem_cons hlt
    rw [hdrop, loopC, Option.bind_eq_some_iff] at h₃
    obtain ⟨ρ4, hg4, h₃⟩ := h₃
    rw [Option.bind_eq_some_iff] at h₃
    obtain ⟨bb, hb4, h₃⟩ := h₃
    refine W.mono (wk.item i ds[i] s₃ (Av env P O₁) (fun v s₄ => W J.cx.prog J.cx.w A (assign tgt env v >>= fun _ => tests ifs env >>= fun ok => (if ok = true then (tree (.ref a) env >>= fun _ => again (c (.ref I) (.ref a) env)) else again (c (.ref I) (.ref a) env))) _ s₄) hd st F₁.baseOf (fun b hb => ⟨?_, F₁.avLt hb⟩) fun v s₄ x r st' => ?_) fun r s₄ hr => by obtain ⟨v, e, h₄⟩ := hr; subst e; exact W.bind h₄
    · rcases hb with hb | ⟨j, hj⟩ | hb
      · exact hU b (.inl hb)
      · rcases T₁.own j b hj with ⟨l, hl⟩ | hge
        · exact hU b (.inr (.inl ⟨l, hl⟩))
        · exact .inr (.inr (Nat.le_trans hN hge))
      · exact hU b (.inr (.inr hb))
    have hwm1 : ∀ b ∈ wr, ¬ muts env O₁ b := fun b hb => hnm O₁ s₃ T₁ b hb (hlw b hb)
    have F4 := F₁.chg x hwP hwb hwm1
    have acc4 := hacc₁.chg x hwP hwa
    refine W.bind (W.mono (ht A env _ O₁ vm₁ s₄ ρ₁ ds[i] v ρ4 hA F4 r hg4) fun _ s₅ ⟨O5, vm5, F5, T5⟩ => ?_)
    have acc5 := acc4.tr F4 T5.tr
    have C5 : CTr env O (a :: wr) s O5 s₅ := (chgT s₄ x).trans (T5.sub fun b hb _ => nomatch hb)
    have st5 : St (i + 1) s₅.heap := wk.frame _ _ _ st' fun b o hn hlt e => T5.keep b o (fun h => nomatch h) (fun h => hUm1 O₁ s₃ T₁ b hn hlt h.m) e
    refine W.bind (W.mono (hts A env P O5 vm5 s₅ ρ4 bb hA F5 hb4) fun ok s₆ ⟨X6, e⟩ => ?_)
    subst e
    have F6 := F5.ext X6
    have acc6 := acc5.ext X6
    have C6 : CTr env O (a :: wr) s O5 s₆ := C5.trans X6.c
    have st6 : St (i + 1) s₆.heap := wk.frame _ _ _ st5 fun b o _ _ e => X6.keep b o e
    cases ok with
    | false =>
      simp only [Bool.false_eq_true, if_false] at h₃ ⊢
      exact W.pure (Or.inl ⟨rfl, ds.length - (i + 1), by omega, O5, vm5, ρ4, zs₁, ys₁, i + 1, F6, acc6, C6, st6, hlt, rfl, h₃, hzy⟩)
    | true =>
      simp only [if_true] at h₃ ⊢
      rw [Option.bind_eq_some_iff] at h₃
      obtain ⟨⟨ys7, ρ7⟩, hem7, h₃⟩ := h₃
      rw [Option.map_eq_some_iff] at h₃
      obtain ⟨⟨ys8, ρ8⟩, h8, h₃⟩ := h₃
      cases h₃
      have hl : zs₁.length + (ys7.length + ys8.length) = zs.length + ys.length := by
        have := congrArg List.length hzy
        simp at this
        omega
      refine W.bind (W.mono (hem A env P O5 vm5 s₆ ρ4 a zs₁ ys7 ρ7 hA F6 acc6 (by omega) hem7) fun _ s₇ ⟨O7, vm7, F7, acc7, T7⟩ => ?_)
      refine W.pure (Or.inl ⟨rfl, ds.length - (i + 1), by omega, O7, vm7, ρ7, zs₁ ++ ys7, ys8, i + 1, F7, acc7, C6.trans (T7.sub fun b hb _ => by simp at hb; subst hb; exact List.mem_cons_self), ?_, hlt, rfl, h8, ?_⟩)
      · exact wk.frame _ _ _ st6 fun b o hn hlt e => T7.keep b o (by simp; exact hUa b hn hlt) (fun h => hUm1 O5 s₆ C6 b hn hlt h.m) e
      · rw [List.append_assoc]; exact hzy
  · have hi : i = ds.length := by omega
    subst hi
    rw [List.drop_length, loopC] at h₃
    cases h₃
    rw [List.append_nil] at hzy
    subst hzy
    have hwm1 : ∀ b ∈ wr, ¬ muts env O₁ b := fun b hb => hnm O₁ s₃ T₁ b hb (hlw b hb)
    refine W.mono (wk.done s₃ (fun s₄ => ∃ O' vm', FrV J.cx J.sc J.tab env P O' vm' s₄ _ ∧ Acc J.cx env P O' a _ s₄ ∧ CTr env O (a :: wr) s O' s₄) st F₁.baseOf fun s₄ x => ⟨O₁, vm₁, F₁.chg x hwP hwb hwm1, hacc₁.chg x hwP hwa, chgT s₄ x⟩) fun r s₄ ⟨e, h₄⟩ => by subst e; exact W.pure h₄
end Mine

end
section
open PySem PySem.W PySem.Calls PyProof.Rows
set_option Elab.async false
set_option maxRecDepth 100000
namespace Mine

noncomputable def relab (scope sc : Scope) : Scope := { scope with names := scope.names.map fun (n, k) => if (k == .free && sc.kind == .function && sc.names.lookup n == some .cell) then (n, .cell) else (n, k) }
theorem lookup_relab (sc : Scope) (x : Str) : ∀ names : List (Str × NameKind), (names.map fun (n, k) => if (k == NameKind.free && sc.kind == .function && sc.names.lookup n == some .cell) then (n, NameKind.cell) else (n, k)).lookup x =
    (names.lookup x).map fun k => if (k == .free && sc.kind == .function && sc.names.lookup x == some .cell) then .cell else k
  | [] => rfl
  | (n, k) :: r => by
    have ih := lookup_relab sc x r
    have e : (if (k == NameKind.free && sc.kind == .function && sc.names.lookup n == some .cell) then (n, NameKind.cell) else (n, k)) = (n, if (k == NameKind.free && sc.kind == .function && sc.names.lookup n == some .cell) then NameKind.cell else k) := by split <;> rfl
    rw [List.map_cons]
    show List.lookup x ((if (k == NameKind.free && sc.kind == .function && sc.names.lookup n == some .cell) then (n, NameKind.cell) else (n, k)) :: _) = _
    rw [e]
    cases hx : x == n with
    | true =>
      have := eq_of_beq hx
      subst this
      simp [List.lookup_cons]
    | false => simp only [List.lookup_cons, hx]; exact ih

theorem relab_local {scope sc : Scope} {x : Str} : (relab scope sc).names.lookup x = some .local ↔ scope.names.lookup x = some .local := by
  unfold relab
  rw [lookup_relab]
  cases scope.names.lookup x with
  | none => simp
  | some k => cases k <;> simp <;> split <;> simp
theorem relab_free {scope sc : Scope} {x : Str} (h : scope.names.lookup x = some .free) : (relab scope sc).names.lookup x = some .cell ∨ (relab scope sc).names.lookup x = some .free := by
  unfold relab
  rw [lookup_relab, h]
  simp only [Option.map_some]
  split
  · exact .inl rfl
  · exact .inr rfl

/-! the closure -/
noncomputable def clRev (cells : List (Str × Addr)) : List (Str × NameKind) → List (Str × Addr) → List (Str × Addr)
  | [], acc => acc
  | (n, k) :: r, acc => if k == .free then clRev cells r ((n, (cells.lookup n).getD 0) :: acc) else clRev cells r acc

theorem closure_ok {scope : Scope} {env : Env} (h : ∀ x, (x, NameKind.free) ∈ scope.names → (env.cells.lookup x).isSome = true) : closureFor scope env = pure (clRev env.cells scope.names []) := by
  unfold closureFor
  have : ∀ (names : List (Str × NameKind)) (acc : List (Str × Addr)), (∀ x, (x, NameKind.free) ∈ names → (env.cells.lookup x).isSome = true) →
      (forIn names acc fun x r => (match x with | (name, kind) => if (kind == NameKind.free) = true then do let c ← cellOf env name; pure (ForInStep.yield ((name, c) :: r)) else pure (ForInStep.yield r)) : Sem (List (Str × Addr))) = pure (clRev env.cells names acc) := by
    intro names
    induction names with
    | nil => intro acc _; rfl
    | cons x r ih =>
      intro acc h
      obtain ⟨n, k⟩ := x
      rw [List.forIn_cons]
      have hr : ∀ x, (x, NameKind.free) ∈ r → (env.cells.lookup x).isSome = true := fun x hx => h x (List.mem_cons_of_mem _ hx)
      by_cases hk : (k == NameKind.free) = true
      · have hk' : k = .free := eq_of_beq hk
        subst hk'
        obtain ⟨c, hc⟩ := Option.isSome_iff_exists.mp (h n List.mem_cons_self)
        have e : cellOf env n = pure c := by unfold cellOf; rw [hc]
        simp only [hk, if_true, e]
        rw [clRev, if_pos hk, hc]
        exact ih _ hr
      · simp only [hk, Bool.false_eq_true, if_false]
        rw [clRev, if_neg hk]
        exact ih _ hr
  have h2 := this scope.names [] h
  exact Eq.trans (congrArg (fun t : Sem (List (Str × Addr)) => t >>= fun r => pure r) h2) rfl

theorem clRev_mem {cells : List (Str × Addr)} {x : Str} {c : Addr} : ∀ {names : List (Str × NameKind)} {acc : List (Str × Addr)}, (∀ y, (y, NameKind.free) ∈ names → (cells.lookup y).isSome = true) → (x, c) ∈ clRev cells names acc → (x, c) ∈ acc ∨ ((x, NameKind.free) ∈ names ∧ cells.lookup x = some c)
  | [], _, _, h => .inl h
  | (n, k) :: r, acc, hf, h => by
    rw [clRev] at h
    have hr : ∀ y, (y, NameKind.free) ∈ r → (cells.lookup y).isSome = true := fun y hy => hf y (List.mem_cons_of_mem _ hy)
    split at h
    · rename_i hk
      have hk' : k = .free := eq_of_beq hk
      subst hk'
      rcases clRev_mem hr h with h | ⟨h1, h2⟩
      · rcases List.mem_cons.mp h with h | h
        · obtain ⟨c', hc⟩ := Option.isSome_iff_exists.mp (hf n List.mem_cons_self)
          rw [hc] at h
          cases h
          exact .inr ⟨List.mem_cons_self, hc⟩
        · exact .inl h
      · exact .inr ⟨List.mem_cons_of_mem _ h1, h2⟩
    · rcases clRev_mem hr h with h | ⟨h1, h2⟩
      · exact .inl h
      · exact .inr ⟨List.mem_cons_of_mem _ h1, h2⟩
theorem clRev_has {cells : List (Str × Addr)} {x : Str} : ∀ {names : List (Str × NameKind)} {acc : List (Str × Addr)}, ((x, NameKind.free) ∈ names ∨ ∃ c, (x, c) ∈ acc) → ∃ c, (x, c) ∈ clRev cells names acc
  | [], _, h => h.elim (fun h => nomatch h) id
  | (n, k) :: r, acc, h => by
    rw [clRev]
    split
    · rename_i hk
      rcases h with h | ⟨c, h⟩
      · rcases List.mem_cons.mp h with h | h
        · cases h
          exact clRev_has (.inr ⟨_, List.mem_cons_self⟩)
        · exact clRev_has (.inl h)
      · exact clRev_has (.inr ⟨c, List.mem_cons_of_mem _ h⟩)
    · rename_i hk
      rcases h with h | h
      · rcases List.mem_cons.mp h with h | h
        · cases h
          exact absurd (by rfl) hk
        · exact clRev_has (.inl h)
      · exact clRev_has (.inr h)
theorem clRev_names {cells : List (Str × Addr)} : ∀ {names : List (Str × NameKind)} {acc : List (Str × Addr)}, (names.map (·.1)).Nodup → (acc.map (·.1)).Nodup → (∀ x ∈ names, ∀ y ∈ acc, x.1 ≠ y.1) → ((clRev cells names acc).map (·.1)).Nodup
  | [], _, _, h, _ => h
  | (n, k) :: r, acc, h1, h2, h3 => by
    rw [List.map_cons, List.nodup_cons] at h1
    rw [clRev]
    split
    · refine clRev_names h1.2 ?_ ?_
      · rw [List.map_cons, List.nodup_cons]
        refine ⟨fun hm => ?_, h2⟩
        obtain ⟨y, hy, e⟩ := List.mem_map.mp hm
        exact h3 _ List.mem_cons_self y hy e.symm
      · intro x hx y hy
        rcases List.mem_cons.mp hy with hy | hy
        · subst hy
          intro e
          exact h1.1 (e ▸ List.mem_map.mpr ⟨x, hx, rfl⟩)
        · exact h3 x (List.mem_cons_of_mem _ hx) y hy
    · exact clRev_names h1.2 h2 fun x hx y hy => h3 x (List.mem_cons_of_mem _ hx) y hy

theorem lookup_of_mem_nodup {β : Type} {x : Str} {c : β} : ∀ {l : List (Str × β)}, (l.map (·.1)).Nodup → (x, c) ∈ l → l.lookup x = some c
  | [], _, h => nomatch h
  | (n, k) :: r, h1, h => by
    rw [List.map_cons, List.nodup_cons] at h1
    rcases List.mem_cons.mp h with h | h
    · cases h; simp [List.lookup_cons]
    · have hne : (x == n) = false := by
        cases hx : x == n with
        | false => rfl
        | true => exact absurd (List.mem_map.mpr ⟨(x, c), h, eq_of_beq hx⟩) h1.1
      simp only [List.lookup_cons, hne]
      exact lookup_of_mem_nodup h1.2 h

theorem pairwise_of_inj {l : List (Str × Addr)} (h1 : (l.map (·.1)).Nodup) (h2 : ∀ x y c, (x, c) ∈ l → (y, c) ∈ l → x = y) : l.Pairwise fun x y => x.2 ≠ y.2 := by
  induction l with
  | nil => exact .nil
  | cons a r ih =>
    rw [List.map_cons, List.nodup_cons] at h1
    refine .cons (fun b hb e => ?_) (ih h1.2 fun x y c hx hy => h2 x y c (List.mem_cons_of_mem _ hx) (List.mem_cons_of_mem _ hy))
    have : a.1 = b.1 := h2 a.1 b.1 a.2 List.mem_cons_self (List.mem_cons_of_mem _ (by rw [e]; exact hb))
    exact h1.1 (this ▸ List.mem_map.mpr ⟨b, hb, rfl⟩)

/-! the comprehension's own frame -/
noncomputable def seen (scope : Scope) : Option Str → Option Str
  | some x => if scope.names.lookup x == some .free then some x else none
  | none => none
noncomputable def hideOwn : Slot → Slot
  | .own _ => .unb
  | x => x
noncomputable def Jc (J : Jd) (scope : Scope) (vars : List Str) : Jd := ⟨J.cx, relab scope J.sc, J.tab.map (seen scope) ++ vars.map some, J.k⟩
noncomputable def rhoC (vars : List Str) (ρ : Rho) : Rho := ρ.map hideOwn ++ vars.map fun _ => .unb

structure CompSc (J : Jd) (scope : Scope) (vars : List Str) : Prop where
  kind : scope.kind = .function
  nodup : (scope.names.map (·.1)).Nodup
  noCell : ∀ x ∈ scope.names, x.2 ≠ .cell
  free : ∀ x ∈ scope.names, x.2 = .free → (some x.1 ∈ J.tab) ∧ J.sc.names.lookup x.1 ≠ some .local
  vloc : ∀ x ∈ vars, scope.names.lookup x = some .local
  vnd : vars.Nodup

theorem lookup_mem' {β : Type} {x : Str} {c : β} : ∀ {l : List (Str × β)}, l.lookup x = some c → (x, c) ∈ l
  | [], h => by simp at h
  | (n, k) :: r, h => by
    rw [List.lookup_cons] at h
    split at h
    · rename_i hx
      have := eq_of_beq hx
      subst this
      cases h
      exact List.mem_cons_self
    · exact List.mem_cons_of_mem _ (lookup_mem' h)
end Mine

end
section
open PySem PySem.W PySem.Calls PyProof.Rows
set_option Elab.async false
set_option maxRecDepth 100000
namespace Mine

theorem seen_some {scope : Scope} {o : Option Str} {x : Str} (h : seen scope o = some x) : o = some x ∧ scope.names.lookup x = some .free := by
  cases o with
  | none => cases h
  | some y =>
    unfold seen at h
    simp only at h
    split at h
    · rename_i hb
      cases h
      exact ⟨rfl, eq_of_beq hb⟩
    · cases h

theorem tabC_cases {J : Jd} {scope : Scope} {vars : List Str} {i : Nat} {x : Str} (h : (Jc J scope vars).tab[i]? = some (some x)) :
    (i < J.tab.length ∧ J.tab[i]? = some (some x) ∧ scope.names.lookup x = some .free) ∨ (J.tab.length ≤ i ∧ vars[i - J.tab.length]? = some x) := by
  unfold Jc at h
  simp only at h
  rcases Nat.lt_or_ge i J.tab.length with hi | hi
  · rw [List.getElem?_append_left (by simpa using hi), List.getElem?_map, Option.map_eq_some_iff] at h
    obtain ⟨o, h1, h2⟩ := h
    obtain ⟨e1, e2⟩ := seen_some h2
    subst e1
    exact .inl ⟨hi, h1, e2⟩
  · rw [List.getElem?_append_right (by simpa using hi), List.length_map, List.getElem?_map, Option.map_eq_some_iff] at h
    obtain ⟨y, h1, h2⟩ := h
    cases h2
    exact .inr ⟨hi, h1⟩

theorem Nodup.inj {l : List Str} (h : l.Nodup) {i j : Nat} {x : Str} (h1 : l[i]? = some x) (h2 : l[j]? = some x) : i = j := by
  obtain ⟨hi, e1⟩ := List.getElem?_eq_some_iff.mp h1
  obtain ⟨hj, e2⟩ := List.getElem?_eq_some_iff.mp h2
  have hp := List.pairwise_iff_getElem.mp h
  rcases Nat.lt_trichotomy i j with hlt | he | hlt
  · exact absurd (e1.trans e2.symm) (hp i j hi hj hlt)
  · exact he
  · exact absurd (e2.trans e1.symm) (hp j i hj hi hlt)

/-- the frame of a comprehension, as it begins -/
theorem FrV.comp {J : Jd} {scope : Scope} {vars : List Str} {env : Env} {P : Avd} {O : Nat → Option Addr} {vm : Str → Option Value} {s s' : Shared} {ρ : Rho} (cs : CompSc J scope vars) (F : FrV J.cx J.sc J.tab env P O vm s ρ) (X : Ext s s')
    {cenv : Env} {P' : Avd} (e1 : cenv.scope = relab scope J.sc) (e2 : cenv.globals = env.globals) (e3 : cenv.builtins = env.builtins) (e4 : cenv.cells = clRev env.cells scope.names [])
    (hl : s.heap.objs.size ≤ cenv.locals) (hns : s'.heap.Ns cenv.locals fun _ => none) (hP : ∀ a, P' a → Av env P O a ∨ s.heap.objs.size ≤ a) (hP' : ∀ a, P' a → a < s'.heap.objs.size) :
    ∃ vm', FrV J.cx (Jc J scope vars).sc (Jc J scope vars).tab cenv P' noO vm' s' (rhoC vars ρ) := by
  have hfr : ∀ x, (x, NameKind.free) ∈ scope.names → (env.cells.lookup x).isSome = true := fun x hx => by
    obtain ⟨h1, h2⟩ := cs.free _ hx rfl
    obtain ⟨i, hi⟩ := List.mem_iff_getElem?.mp h1
    rcases F.known i x hi with h | h
    · exact absurd h h2
    · exact h.2
  have hcl : ∀ x c, cenv.cells.lookup x = some c → (x, NameKind.free) ∈ scope.names ∧ env.cells.lookup x = some c := fun x c h => by
    rw [e4] at h
    rcases clRev_mem hfr (lookup_mem' h) with h | h
    · exact nomatch h
    · exact h
  have hclm : ∀ x c, (x, c) ∈ cenv.cells → env.cells.lookup x = some c := fun x c h => by
    rw [e4] at h
    rcases clRev_mem hfr h with h | h
    · exact nomatch h
    · exact h.2
  have hnd : (cenv.cells.map (·.1)).Nodup := by rw [e4]; exact clRev_names cs.nodup (by simp) (fun _ _ y hy => nomatch hy)
  have hnl : ∀ x c, cenv.cells.lookup x = some c → (relab scope J.sc).names.lookup x ≠ some .local := fun x c h e => by
    have := relab_local.mp e
    rw [lookup_of_mem_nodup cs.nodup (hcl x c h).1] at this
    cases this
  have hAv : ∀ a, Av cenv P' noO a → Av env P O a ∨ s.heap.objs.size ≤ a := fun a h => by
    rcases h with h | ⟨j, hj⟩ | h | ⟨x, hx⟩
    · exact hP a h
    · cases hj
    · exact .inr (h ▸ hl)
    · exact .inl (.inr (.inr (.inr ⟨x, (hcl x a hx).2⟩)))
  have hbase := F.baseOf
  refine ⟨fun x => if (relab scope J.sc).names.lookup x = some .local then none else vm x, {
    scope := e1, kind := cs.kind, glob := e2.trans F.glob, blt := e3.trans F.blt
    base := fun a o e => X.keep a o (F.base a o e)
    ns := ⟨_, hns, fun x hx => (if_pos hx).symm⟩
    cell := fun x c h => by
      show s'.heap.IsCell c (if _ then none else vm x)
      rw [if_neg (hnl x c h)]
      exact (F.cell x c (hcl x c h).2).keeps X.keep
    apart := pairwise_of_inj hnd fun x y c hx hy => name_of_addr F.apart (mem_of_lookup (hclm x c hx)) (mem_of_lookup (hclm y c hy))
    fresh := fun a m => by
      rcases m with ⟨j, hj⟩ | h | ⟨x, hx⟩
      · cases hj
      · rw [h]; exact ⟨Nat.le_trans hbase.1 hl, hns.lt⟩
      · have := F.fresh a (.inr (.inr ⟨x, (hcl x a hx).2⟩))
        exact ⟨this.1, Nat.lt_of_lt_of_le this.2 X.size⟩
    nsCell := fun x e => Nat.lt_irrefl _ (Nat.lt_of_lt_of_le (F.fresh _ (.inr (.inr ⟨x, (hcl x _ e).2⟩))).2 hl)
    av := hP'
    len := by unfold rhoC Jc; simp [F.len]
    tabInj := fun i j x hi hj => by
      rcases tabC_cases hi with ⟨_, h1, h2⟩ | ⟨h1, h2⟩ <;> rcases tabC_cases hj with ⟨_, k1, k2⟩ | ⟨k1, k2⟩
      · exact F.tabInj i j x h1 k1
      · rw [cs.vloc x (List.mem_of_getElem? k2)] at h2; cases h2
      · rw [cs.vloc x (List.mem_of_getElem? h2)] at k2; cases k2
      · have := Nodup.inj cs.vnd h2 k2; omega
    cellNL := hnl
    known := fun i x hi => by
      rcases tabC_cases hi with ⟨_, h1, h2⟩ | ⟨h1, h2⟩
      · refine .inr ⟨relab_free h2, ?_⟩
        obtain ⟨c, hc⟩ := clRev_has (cells := env.cells) (acc := []) (.inl (lookup_mem' h2))
        rw [← e4] at hc
        rw [lookup_of_mem_nodup hnd hc]; rfl
      · exact .inl (relab_local.mpr (cs.vloc x (List.mem_of_getElem? h2)))
    slots := fun i x sl h1 h2 => ?_
    ownInj := fun i j a h _ => nomatch h
    ownSlot := fun i a h => nomatch h
    ownApart := fun i a h => nomatch h
    ownNP := fun i a h => nomatch h }⟩
  unfold rhoC at h2
  rcases tabC_cases h1 with ⟨hi, h3, h4⟩ | ⟨hi, h3⟩
  · rw [List.getElem?_append_left (by rw [List.length_map, F.len]; exact hi), List.getElem?_map, Option.map_eq_some_iff] at h2
    obtain ⟨sl0, h5, h6⟩ := h2
    have hs := F.slots i x sl0 h3 h5
    have hv : (if (relab scope J.sc).names.lookup x = some .local then none else vm x) = vm x := if_neg fun e => by rw [relab_local.mp e] at h4; cases h4
    simp only [hv]
    cases sl0 with
    | unb => subst h6; trivial
    | own xs => subst h6; trivial
    | val d =>
      subst h6
      obtain ⟨v, e, r⟩ := hs
      exact ⟨v, e, rd_moreP hAv X.keep (Nat.le_refl _) r⟩
  · rw [List.getElem?_append_right (by rw [List.length_map, F.len]; exact hi), List.getElem?_map, Option.map_eq_some_iff] at h2
    obtain ⟨_, _, h6⟩ := h2
    subst h6
    trivial

noncomputable def useQ (prog : Program) (w : World) (A : Around) (use : Option (Value → Sem Unit)) (Q : Value → Shared → Prop) (acc : Value) (L : Addr) (s' : Shared) : Prop := match use with
  | none => ∃ m, s'.heap.Ns L m ∧ ∀ h', Heap.SameBut L s'.heap h' → Q acc { s' with heap := h' }
  | some u => W prog w A (u acc) (fun _ s'' => ∃ m, s''.heap.Ns L m ∧ ∀ h', Heap.SameBut L s''.heap h' → Q .none { s'' with heap := h' }) s'
section
variable {prog : Program} {w : World} {A : Around} {s : Shared} {env : Env}
theorem W.comprehension {e : PySem.Expr} {scope : Scope} {pos : Pos} {newAcc first : Sem Value} {g : Comprehension} {gs : List Comprehension} {cl : List (Str × Addr)} {use : Option (Value → Sem Unit)}
    {Q : Value → Shared → Prop} (hcl : clausesOf e = g :: gs) (hclos : closureFor scope env = Pure.pure cl)
    (hkind : scope.kind = .function) (hnames : ∀ x ∈ scope.names, x.2 = .local → scope.names.lookup x.1 = some .local)
    (h : W prog w A first (fun x s₁ => foldedSetIterable g.iter env x = Pure.pure x ∧ W prog w A (pyIter x) (fun it s₂ => W prog w A newAcc (fun acc s₃ =>
      W prog w A (newFunctionEnv scope env.globals cl [] env.qual none .none (some env)) (fun cenv s₄ =>
        C prog w A (.compStart e 0 it acc { cenv with scope := relabel scope env }) (fun _ s' => useQ prog w A use Q acc cenv.locals s') s₄) s₃) s₂) s₁) s) :
    W prog w A (PySem.comprehension e scope env pos newAcc false first use) Q s := by
  unfold PySem.comprehension
  rw [hclos, hcl]
  refine W.bind (W.mono h fun x s₁ ⟨hs, h₁⟩ => W.bind (W.standAt (W.bind (W.of_eq hs (W.pure (W.bind (W.holding (W.mono h₁ fun it s₂ h₂ => ?_))))))))
  have hfin : W prog w A newAcc (fun acc s₃ => W prog w A (newFunctionEnv scope env.globals cl [] env.qual none .none (some env)) (fun cenv s₄ =>
        C prog w A (.compStart e 0 it acc { cenv with scope := relabel scope env }) (fun _ s' => useQ prog w A use Q acc cenv.locals s') s₄) s₃) s₂ := h₂
  cases use with
  | none =>
    simp only [Option.isSome_none, Bool.false_eq_true, if_false]
    refine W.bind (W.mono hfin fun acc s₃ h₃ => W.bind (W.pure (W.bind (W.mono h₃ fun cenv s₄ h₄ => ?_))))
    have hv : ∀ x ∈ (scope.names.filter fun x => (x.2 == .local || x.2 == .cell) && x.1 != (".0" : Str)).reverse, x.2 = .local →
        Env.kindOf { cenv with scope := relabel scope env } x.1 = some .local := fun x hx hl => lookup_relabel_local (hnames x (List.mem_filter.mp (List.mem_reverse.mp hx)).1 hl)
    refine W.holding (W.bind (W.attempt (W.holding (W.run (h₄.mono fun f s' hr => ?_)))))
    obtain ⟨m, hn, hr⟩ := hr
    exact W.bind (W.holding (W.of_any (wpAny_comp_letGo (cenv := { cenv with scope := relabel scope env }) hkind _ s' m hv hn fun h' m' _ hs' => W.pure (hr h' hs'))))
  | some u =>
    simp only [Option.isSome_some, if_true]
    refine W.bind (W.standAt (W.bind (W.mono hfin fun acc s₃ h₃ => W.bind (W.pure (W.bind (W.mono h₃ fun cenv s₄ h₄ => ?_))))))
    have hv : ∀ x ∈ (scope.names.filter fun x => (x.2 == .local || x.2 == .cell) && x.1 != (".0" : Str)).reverse, x.2 = .local →
        Env.kindOf { cenv with scope := relabel scope env } x.1 = some .local := fun x hx hl => lookup_relabel_local (hnames x (List.mem_filter.mp (List.mem_reverse.mp hx)).1 hl)
    have hv' : ∀ x ∈ (scope.names.filter fun x => (x.2 == .local || x.2 == .cell) && x.1 != (".0" : Str)).reverse.drop 1 ++ (scope.names.filter fun x => (x.2 == .local || x.2 == .cell) && x.1 != (".0" : Str)).reverse.take 1,
        x.2 = .local → Env.kindOf { cenv with scope := relabel scope env } x.1 = some .local := fun x hx hl => by
      rcases List.mem_append.mp hx with h1 | h1
      · exact hv x (List.mem_of_mem_drop h1) hl
      · exact hv x (List.mem_of_mem_take h1) hl
    refine W.holding (W.bind (W.attempt (W.holding (W.run (h₄.mono fun f s' hr => ?_)))))
    refine W.bind (W.rule (W.bind (W.holding (W.mono hr fun _ s'' hr' => ?_))))
    obtain ⟨m, hn, hr'⟩ := hr'
    exact W.bind (W.of_any (wpAny_comp_letGo (cenv := { cenv with scope := relabel scope env }) hkind _ s'' m hv' hn fun h' m' _ hs' => W.pure (hr' h' hs')))

theorem C.compStart {e : PySem.Expr} {d : Nat} {it acc : Value} {g : Comprehension} {R : Flow → Shared → Prop} (hg : (clausesOf e)[d]? = some g) (hga : (g.is_async != 0) = false) (hfr : (Code.compStart e d it acc env).isFrame = false)
    (hun : ∀ A : Around, A.under (Code.compStart e d it acc env) = A) (hq : ∀ it, (Code.compLoop e d it acc env).quiet = true)
    (h : W prog w A (pyIter it) (fun it' s' => it' = it ∧ s' = s) s) (hl : C prog w A (.compLoop e d it acc env) R s) : C prog w A (.compStart e d it acc env) R s := by
  refine C.of_tree rfl rfl ?_
  rw [hun]
  show W _ _ A (if (Code.compStart e d it acc env).isFrame then (PySem.compStart e d it acc env).onRaise (leaving env) else (PySem.compStart e d it acc env).onRaise (fun x => do noteFrame x env; PySem.standAt theWindowsPlace)) _ s
  rw [hfr]
  simp only [Bool.false_eq_true, if_false]
  refine W.onRaise ?_
  unfold PySem.compStart
  rw [hg]
  simp only [Option.elim_some, hga, Bool.false_eq_true, if_false]
  have hask : ∀ {β : Type} {k : Setting → Sem β} {Q : β → Shared → Prop}, (∀ x, W prog w A (k x) Q s) → W prog w A (PySem.ask >>= k) Q s := fun hk => W.bind (W.of_any (wpAny_askSetting (hk _)))
  refine hask fun x => ?_
  split
  · first
    | exact W.pure ⟨hq _, hl⟩
    | exact W.bind (W.pure (W.pure ⟨hq _, hl⟩))
  · first
    | exact W.bind (W.rule (W.bind (W.standAt (W.bind (W.mono h fun it' s' ⟨e1, e2⟩ => by subst e1 e2; exact W.pure ⟨hq _, hl⟩)))))
    | exact W.bind (W.rule (W.bind (W.standAt (W.bind (W.mono h fun it' s' ⟨e1, e2⟩ => by subst e1 e2; exact W.bind (W.pure (W.pure ⟨hq _, hl⟩)))))))
end
end Mine

end
section
open PySem PySem.W PySem.Calls PyProof.Rows
set_option Elab.async false
set_option maxRecDepth 100000
namespace Mine

noncomputable def compF (vars : List Str) (f : Rho → Option (List D)) (g : D → Rho → Option Rho) (t : Rho → Option Bool) (em : Rho → Option (List D × Rho)) : Rho → Option (List D) :=
  fun ρ => (f ρ).bind fun ds => (loopC g t em ds (rhoC vars ρ)).bind fun x => if x.1.length ≤ sizeLine then some x.1 else none

/-- the model's turn is this one -/
noncomputable def TurnIs (e : PySem.Expr) (d : Nat) (tgt iter : PySem.Expr) (ifs : List PySem.Expr) (tree : Value → Env → Sem Unit) : Prop :=
  ∀ it acc env, ∃ k, denote table (.compLoop e d it acc env) = (turnOf tgt iter ifs tree (fun it acc env => .compLoop e d it acc env) it acc env).onRaise k

theorem Ext.over {s s' : Shared} {L : Addr} {h' : Heap} (x : Ext s s') (hs : Heap.SameBut L s'.heap h') (hL : s.heap.objs.size ≤ L) : Ext s { s' with heap := h' } :=
  ⟨x.gens, x.os, by show _ ≤ h'.objs.size; rw [hs.1]; exact x.size, fun b o e => hs.extBut b o (fun e' => Nat.lt_irrefl _ (Nat.lt_of_lt_of_le (Heap.lt_size e) (e' ▸ hL))) (x.keep b o e)⟩

section
variable {J : Jd} {scope : Scope} {vars : List Str} {elt tgt iter : PySem.Expr} {ifs : List PySem.Expr} {gs : List Comprehension} {pos : Pos} {tree : Value → Env → Sem Unit} {g : D → Rho → Option Rho} {t : Rho → Option Bool} {em : Rho → Option (List D × Rho)}

theorem FrV.closure (cs : CompSc J scope vars) {env : Env} {P : Avd} {O : Nat → Option Addr} {vm : Str → Option Value} {s : Shared} {ρ : Rho} (F : FrV J.cx J.sc J.tab env P O vm s ρ) : ∀ x, (x, NameKind.free) ∈ scope.names → (env.cells.lookup x).isSome = true := fun x hx => by
  obtain ⟨h1, h2⟩ := cs.free _ hx rfl
  obtain ⟨i, hi⟩ := List.mem_iff_getElem?.mp h1
  rcases F.known i x hi with h | h
  · exact absurd h h2
  · exact h.2

theorem comp_core (cs : CompSc J scope vars) (hturn : TurnIs (.ListComp elt (⟨tgt, iter, ifs, 0⟩ :: gs) scope pos) 0 tgt iter ifs tree) (ht : SAL (Jc J scope vars) tgt g) (hts : TsOk (Jc J scope vars) ifs t) (hem : EmOk (Jc J scope vars) tree em)
    {A : Around} {env : Env} {P : Avd} {O : Nat → Option Addr} {vm : Str → Option Value} {s s₂ : Shared} {ρ ρ' : Rho} {ds ys : List D} {I : Addr} {wr : List Addr} {St : Nat → Heap → Prop} (hA : Room A J.k) (F : FrV J.cx J.sc J.tab env P O vm s ρ) (X : Ext s s₂)
    (wk : Wk J.cx A tgt I wr s₂.heap.objs.size ds (Av env P O) St) (st : St 0 s₂.heap) (hwr : ∀ b ∈ wr, s.heap.objs.size ≤ b ∧ b < s₂.heap.objs.size)
    (h : loopC g t em ds (rhoC vars ρ) = some (ys, ρ')) (hz : ys.length ≤ sizeLine)
    {R : Value → Env → Shared → Prop} (hR : ∀ a (cenv : Env) s' vs n m, a ≠ cenv.locals → s.heap.objs.size ≤ a → s.heap.objs.size ≤ cenv.locals → s'.heap.Ns cenv.locals m → s'.heap.get? a = some { cls := .type "list", data := .seq vs n } → vs.size ≤ sizeLine →
      RdAll J.cx s'.heap (fun b => Av env P O b ∨ b = a ∨ b = cenv.locals) ys vs.toList → Ext s s' → R (.ref a) cenv s') :
    W J.cx.prog J.cx.w A (newList []) (fun acc s₃ => W J.cx.prog J.cx.w A (newFunctionEnv scope env.globals (clRev env.cells scope.names []) [] env.qual none .none (some env)) (fun cenv s₄ =>
      C J.cx.prog J.cx.w A (.compStart (.ListComp elt (⟨tgt, iter, ifs, 0⟩ :: gs) scope pos) 0 (.ref I) acc { cenv with scope := relabel scope env }) (fun _ s' => R acc cenv s') s₄) s₃) s₂ := by
  refine W.of_any (wpAny_newList (W.of_any (wpAny_newFunctionEnv cs.noCell (by intro y hy; simp at hy) (fun h₁ hns₁ hsb₁ => ?_) cs.kind)) (by simp))
  dsimp only at hns₁ hsb₁ ⊢
  generalize hH2 : s₂.heap.push { cls := .type "list", dict := none, data := .seq ([] : List Value).toArray } = H2 at hns₁ hsb₁ ⊢
  have hC : H2.objs.size = s₂.heap.objs.size + 1 := by rw [← hH2, Heap.size_push]
  have hDC : s₂.heap.objs.size ≠ H2.objs.size := by rw [hC]; exact Nat.ne_of_lt (Nat.lt_succ_self _)
  have hCle : s₂.heap.objs.size ≤ H2.objs.size := by rw [hC]; exact Nat.le_succ _
  have below : ∀ b, b < s₂.heap.objs.size → b ≠ H2.objs.size ∧ b ≠ s₂.heap.objs.size := fun b hb => ⟨by rw [hC]; exact Nat.ne_of_lt (Nat.lt_succ_of_lt hb), Nat.ne_of_lt hb⟩
  have old : ∀ b o, s₂.heap.get? b = some o → h₁.get? b = some o := fun b o e => hsb₁.extBut b o (below b (Heap.lt_size e)).1 (Heap.get?_push_of_some _ (hH2 ▸ Heap.get?_push_of_some _ e))
  have hacc : h₁.get? s₂.heap.objs.size = some { cls := .type "list", data := .seq #[] 0 } := hsb₁.extBut _ _ hDC (Heap.get?_push_of_some _ (hH2 ▸ Heap.get?_push_size _ rfl))
  have hh₁ : h₁.objs.size = s₂.heap.objs.size + 2 := by rw [hsb₁.1, Heap.size_push, hC]
  generalize hs4 : ({ s₂ with heap := h₁, toks := s₂.toks + ([] : List (Str × Value)).length } : Shared) = s₄
  have hs4h : s₄.heap = h₁ := by rw [← hs4]
  have hs4s : s₄.heap.objs.size = s₂.heap.objs.size + 2 := by rw [hs4h, hh₁]
  have X24 : Ext s₂ s₄ := ⟨by rw [← hs4], by rw [← hs4], by rw [hs4s]; exact Nat.le_add_right _ _, fun b o e => by rw [hs4h]; exact old b o e⟩
  have X4 := X.trans X24
  have hsle := X.size
  have hL : s.heap.objs.size ≤ H2.objs.size := Nat.le_trans hsle hCle
  have hns4 : s₄.heap.Ns H2.objs.size fun _ => none := by rw [hs4h]; exact hns₁
  generalize hce : ({ newEnv scope H2.objs.size env.globals (clRev env.cells scope.names []) env.qual none .none (some env) builtinsNs with scope := relabel scope env } : Env) = cenv'
  have el : cenv'.locals = H2.objs.size := by rw [← hce]; rfl
  have ec : cenv'.cells = clRev env.cells scope.names [] := by rw [← hce]; rfl
  have es : cenv'.scope = relab scope J.sc := by rw [← hce, ← F.scope]; rfl
  have hclF := F.closure cs
  have hcells : ∀ x c, cenv'.cells.lookup x = some c → env.cells.lookup x = some c := fun x c h => by
    rw [ec] at h
    rcases clRev_mem hclF (lookup_mem' h) with h | h
    · exact nomatch h
    · exact h.2
  have hcellLt : ∀ x c, cenv'.cells.lookup x = some c → c < s.heap.objs.size := fun x c h => (F.fresh c (.inr (.inr ⟨x, hcells x c h⟩))).2
  have hbase := F.baseOf
  obtain ⟨vm', F'⟩ := FrV.comp (P' := fun b => Av env P O b ∨ b ∈ wr ∨ b = s₂.heap.objs.size) cs F X4 (cenv := cenv') es (by rw [← hce]; rfl) (by rw [← hce]; rfl) ec (by rw [el]; exact hL) (by rw [el]; exact hns4)
    (fun a ha => by
      rcases ha with ha | ha | ha
      · exact .inl ha
      · exact .inr (hwr a ha).1
      · exact .inr (by rw [ha]; exact hsle))
    (fun a ha => by
      rw [hs4s]
      rcases ha with ha | ha | ha
      · exact Nat.lt_of_lt_of_le (F.avLt ha) (Nat.le_trans hsle (Nat.le_add_right _ _))
      · exact Nat.lt_of_lt_of_le (hwr a ha).2 (Nat.le_add_right _ _)
      · rw [ha]; exact Nat.lt_add_of_pos_right (by decide))
  have hAcc : Acc J.cx cenv' (fun b => Av env P O b ∨ b ∈ wr ∨ b = s₂.heap.objs.size) noO s₂.heap.objs.size [] s₄ := ⟨⟨#[], 0, by rw [hs4h]; exact hacc, RdAll.nil⟩, .inr (.inr rfl), Nat.le_trans hbase.1 hsle, by rw [el]; exact hDC, fun x e => Nat.lt_irrefl _ (Nat.lt_of_lt_of_le (hcellLt x _ e) hsle)⟩
  have hloop : C J.cx.prog J.cx.w A (.compLoop (.ListComp elt (⟨tgt, iter, ifs, 0⟩ :: gs) scope pos) 0 (.ref I) (.ref s₂.heap.objs.size) cenv') (fun _ s' => R (.ref s₂.heap.objs.size) (newEnv scope H2.objs.size env.globals (clRev env.cells scope.names []) env.qual none .none (some env) builtinsNs) s') s₄ := by
    refine C.mono (comp_loop (c := fun it acc env => .compLoop (.ListComp elt (⟨tgt, iter, ifs, 0⟩ :: gs) scope pos) 0 it acc env) hturn (fun _ _ _ => rfl) (fun _ _ _ => rfl) (fun _ _ _ => rfl) (fun _ _ _ _ => rfl) ht hts hem hA F' hAcc (by simpa using hz) h wk
      (wk.frame _ _ _ st fun b o _ _ e => X24.keep b o e) (fun b hb => .inr (.inl hb)) (fun b hb => Nat.le_trans hbase.1 (hwr b hb).1) ?_ (fun hm => Nat.lt_irrefl _ (hwr _ hm).2) X24.size ?_ ?_) ?_
    · intro b hb hm
      rcases hm with ⟨j, hj⟩ | hm | ⟨x, hx⟩
      · cases hj
      · rw [el] at hm; exact (below b (hwr b hb).2).1 hm
      · exact Nat.lt_irrefl _ (Nat.lt_of_lt_of_le (hcellLt x b hx) (hwr b hb).1)
    · intro b hb
      rcases hb with (hb | hb | hb) | ⟨j, hj⟩ | hb | ⟨x, hx⟩
      · exact .inl hb
      · exact .inr (.inl hb)
      · exact .inr (.inr (by rw [hb]; exact Nat.le_refl _))
      · cases hj
      · exact .inr (.inr (by rw [hb, el]; exact hCle))
      · exact .inl (.inr (.inr (.inr ⟨x, hcells x b hx⟩)))
    · intro b hb
      rcases hb with hb | ⟨j, hj⟩ | hb | ⟨x, hx⟩
      · exact .inr (by rw [hb]; exact Nat.le_refl _)
      · cases hj
      · exact .inr (by rw [hb, el]; exact hCle)
      · exact .inl (.inr (.inr (.inr ⟨x, hcells x b hx⟩)))
    · intro _ s' ⟨O', vm'', F'', acc'', T''⟩
      rw [List.nil_append] at acc''
      obtain ⟨vs, n, ho, hr, hl⟩ := acc''.length
      obtain ⟨m, hm, _⟩ := F''.ns
      rw [el] at hm
      refine hR s₂.heap.objs.size (newEnv scope H2.objs.size env.globals (clRev env.cells scope.names []) env.qual none .none (some env) builtinsNs) s' vs n m hDC hsle hL hm ho (by rw [hl]; exact hz) (hr.weak fun b hb => ?_) ?_
      · rcases hb with hb | hb | hb
        · exact .inl (.inl hb)
        · exact .inl (.inr (.inr hb))
        · exact .inr (.inr (.inl (by rw [el]; exact hb)))
      · refine ⟨T''.gens.trans X4.gens, T''.os.trans X4.os, Nat.le_trans X4.size T''.size, fun b o e => T''.keep b o (fun hm => ?_) (fun hm => ?_) (X4.keep b o e)⟩
        · have hlt := Heap.lt_size e
          rcases List.mem_cons.mp hm with hm | hm
          · exact Nat.lt_irrefl _ (Nat.lt_of_lt_of_le hlt (by rw [hm]; exact hsle))
          · exact Nat.lt_irrefl _ (Nat.lt_of_lt_of_le hlt (hwr b hm).1)
        · have hlt := Heap.lt_size e
          rcases hm with ⟨j, hj⟩ | hm
          · cases hj
          · exact Nat.lt_irrefl _ (Nat.lt_of_lt_of_le hlt (by rw [hm, el]; exact hL))
  exact C.compStart rfl rfl rfl (fun _ => rfl) (fun _ => rfl) (wk.self 0 s₄ (wk.frame _ _ _ st fun b o _ _ e => X24.keep b o e)) hloop

theorem CompSc.locals (cs : CompSc J scope vars) : ∀ x ∈ scope.names, x.2 = .local → scope.names.lookup x.1 = some .local := fun x hx e => lookup_of_mem_nodup cs.nodup (by rw [← e]; exact hx)

theorem sef_comp {f : Rho → Option (List D)} (cs : CompSc J scope vars) (hturn : TurnIs (.ListComp elt (⟨tgt, iter, ifs, 0⟩ :: gs) scope pos) 0 tgt iter ifs tree) (hi : SI J tgt iter f) (ht : SAL (Jc J scope vars) tgt g) (hts : TsOk (Jc J scope vars) ifs t) (hem : EmOk (Jc J scope vars) tree em) :
    SEF J (.ListComp elt (⟨tgt, iter, ifs, 0⟩ :: gs) scope pos) (compF vars f g t em) := fun A env P O vm s ρ ys hA F h => by
  unfold compF at h
  rw [Option.bind_eq_some_iff] at h
  obtain ⟨ds, hds, h⟩ := h
  rw [Option.bind_eq_some_iff] at h
  obtain ⟨⟨ys', ρ'⟩, hl, h⟩ := h
  split at h
  · rename_i hz
    cases h
    rw [eval_ListComp]
    refine W.comprehension (use := none) rfl (closure_ok (F.closure cs)) cs.kind cs.locals (W.mono (hi A env P O vm s ρ ds hA F hds) fun x s₁ ⟨hf, h₁⟩ => ⟨hf, W.mono h₁ fun it s₂ ⟨X, _, I, wr, St, e, wk, st, hwr⟩ => ?_⟩)
    subst e
    refine comp_core cs hturn ht hts hem hA F X wk st hwr hl hz (R := fun acc cenv s' => useQ J.cx.prog J.cx.w A none _ acc cenv.locals s') fun a cenv s' vs n m hac ha hc hn ho hvz hr X' => ?_
    refine ⟨m, hn, fun h' hs => ?_⟩
    have hk : ∀ b o, b ≠ cenv.locals → s'.heap.get? b = some o → h'.get? b = some o := fun b o hb e => hs.extBut b o hb e
    refine ⟨X'.over hs hc, a, vs, n, rfl, ha, hk a _ hac ho, hvz, hr.mono (fun b o hb e => hk b o (fun e' => hb (.inr (.inr e'))) e) fun b hb => .inl (hb.imp id .inl)⟩
  · cases h

noncomputable def listF (f : Rho → Option (List D)) : Rho → Option D := fun ρ => (f ρ).map .list
theorem SEF.se {e : PySem.Expr} {f : Rho → Option (List D)} (h : SEF J e f) : SE J e (listF f) := fun A env P O vm s ρ d hA F hd => by
  unfold listF at hd
  rw [Option.map_eq_some_iff] at hd
  obtain ⟨ds, hds, hd⟩ := hd
  subst hd
  refine W.mono (h A env P O vm s ρ ds hA F hds) fun v s₁ ⟨X, a, vs, n, e1, e2, e3, e4, e5⟩ => ⟨X, ?_⟩
  rw [Rd]
  exact ⟨a, vs, n, e1, e3, F.new e2, e4, e5.weak fun b hb => .inl hb⟩

/-- the comprehension's list is bound ahead of the end of its names -/
theorem used_comp {f : Rho → Option (List D)} (cs : CompSc J scope vars) (hturn : TurnIs (.ListComp elt (⟨tgt, iter, ifs, 0⟩ :: gs) scope pos) 0 tgt iter ifs tree) (hi : SI J tgt iter f) (ht : SAL (Jc J scope vars) tgt g) (hts : TsOk (Jc J scope vars) ifs t) (hem : EmOk (Jc J scope vars) tree em)
    {y : Str} {py spos : Pos} {i : Nat} (hsw : ∀ env : Env, env.scope = J.sc → swapsWith (.ListComp elt (⟨tgt, iter, ifs, 0⟩ :: gs) scope pos) (some (.Name y py)) spos.line env = pure true)
    (hty : J.tab[i]? = some (some y)) (hly : J.sc.names.lookup y ≠ some .free) :
    S1 J (.Assign [.Name y py] (.ListComp elt (⟨tgt, iter, ifs, 0⟩ :: gs) scope pos) spos) (fun ρ => (compF vars f g t em ρ).map fun ys => (.next, ρ.set i (.val (.list ys)))) := fun A env P O vm s ρ out ρ' hA F h => by
  rw [Option.map_eq_some_iff] at h
  obtain ⟨ys, h, he⟩ := h
  cases he
  unfold compF at h
  rw [Option.bind_eq_some_iff] at h
  obtain ⟨ds, hds, h⟩ := h
  rw [Option.bind_eq_some_iff] at h
  obtain ⟨⟨ys', ρ'⟩, hl, h⟩ := h
  split at h
  · rename_i hz
    cases h
    rw [exec_Assign_Name_used _ _ _ _ (hsw env F.scope)]
    refine W.bind (W.standAt (W.bind ?_))
    show W _ _ A (do let _ ← comprehension (.ListComp elt (⟨tgt, iter, ifs, 0⟩ :: gs) scope pos) scope env _ (newList []) false (eval iter env) (some (assign (.Name y py) env))) _ s
    refine W.bind (W.comprehension (use := some (assign (.Name y py) env)) rfl (closure_ok (F.closure cs)) cs.kind cs.locals (W.mono (hi A env P O vm s ρ ds hA F hds) fun x s₁ ⟨hf, h₁⟩ => ⟨hf, W.mono h₁ fun it s₂ ⟨X, _, I, wr, St, e, wk, st, hwr⟩ => ?_⟩))
    subst e
    refine comp_core cs hturn ht hts hem hA F X wk st hwr hl hz (R := fun acc cenv s' => useQ J.cx.prog J.cx.w A (some (assign (.Name y py) env)) _ acc cenv.locals s') fun a cenv s' vs n m hac ha hc hn ho hvz hr X' => ?_
    show W _ _ A (do standAt py; bindName env y (.ref a)) _ s'
    refine W.bind (W.standAt ?_)
    unfold bindName
    refine W.bind (W.holding (W.point (W.bind ?_)))
    have F1 : FrV J.cx J.sc J.tab env (fun b => P b ∨ b = cenv.locals) O vm s' ρ := F.moreP X' fun b hb => hb.imp id fun e => by rw [e]; exact ⟨hc, hn.lt⟩
    have hrr : RdAll J.cx s'.heap (fun b => Av env (fun b => P b ∨ b = cenv.locals) O b ∨ b = a) ys' vs.toList := hr.weak fun b hb => by
      rcases hb with ((hb | hb) | hb) | hb
      · exact .inl (.inl hb)
      · exact .inr (.inr hb)
      · exact .inl (.inr hb)
      · exact .inr (.inl hb)
    have hnm : ¬ muts env O cenv.locals := fun hm => Nat.lt_irrefl _ (Nat.lt_of_lt_of_le (F.fresh _ hm).2 hc)
    have fin : ∀ (O' : Nat → Option Addr) (vm' : Str → Option Value) (ρ' : Rho) (s₄ : Shared), FrV J.cx J.sc J.tab env (fun b => P b ∨ b = cenv.locals) O' vm' s₄ ρ' → Tr env O s O' s₄ → ¬ muts env O' cenv.locals → s₄.heap.Ns cenv.locals m → 
        ∃ m, s₄.heap.Ns cenv.locals m ∧ ∀ h', Heap.SameBut cenv.locals s₄.heap h' → (fun (_ : Value) s₅ => W J.cx.prog J.cx.w A (pure PUnit.unit) (fun _ s₆ => W J.cx.prog J.cx.w A (pure Flow.next) (Post J env P O s .next ρ') s₆) s₅) .none { s₄ with heap := h' } := fun O' vm' ρ' s₄ F' T' hnm' hn' => by
      refine ⟨m, hn', fun h' hs' => W.pure (W.pure ⟨rfl, O', vm', ?_, ?_⟩)⟩
      · have hchg : Chg [cenv.locals] s₄ { s₄ with heap := h' } := ⟨rfl, rfl, Nat.le_of_eq hs'.1.symm, fun b o hb e => hs'.extBut b o (by simpa using hb) e⟩
        refine (F'.chg hchg (fun b hb => ?_) (fun b hb => ?_) (fun b hb => ?_)).lessP fun b hb => .inl hb
        · simp at hb; exact .inr hb
        · simp at hb; rw [hb]; exact Nat.le_trans F.baseOf.1 hc
        · simp at hb; rw [hb]; exact hnm'
      · exact ⟨T'.gens, T'.os, by show _ ≤ h'.objs.size; rw [hs'.1]; exact T'.size, fun b o hb e => hs'.extBut b o (fun e' => Nat.lt_irrefl _ (Nat.lt_of_lt_of_le (Heap.lt_size e) (e' ▸ hc))) (T'.keep b o hb e), T'.own⟩
    refine F1.store hty (fun e => hly e) (d := .list ys') ?_ fun s₄ F' T' => ?_
    · rw [Rd]
      refine ⟨a, vs, n, rfl, ho, ?_, hvz, hrr.weak fun b hb => .inl hb⟩
      rintro ((hb | hb) | hb)
      · exact F.new ha (.inl hb)
      · exact hac hb
      · exact F.new ha (.inr hb)
    · refine W.point (fin _ _ _ s₄ F' (X'.tr.trans T') (fun hm => hnm (hm.imp (fun ⟨j, hj⟩ => ⟨j, (off_some hj).2⟩) id)) ?_)
      exact hn.at' fun o e => T'.keep _ o hnm e
  · cases h
end
end Mine

end
section
open PySem PySem.W PySem.Calls PyProof.Rows
set_option Elab.async false
set_option maxRecDepth 100000
namespace Mine

noncomputable abbrev lastT (elt : PySem.Expr) : Value → Env → Sem Unit := fun acc env => do let _ ← PySem.call (.builtin "list.append") [acc, ← eval elt env]
theorem turn_one {elt tgt iter : PySem.Expr} {ifs : List PySem.Expr} {scope : Scope} {pos : Pos} : TurnIs (.ListComp elt [⟨tgt, iter, ifs, 0⟩] scope pos) 0 tgt iter ifs (lastT elt) := fun it acc env => ⟨fun x => do noteFrame x env; theTreesLotGoes x, by
  show (compTurn (.ListComp elt [⟨tgt, iter, ifs, 0⟩] scope pos) 0 it acc env).onRaise _ = _
  congr 1⟩

end Mine

end
section
open PySem PySem.W PySem.Calls PyProof.Rows
set_option Elab.async false
set_option maxRecDepth 100000
namespace Mine

noncomputable def ownsTup (n : String) : Bool := ["enumerate", "zip", "dict_itemiterator", "dict_reverseitemiterator", "odict_iterator", "itertools.zip_longest", "itertools.pairwise"].contains n

theorem go_skip {prog : Program} {w : World} {A : Around} {s : Shared} {tgt : PySem.Expr} {I : Addr} {v : Value} {o : Obj} {n : String} {Q : Unit → Shared → Prop} (ho : s.heap.get? I = some o) (hc : o.cls = .type n) (hn : ownsTup n = false) (h : Q () s) :
    W prog w A (letOwnedTupleGo tgt (.ref I) v) Q s := by
  refine W.of_any ?_
  unfold letOwnedTupleGo
  have fin : ∀ a, wpAny (model prog w) A (do
      let o ← load I
      match o.cls, o.data with
      | .type n, .fields vs =>
        if ["enumerate", "zip", "dict_itemiterator", "dict_reverseitemiterator", "odict_iterator", "itertools.zip_longest", "itertools.pairwise"].contains n && vs[0]? == some (rawInt a) then
          rule "for.unpacks-the-owned-tuple"
          updateField I 0 .none
      | _, _ => pure () : Sem Unit) Q (fun _ _ => False) s := fun a => by
    refine wpAny_bind (wpAny_load ho ?_)
    rw [hc]
    split
    · rename_i n' vs e1 e2
      cases e1
      rw [if_neg]
      · exact wpAny_pure h
      · intro hh
        have : ownsTup n = true := (Bool.and_eq_true_iff.mp hh).1
        rw [hn] at this
        cases this
    · exact wpAny_pure h
  cases tgt <;> first | exact wpAny_pure h | (cases v <;> first | exact wpAny_pure h | exact fin _)

noncomputable abbrev Vinf (U : Avd) (wr : List Addr) (N : Nat) : Avd := fun a => U a ∨ a ∈ wr ∨ N ≤ a

theorem Wk.of {cx : Cx} {A : Around} {tgt : PySem.Expr} {I : Addr} {fp wr : List Addr} {N n : Nat} {ds : List D} {U : Avd} {Pv : Nat → Value → Prop} {St0 : Nat → Heap → Prop} (Wl : Walks cx.prog cx.w A I fp wr n Pv St0) (hn : ds.length = n) (hfp : ∀ b ∈ fp, ¬ U b ∧ b < N)
    (Dt : Heap → Prop) (hDt : ∀ h h', Dt h → (∀ a o, ¬ Vinf U wr N a → h.get? a = some o → h'.get? a = some o) → Dt h') (hrd : ∀ h (i : Nat) v d, Dt h → Pv i v → ds[i]? = some d → Rd cx h (Vinf U wr N) d v)
    (hcls : ∀ i h, St0 i h → ∃ o nm, h.get? I = some o ∧ o.cls = .type nm ∧ ownsTup nm = false) : Wk cx A tgt I wr N ds U (fun i h => St0 i h ∧ Dt h) where
  frame := fun i h h' st hk => ⟨Wl.frame i h h' st.1 fun b hb o e => hk b o (hfp b hb).1 (hfp b hb).2 e, hDt h h' st.2 fun a o ha e => hk a o (fun h => ha (.inl h)) (Nat.lt_of_not_le fun h => ha (.inr (.inr h))) e⟩
  item := fun i d s V Q hd st hb hV hQ => by
    have hi : i < n := by
      rw [← hn]
      rcases Nat.lt_or_ge i ds.length with h | h
      · exact h
      · rw [List.getElem?_eq_none h] at hd; cases hd
    refine W.of_anyS (Wl.item i s _ _ hi st.1 fun v h' tk hP hst hk hsz => ⟨v, rfl, ?_⟩)
    obtain ⟨o, nm, ho, hc, hnm⟩ := hcls _ _ hst
    have hdt : Dt h' := hDt _ _ st.2 fun a o ha e => hk a o (fun h => ha (.inr (.inl h))) e
    exact go_skip ho hc hnm (hQ v _ ⟨rfl, rfl, hsz, hk⟩ ((hrd h' i v d hdt hP hd).weak fun a ha => (hV a ha).1) ⟨hst, hdt⟩)
  done := fun s Q st hb hQ => W.of_anyS (Wl.done s _ _ (hn ▸ st.1) fun h' tk hk hsz => ⟨rfl, hQ _ ⟨rfl, rfl, hsz, hk⟩⟩)
  self := fun i s st => W.of_any (Wl.self i s _ _ st.1 ⟨rfl, rfl⟩)

noncomputable def notSetE : PySem.Expr → Bool
  | .Set .. => false
  | _ => true
theorem folded_ok {e : PySem.Expr} (h : notSetE e = true) (env : Env) (x : Value) : foldedSetIterable e env x = pure x := by
  cases e <;> first | rfl | cases h

noncomputable def asList : D → Option (List D)
  | .list ds => some ds
  | _ => none
noncomputable def asTup : D → Option (List D)
  | .tup ds => some ds
  | _ => none
noncomputable def asChars : D → Option (List D)
  | .str l => some (l.map fun c => .str [c])
  | _ => none
noncomputable def itE (k : D → Option (List D)) (f : Rho → Option D) : Rho → Option (List D) := fun ρ => (f ρ).bind k

theorem si_list {J : Jd} {tgt e : PySem.Expr} {f : Rho → Option D} (he : SE J e f) (hs : notSetE e = true := by rfl) : SI J tgt e (itE asList f) := fun A env P O vm s ρ ds hA F h => by
  unfold itE at h
  rw [Option.bind_eq_some_iff] at h
  obtain ⟨d, hd, h⟩ := h
  unfold asList at h
  split at h
  · rename_i ds'
    cases h
    refine W.mono (he A env P O vm s ρ _ hA F hd) fun x s₁ ⟨X, r⟩ => ⟨folded_ok hs env x, ?_⟩
    rw [Rd] at r
    obtain ⟨l, vs, n, rfl, ho, hna, hz, hr⟩ := r
    refine W.of_any (wpAny_pyIter_list ⟨_, ho, rfl, n, rfl⟩ ?_)
    have hll := hr.length
    rw [Array.length_toList] at hll
    have hlt := Heap.lt_size ho
    have F1 := F.ext X
    have hsz : (s₁.heap.push { cls := .type "list_iterator", data := .fields #[.ref l, .int 0 0] }).objs.size = s₁.heap.objs.size + 1 := Heap.size_push ..
    have X2 : Ext s₁ { s₁ with heap := s₁.heap.push { cls := .type "list_iterator", data := .fields #[.ref l, .int 0 0] } } := Ext.push _ _
    refine ⟨X.trans X2, by rw [← hll]; exact hz, s₁.heap.objs.size, [s₁.heap.objs.size], _, rfl, Wk.of (Walks.list hA.1 s₁.heap.objs.size l (Nat.ne_of_lt hlt) vs) hll.symm ?_
      (fun h => RdAll J.cx h (Vinf (Av env P O) [s₁.heap.objs.size] (s₁.heap.push { cls := .type "list_iterator", data := .fields #[.ref l, .int 0 0] }).objs.size) ds vs.toList) (fun h h' r hk => r.mono hk fun _ x => .inl x) ?_ ?_, ⟨⟨⟨_, Heap.get?_push_size _ rfl, rfl, rfl⟩, ⟨_, Heap.get?_push_of_some _ ho, rfl, n, rfl⟩⟩, ?_⟩, ?_⟩
    · intro b hb
      rw [hsz]
      simp at hb
      rcases hb with hb | hb
      · rw [hb]; exact ⟨F1.new (Nat.le_refl _), Nat.lt_succ_self _⟩
      · rw [hb]; exact ⟨hna, Nat.lt_succ_of_lt hlt⟩
    · intro h i v d r hv hd
      obtain ⟨v', e, q⟩ := r.get hd
      rw [← Array.getElem?_toList, e] at hv
      cases hv
      exact q
    · rintro i h ⟨⟨o, h1, h2, _⟩, _⟩
      exact ⟨o, _, h1, h2, by decide⟩
    · refine hr.mono (fun a o _ e => X2.keep a o e) fun a ha => ?_
      rcases ha with ha | ha | ha
      · exact .inl ha
      · simp at ha; rw [ha]; exact .inr (get_none (Nat.le_refl _))
      · rw [hsz] at ha; exact .inr (get_none (Nat.le_of_succ_le ha))
    · intro b hb
      simp at hb
      rw [hb]
      exact ⟨X.size, by show _ < (s₁.heap.push _).objs.size; rw [hsz]; exact Nat.lt_succ_self _⟩
  · cases h
theorem si_tup {J : Jd} {tgt e : PySem.Expr} {f : Rho → Option D} (he : SE J e f) (hs : notSetE e = true := by rfl) : SI J tgt e (itE asTup f) := fun A env P O vm s ρ ds hA F h => by
  unfold itE at h
  rw [Option.bind_eq_some_iff] at h
  obtain ⟨d, hd, h⟩ := h
  unfold asTup at h
  split at h
  · rename_i ds'
    cases h
    refine W.mono (he A env P O vm s ρ _ hA F hd) fun x s₁ ⟨X, r⟩ => ⟨folded_ok hs env x, ?_⟩
    rw [Rd] at r
    obtain ⟨l, vs, n, rfl, ho, hna, hz, hr⟩ := r
    refine W.of_any (wpAny_pyIter_tuple ⟨_, ho, rfl, n, rfl⟩ ?_)
    have hll := hr.length
    rw [Array.length_toList] at hll
    have hlt := Heap.lt_size ho
    have F1 := F.ext X
    have hsz : (s₁.heap.push { cls := .type "tuple_iterator", data := .fields #[.ref l, .int 0 0] }).objs.size = s₁.heap.objs.size + 1 := Heap.size_push ..
    have X2 : Ext s₁ { s₁ with heap := s₁.heap.push { cls := .type "tuple_iterator", data := .fields #[.ref l, .int 0 0] } } := Ext.push _ _
    refine ⟨X.trans X2, by rw [← hll]; exact hz, s₁.heap.objs.size, [s₁.heap.objs.size], _, rfl, Wk.of (Walks.tuple hA.1 s₁.heap.objs.size l (Nat.ne_of_lt hlt) vs) hll.symm ?_
      (fun h => RdAll J.cx h (Vinf (Av env P O) [s₁.heap.objs.size] (s₁.heap.push { cls := .type "tuple_iterator", data := .fields #[.ref l, .int 0 0] }).objs.size) ds vs.toList) (fun h h' r hk => r.mono hk fun _ x => .inl x) ?_ ?_, ⟨⟨⟨_, Heap.get?_push_size _ rfl, rfl, rfl⟩, ⟨_, Heap.get?_push_of_some _ ho, rfl, n, rfl⟩⟩, ?_⟩, ?_⟩
    · intro b hb
      rw [hsz]
      simp at hb
      rcases hb with hb | hb
      · rw [hb]; exact ⟨F1.new (Nat.le_refl _), Nat.lt_succ_self _⟩
      · rw [hb]; exact ⟨hna, Nat.lt_succ_of_lt hlt⟩
    · intro h i v d r hv hd
      obtain ⟨v', e, q⟩ := r.get hd
      rw [← Array.getElem?_toList, e] at hv
      cases hv
      exact q
    · rintro i h ⟨⟨o, h1, h2, _⟩, _⟩
      exact ⟨o, _, h1, h2, by decide⟩
    · refine hr.mono (fun a o _ e => X2.keep a o e) fun a ha => ?_
      rcases ha with ha | ha | ha
      · exact .inl ha
      · simp at ha; rw [ha]; exact .inr (get_none (Nat.le_refl _))
      · rw [hsz] at ha; exact .inr (get_none (Nat.le_of_succ_le ha))
    · intro b hb
      simp at hb
      rw [hb]
      exact ⟨X.size, by show _ < (s₁.heap.push _).objs.size; rw [hsz]; exact Nat.lt_succ_self _⟩
  · cases h

theorem si_str {J : Jd} {tgt e : PySem.Expr} {f : Rho → Option D} (he : SE J e f) (hs : notSetE e = true := by rfl) : SI J tgt e (itE asChars f) := fun A env P O vm s ρ ds hA F h => by
  unfold itE at h
  rw [Option.bind_eq_some_iff] at h
  obtain ⟨d, hd, h⟩ := h
  unfold asChars at h
  split at h
  · rename_i l
    cases h
    refine W.mono (he A env P O vm s ρ _ hA F hd) fun x s₁ ⟨X, r⟩ => ⟨folded_ok hs env x, ?_⟩
    rw [Rd] at r
    obtain ⟨t, rfl, hcp, hz⟩ := r
    have F1 := F.ext X
    have fin : ∀ (nm : String) (o : Obj), ownsTup nm = false → Walks J.cx.prog J.cx.w A s₁.heap.objs.size [s₁.heap.objs.size] [s₁.heap.objs.size] l.toArray.size (SignAt ⟨l.toArray⟩) (fun i h => h.IsStrIter s₁.heap.objs.size nm ⟨l.toArray⟩ t i) → (s₁.heap.push o).IsStrIter s₁.heap.objs.size nm ⟨l.toArray⟩ t 0 →
        (fun (it : Value) (s₂ : Shared) => Ext s s₂ ∧ (l.map fun c => D.str [c]).length ≤ sizeLine ∧ ∃ I wr St, it = .ref I ∧
      Wk J.cx A tgt I wr s₂.heap.objs.size (l.map fun c => D.str [c]) (Av env P O) St ∧ St 0 s₂.heap ∧ (∀ b ∈ wr, s.heap.objs.size ≤ b ∧ b < s₂.heap.objs.size)) (Value.ref s₁.heap.objs.size) { s₁ with heap := s₁.heap.push o } := fun nm o hnm wl st => by
      have hsz : (s₁.heap.push o).objs.size = s₁.heap.objs.size + 1 := Heap.size_push ..
      refine ⟨X.trans (Ext.push _ _), by simpa using hz, s₁.heap.objs.size, [s₁.heap.objs.size], _, rfl, Wk.of wl (by simp) ?_ (fun _ => True) (fun _ _ _ _ => trivial) ?_ ?_, ⟨st, trivial⟩, ?_⟩
      · intro b hb
        rw [hsz]
        simp at hb
        rw [hb]; exact ⟨F1.new (Nat.le_refl _), Nat.lt_succ_self _⟩
      · intro h i v d _ ⟨c, u, hc, e⟩ hd
        subst e
        have hc' : l[i]? = some c := by simpa using hc
        rw [List.getElem?_map, hc'] at hd
        cases hd
        refine rd_str (l := [c]) (fun c' h' => ?_) (by rw [szl]; simp)
        simp at h'
        rw [h']
        exact hcp c (List.mem_of_getElem? hc')
      · rintro i h ⟨o, h1, h2, _⟩
        exact ⟨o, _, h1, h2, hnm⟩
      · intro b hb
        simp at hb
        rw [hb]
        exact ⟨X.size, by show _ < (s₁.heap.push _).objs.size; rw [hsz]; exact Nat.lt_succ_self _⟩
    refine W.of_any ?_
    cases ha : (⟨l.toArray⟩ : Str).cps.all (· < 128)
    · exact wpAny_pyIter_wide ha (fin "str_iterator" _ (by decide) (Walks.strWide hA.1 _ _ t) ⟨_, Heap.get?_push_size _ rfl, rfl, rfl⟩)
    · exact wpAny_pyIter_ascii ha (fin "str_ascii_iterator" _ (by decide) (Walks.strAscii hA.1 _ _ t) ⟨_, Heap.get?_push_size _ rfl, rfl, rfl⟩)
  · cases h
end Mine

end
section
open PySem PySem.W PySem.Calls PyProof.Rows
set_option Elab.async false
set_option maxRecDepth 100000
namespace Mine

noncomputable def theCode : Array Nat := #[14, 4, 0, 1, 4294967295, 7, 14, 17, 0, 24, 6, 1, 4294967295, 20, 91, 1, 17, 1, 15, 37, 17, 17, 2, 16, 91, 26, 5, 0, 4294967295, 2, 1, 16, 93, 17, 3, 15, 20, 18, 17, 4, 16, 91, 24, 6, 0, 4294967295, 20, 93, 1, 6, 5, 17, 5, 15, 2, 0, 1]

structure Cfg where
  T : Array Nat
  n : Nat
  start : Nat
  outer : Bool
  marks : Array (Option Nat)
  lm : Int
  li : Int
  frames : List Sre.Frame
  w : Nat
  pc : Nat
  pos : Nat
  handed : Nat
  ans : Option Bool

noncomputable def mkc (c : Cfg) (seen : Sre.Seen) : Sre.M :=
  { code := theCode, text := c.T, lim := c.n, start := c.start, lastStart := c.n, pc := c.pc, pos := c.pos, handed := c.handed, outermost := c.outer, marks := c.marks, lastmark := c.lm, lastindex := c.li, frames := c.frames, weight := c.w, answer := c.ans, seen := seen }

noncomputable def iter : Nat → Sre.M → Sre.M
  | 0, m => m
  | k + 1, m => iter k m.step
theorem iter_add (a b : Nat) (m : Sre.M) : iter (a + b) m = iter b (iter a m) := by
  induction a generalizing m with
  | zero => rw [Nat.zero_add]; rfl
  | succ a ih => rw [Nat.succ_add]; exact ih m.step

noncomputable def Go (k : Nat) (c c' : Cfg) : Prop := ∀ seen, ∃ seen', iter k (mkc c seen) = mkc c' seen'
theorem Go.trans {a b : Nat} {c c' c'' : Cfg} (x : Go a c c') (y : Go b c' c'') : Go (a + b) c c'' := fun seen => by
  obtain ⟨s1, e1⟩ := x seen
  obtain ⟨s2, e2⟩ := y s1
  exact ⟨s2, by rw [iter_add, e1, e2]⟩
theorem Go.refl (c : Cfg) : Go 0 c c := fun seen => ⟨seen, rfl⟩

noncomputable def kept0 (lm li : Int) : Sre.Kept := { lastmark := lm, lastindex := li, whole := false, marks := #[] }


theorem step_exec (c : Cfg) (seen : Sre.Seen) (h : c.ans = none) (hpc : c.pc < 57) : (mkc c seen).step = (mkc c seen).exec := by
  unfold Sre.M.step
  have h1 : (mkc c seen).outcome.isSome = false := rfl
  have h2 : (mkc c seen).answer = none := h
  have h3 : (mkc c seen).pc < (mkc c seen).code.size := hpc
  rw [if_neg (by rw [h1]; decide), h2]
  simp only
  rw [if_pos h3]
theorem exec_mark (m : Sre.M) (h : Sre.ops[m.word 0]? = some .MARK) : m.exec = ({ m with seen := m.seen.add (m.word 0) } : Sre.M).mark (m.word 1) := by
  unfold Sre.M.exec; rw [h]; rfl
theorem mark4_eq (m : Sre.M) (h : m.lastmark = -1) : m.mark 4 = { m with marks := ((((m.marks.setIfInBounds 0 none).setIfInBounds 1 none).setIfInBounds 2 none).setIfInBounds 3 none).setIfInBounds 4 (some m.pos), lastmark := 4, pc := m.pc + 2 } := by
  unfold Sre.M.mark
  rw [h]
  simp [List.range_succ]
  decide
theorem exec_jump (m : Sre.M) (h : Sre.ops[m.word 0]? = some .JUMP) : m.exec = { m with seen := m.seen.add (m.word 0), pc := m.pc + 1 + m.word 1 } := by
  unfold Sre.M.exec; rw [h]; rfl
theorem exec_succ (m : Sre.M) (h : Sre.ops[m.word 0]? = some .SUCCESS) (hw : m.wholeText = false) (hm : m.mustAdvance = false) : m.exec = { m with seen := m.seen.add (m.word 0), handed := m.pos, answer := some true } := by
  unfold Sre.M.exec; rw [h]; simp [hw, hm]; rfl
theorem exec_lit (m : Sre.M) (h : Sre.ops[m.word 0]? = some .LITERAL) : m.exec = if m.pos ≥ m.lim then { m with seen := m.seen.add (m.word 0), answer := some false } else
    if m.text.getD m.pos 0 == m.word 1 then { m with seen := m.seen.add (m.word 0), pc := m.pc + 2, pos := m.pos + 1 } else { m with seen := m.seen.add (m.word 0), answer := some false } := by
  have ha : ∀ c seen, Sre.accepts m.code m.pc c seen = .ok (c == m.word 1, seen) := fun c seen => by
    unfold Sre.accepts
    have : Sre.ops[m.code.getD m.pc 0]? = some .LITERAL := h
    rw [this]; rfl
  have hi : Sre.itemWidth m.code m.pc = 2 := by
    unfold Sre.itemWidth
    have : Sre.ops[m.code.getD m.pc 0]? = some .LITERAL := h
    rw [this]
  unfold Sre.M.exec; rw [h]; simp only [ha, hi]
  split
  · rfl
  · cases m.text.getD m.pos 0 == m.word 1 <;> rfl
theorem exec_at (m : Sre.M) (h : Sre.ops[m.word 0]? = some .AT) (h1 : m.word 1 = 5) : m.exec = if m.pos == m.lim || (m.pos + 1 == m.lim && m.text.getD m.pos 0 == 10) then { m with seen := (m.seen.add (m.word 0)).add 48, pc := m.pc + 2 } else { m with seen := (m.seen.add (m.word 0)).add 48, answer := some false } := by
  have ha : ∀ s, ({ m with seen := s } : Sre.M).isAt 5 = .ok (m.pos == m.lim || (m.pos + 1 == m.lim && m.text.getD m.pos 0 == 10)) := fun s => rfl
  have hw : ∀ s, ({ m with seen := s } : Sre.M).word 1 = 5 := fun s => h1
  unfold Sre.M.exec; rw [h]; simp only [hw, ha]
  split <;> rfl
section
variable (T : Array Nat) (n st : Nat) (o : Bool) (mk : Array (Option Nat)) (lm li : Int) (fs : List Sre.Frame) (w pos hd : Nat)

theorem go_branch (hw : w + 1 ≤ 1000) : Go 1 ⟨T, n, st, o, mk, lm, li, fs, w, 5, pos, hd, none⟩ ⟨T, n, st, o, mk, lm, li, { wait := .nextBranch, pc := 6, pos := pos, outermost := o, kept := kept0 lm li } :: fs, w + 1, 7, pos, pos, none⟩ := fun seen => ⟨_, by
  show Sre.M.attempt _ _ _ _ _ = _
  unfold Sre.M.attempt
  rw [if_neg (by show ¬ (w + 1 + 0 > 16777216); omega)]
  rfl⟩

theorem go_alt {f : Sre.Frame} (alt : Nat) (tgt : Nat) (hn : alt + theCode.getD alt 0 = tgt) (hz : (theCode.getD tgt 0 == 0) = false) (hw : w + 1 ≤ 1000) (hf : f = { wait := .nextBranch, pc := alt, pos := pos, outermost := o, kept := kept0 (-1) (-1) }) {pc pos' : Nat} {o' : Bool} :
    Go 1 ⟨T, n, st, o', mk, lm, li, f :: fs, w + 1, pc, pos', hd, some false⟩ ⟨T, n, st, o, mk, -1, -1, { wait := .nextBranch, pc := tgt, pos := pos, outermost := o, kept := kept0 (-1) (-1) } :: fs, w + 1, tgt + 1, pos, pos, none⟩ := fun seen => ⟨seen, by
  subst hf
  subst hn
  show Sre.M.alternative _ _ _ = _
  unfold Sre.M.alternative
  rw [if_neg (by show ¬ ((theCode.getD (alt + theCode.getD alt 0) 0 == 0) = true); rw [hz]; decide)]
  unfold Sre.M.attempt
  rw [if_neg (by show ¬ (w + 1 - (1 + 0) + 1 + 0 > 16777216); omega)]
  rfl⟩

theorem go_altEnd {f : Sre.Frame} (hf : f = { wait := .nextBranch, pc := 37, pos := pos, outermost := o, kept := kept0 (-1) (-1) }) {pc pos' : Nat} {o' : Bool} :
    Go 1 ⟨T, n, st, o', mk, lm, li, f :: fs, w + 1, pc, pos', hd, some false⟩ ⟨T, n, st, o, mk, -1, -1, fs, w, 37, pos, hd, some false⟩ := fun seen => ⟨seen, by
  subst hf
  rfl⟩
theorem go_jump18 : Go 1 ⟨T, n, st, o, mk, lm, li, fs, w, 18, pos, hd, none⟩ ⟨T, n, st, o, mk, lm, li, fs, w, 56, pos, hd, none⟩ := fun seen => ⟨seen.add 15, by
  show (mkc ⟨T, n, st, o, mk, lm, li, fs, w, 18, pos, hd, none⟩ seen).step = _
  rw [step_exec _ _ rfl (by show (18 : Nat) < 57; decide), exec_jump _ (by rfl)]
  rfl⟩
theorem go_jump35 : Go 1 ⟨T, n, st, o, mk, lm, li, fs, w, 35, pos, hd, none⟩ ⟨T, n, st, o, mk, lm, li, fs, w, 56, pos, hd, none⟩ := fun seen => ⟨seen.add 15, by
  show (mkc ⟨T, n, st, o, mk, lm, li, fs, w, 35, pos, hd, none⟩ seen).step = _
  rw [step_exec _ _ rfl (by show (35 : Nat) < 57; decide), exec_jump _ (by rfl)]
  rfl⟩
theorem go_jump53 : Go 1 ⟨T, n, st, o, mk, lm, li, fs, w, 53, pos, hd, none⟩ ⟨T, n, st, o, mk, lm, li, fs, w, 56, pos, hd, none⟩ := fun seen => ⟨seen.add 15, by
  show (mkc ⟨T, n, st, o, mk, lm, li, fs, w, 53, pos, hd, none⟩ seen).step = _
  rw [step_exec _ _ rfl (by show (53 : Nat) < 57; decide), exec_jump _ (by rfl)]
  rfl⟩
theorem go_succ : Go 1 ⟨T, n, st, o, mk, lm, li, fs, w, 56, pos, hd, none⟩ ⟨T, n, st, o, mk, lm, li, fs, w, 56, pos, pos, some true⟩ := fun seen => ⟨seen.add 1, by
  show (mkc ⟨T, n, st, o, mk, lm, li, fs, w, 56, pos, hd, none⟩ seen).step = _
  rw [step_exec _ _ rfl (by show (56 : Nat) < 57; decide), exec_succ _ (by rfl) rfl rfl]
  rfl⟩
theorem go_at (hp : pos = n) : Go 1 ⟨T, n, st, o, mk, lm, li, fs, w, 49, pos, hd, none⟩ ⟨T, n, st, o, mk, lm, li, fs, w, 51, pos, hd, none⟩ := fun seen => ⟨(seen.add 6).add 48, by
  show (mkc ⟨T, n, st, o, mk, lm, li, fs, w, 49, pos, hd, none⟩ seen).step = _
  rw [step_exec _ _ rfl (by show (49 : Nat) < 57; decide), exec_at _ (by rfl) (by rfl)]
  rw [if_pos (by show (pos == n || (pos + 1 == n && T.getD pos 0 == 10)) = true; rw [hp]; simp)]
  rfl⟩
theorem go_atNo (hp : pos ≠ n) (hc : ¬ (pos + 1 = n ∧ T.getD pos 0 = 10)) : Go 1 ⟨T, n, st, o, mk, lm, li, fs, w, 49, pos, hd, none⟩ ⟨T, n, st, o, mk, lm, li, fs, w, 49, pos, hd, some false⟩ := fun seen => ⟨(seen.add 6).add 48, by
  show (mkc ⟨T, n, st, o, mk, lm, li, fs, w, 49, pos, hd, none⟩ seen).step = _
  rw [step_exec _ _ rfl (by show (49 : Nat) < 57; decide), exec_at _ (by rfl) (by rfl)]
  rw [if_neg (by show ¬ ((pos == n || (pos + 1 == n && T.getD pos 0 == 10)) = true); rw [beq_false_of_ne hp, Bool.false_or, Bool.and_eq_true, beq_iff_eq, beq_iff_eq]; exact hc)]
  rfl⟩
theorem go_mark0 : Go 1 ⟨T, n, st, o, mk, -1, li, fs, w, 7, pos, hd, none⟩ ⟨T, n, st, o, mk.setIfInBounds 0 (some pos), 0, li, fs, w, 9, pos, hd, none⟩ := fun seen => ⟨seen.add 17, by
  show (mkc ⟨T, n, st, o, mk, -1, li, fs, w, 7, pos, hd, none⟩ seen).step = _
  rw [step_exec _ _ rfl (by show (7 : Nat) < 57; decide), exec_mark _ (by rfl)]
  show Sre.M.mark { mkc ⟨T, n, st, o, mk, -1, li, fs, w, 7, pos, hd, none⟩ seen with seen := seen.add 17 } 0 = _
  unfold Sre.M.mark
  rfl⟩
theorem go_mark1 : Go 1 ⟨T, n, st, o, mk, 0, li, fs, w, 16, pos, hd, none⟩ ⟨T, n, st, o, mk.setIfInBounds 1 (some pos), 1, 1, fs, w, 18, pos, hd, none⟩ := fun seen => ⟨seen.add 17, by
  show (mkc ⟨T, n, st, o, mk, 0, li, fs, w, 16, pos, hd, none⟩ seen).step = _
  rw [step_exec _ _ rfl (by show (16 : Nat) < 57; decide), exec_mark _ (by rfl)]
  show Sre.M.mark { mkc ⟨T, n, st, o, mk, 0, li, fs, w, 16, pos, hd, none⟩ seen with seen := seen.add 17 } 1 = _
  unfold Sre.M.mark
  rfl⟩
theorem go_mark2 : Go 1 ⟨T, n, st, o, mk, -1, li, fs, w, 21, pos, hd, none⟩ ⟨T, n, st, o, ((mk.setIfInBounds 0 none).setIfInBounds 1 none).setIfInBounds 2 (some pos), 2, li, fs, w, 23, pos, hd, none⟩ := fun seen => ⟨seen.add 17, by
  show (mkc ⟨T, n, st, o, mk, -1, li, fs, w, 21, pos, hd, none⟩ seen).step = _
  rw [step_exec _ _ rfl (by show (21 : Nat) < 57; decide), exec_mark _ (by rfl)]
  show Sre.M.mark { mkc ⟨T, n, st, o, mk, -1, li, fs, w, 21, pos, hd, none⟩ seen with seen := seen.add 17 } 2 = _
  unfold Sre.M.mark
  rfl⟩
theorem go_mark3 : Go 1 ⟨T, n, st, o, mk, 2, li, fs, w, 33, pos, hd, none⟩ ⟨T, n, st, o, mk.setIfInBounds 3 (some pos), 3, 2, fs, w, 35, pos, hd, none⟩ := fun seen => ⟨seen.add 17, by
  show (mkc ⟨T, n, st, o, mk, 2, li, fs, w, 33, pos, hd, none⟩ seen).step = _
  rw [step_exec _ _ rfl (by show (33 : Nat) < 57; decide), exec_mark _ (by rfl)]
  show Sre.M.mark { mkc ⟨T, n, st, o, mk, 2, li, fs, w, 33, pos, hd, none⟩ seen with seen := seen.add 17 } 3 = _
  unfold Sre.M.mark
  rfl⟩
theorem go_mark4 : Go 1 ⟨T, n, st, o, mk, -1, li, fs, w, 38, pos, hd, none⟩ ⟨T, n, st, o, ((((mk.setIfInBounds 0 none).setIfInBounds 1 none).setIfInBounds 2 none).setIfInBounds 3 none).setIfInBounds 4 (some pos), 4, li, fs, w, 40, pos, hd, none⟩ := fun seen => ⟨seen.add 17, by
  show (mkc ⟨T, n, st, o, mk, -1, li, fs, w, 38, pos, hd, none⟩ seen).step = _
  rw [step_exec _ _ rfl (by show (38 : Nat) < 57; decide), exec_mark _ (by rfl)]
  rw [show (mkc ⟨T, n, st, o, mk, -1, li, fs, w, 38, pos, hd, none⟩ seen).word 1 = 4 from rfl, mark4_eq _ rfl]
  rfl⟩
theorem go_mark5 : Go 1 ⟨T, n, st, o, mk, 4, li, fs, w, 51, pos, hd, none⟩ ⟨T, n, st, o, mk.setIfInBounds 5 (some pos), 5, 3, fs, w, 53, pos, hd, none⟩ := fun seen => ⟨seen.add 17, by
  show (mkc ⟨T, n, st, o, mk, 4, li, fs, w, 51, pos, hd, none⟩ seen).step = _
  rw [step_exec _ _ rfl (by show (51 : Nat) < 57; decide), exec_mark _ (by rfl)]
  show Sre.M.mark { mkc ⟨T, n, st, o, mk, 4, li, fs, w, 51, pos, hd, none⟩ seen with seen := seen.add 17 } 5 = _
  unfold Sre.M.mark
  rfl⟩
theorem go_lit23 (hp : pos < n) (hc : T.getD pos 0 = 91) : Go 1 ⟨T, n, st, o, mk, lm, li, fs, w, 23, pos, hd, none⟩ ⟨T, n, st, o, mk, lm, li, fs, w, 25, pos + 1, hd, none⟩ := fun seen => ⟨seen.add 16, by
  show (mkc ⟨T, n, st, o, mk, lm, li, fs, w, 23, pos, hd, none⟩ seen).step = _
  rw [step_exec _ _ rfl (by show (23 : Nat) < 57; decide), exec_lit _ (by rfl)]
  rw [if_neg (by show ¬ (pos ≥ n); omega), if_pos (by show (T.getD pos 0 == 91) = true; rw [hc]; rfl)]
  rfl⟩
theorem go_litNo23 (hp : ¬ (pos < n ∧ T.getD pos 0 = 91)) : Go 1 ⟨T, n, st, o, mk, lm, li, fs, w, 23, pos, hd, none⟩ ⟨T, n, st, o, mk, lm, li, fs, w, 23, pos, hd, some false⟩ := fun seen => ⟨seen.add 16, by
  show (mkc ⟨T, n, st, o, mk, lm, li, fs, w, 23, pos, hd, none⟩ seen).step = _
  rw [step_exec _ _ rfl (by show (23 : Nat) < 57; decide), exec_lit _ (by rfl)]
  by_cases hlt : pos < n
  · have hc : T.getD pos 0 ≠ 91 := fun e => hp ⟨hlt, e⟩
    rw [if_neg (by show ¬ (pos ≥ n); omega), if_neg (by show ¬ ((T.getD pos 0 == 91) = true); rw [beq_false_of_ne hc]; decide)]
    rfl
  · rw [if_pos (by show pos ≥ n; omega)]
    rfl⟩
theorem go_lit31 (hp : pos < n) (hc : T.getD pos 0 = 93) : Go 1 ⟨T, n, st, o, mk, lm, li, fs, w, 31, pos, hd, none⟩ ⟨T, n, st, o, mk, lm, li, fs, w, 33, pos + 1, hd, none⟩ := fun seen => ⟨seen.add 16, by
  show (mkc ⟨T, n, st, o, mk, lm, li, fs, w, 31, pos, hd, none⟩ seen).step = _
  rw [step_exec _ _ rfl (by show (31 : Nat) < 57; decide), exec_lit _ (by rfl)]
  rw [if_neg (by show ¬ (pos ≥ n); omega), if_pos (by show (T.getD pos 0 == 93) = true; rw [hc]; rfl)]
  rfl⟩
theorem go_litNo31 (hp : ¬ (pos < n ∧ T.getD pos 0 = 93)) : Go 1 ⟨T, n, st, o, mk, lm, li, fs, w, 31, pos, hd, none⟩ ⟨T, n, st, o, mk, lm, li, fs, w, 31, pos, hd, some false⟩ := fun seen => ⟨seen.add 16, by
  show (mkc ⟨T, n, st, o, mk, lm, li, fs, w, 31, pos, hd, none⟩ seen).step = _
  rw [step_exec _ _ rfl (by show (31 : Nat) < 57; decide), exec_lit _ (by rfl)]
  by_cases hlt : pos < n
  · have hc : T.getD pos 0 ≠ 93 := fun e => hp ⟨hlt, e⟩
    rw [if_neg (by show ¬ (pos ≥ n); omega), if_neg (by show ¬ ((T.getD pos 0 == 93) = true); rw [beq_false_of_ne hc]; decide)]
    rfl
  · rw [if_pos (by show pos ≥ n; omega)]
    rfl⟩
theorem go_lit40 (hp : pos < n) (hc : T.getD pos 0 = 91) : Go 1 ⟨T, n, st, o, mk, lm, li, fs, w, 40, pos, hd, none⟩ ⟨T, n, st, o, mk, lm, li, fs, w, 42, pos + 1, hd, none⟩ := fun seen => ⟨seen.add 16, by
  show (mkc ⟨T, n, st, o, mk, lm, li, fs, w, 40, pos, hd, none⟩ seen).step = _
  rw [step_exec _ _ rfl (by show (40 : Nat) < 57; decide), exec_lit _ (by rfl)]
  rw [if_neg (by show ¬ (pos ≥ n); omega), if_pos (by show (T.getD pos 0 == 91) = true; rw [hc]; rfl)]
  rfl⟩
theorem go_litNo40 (hp : ¬ (pos < n ∧ T.getD pos 0 = 91)) : Go 1 ⟨T, n, st, o, mk, lm, li, fs, w, 40, pos, hd, none⟩ ⟨T, n, st, o, mk, lm, li, fs, w, 40, pos, hd, some false⟩ := fun seen => ⟨seen.add 16, by
  show (mkc ⟨T, n, st, o, mk, lm, li, fs, w, 40, pos, hd, none⟩ seen).step = _
  rw [step_exec _ _ rfl (by show (40 : Nat) < 57; decide), exec_lit _ (by rfl)]
  by_cases hlt : pos < n
  · have hc : T.getD pos 0 ≠ 91 := fun e => hp ⟨hlt, e⟩
    rw [if_neg (by show ¬ (pos ≥ n); omega), if_neg (by show ¬ ((T.getD pos 0 == 91) = true); rw [beq_false_of_ne hc]; decide)]
    rfl
  · rw [if_pos (by show pos ≥ n; omega)]
    rfl⟩
end
end Mine

end
section
open PySem PySem.W PySem.Calls PyProof.Rows
set_option Elab.async false
set_option maxRecDepth 100000
namespace Mine

theorem iter1 (m : Sre.M) : iter 1 m = m.step := rfl
noncomputable def runLen (c : Nat) (T : Array Nat) : Nat → Nat → Nat
  | 0, _ => 0
  | k + 1, p => if T.getD p 0 ≠ c then runLen c T k (p + 1) + 1 else 0

theorem run_eq {code T : Array Nat} {i c : Nat} (h : ∀ x seen, Sre.accepts code i x seen = .ok (x != c, seen)) : ∀ (n p found : Nat) (seen : Sre.Seen), Sre.run code T i n p found seen = .ok (found + runLen c T n p, seen)
  | 0, _, _, _ => rfl
  | n + 1, p, found, seen => by
    rw [Sre.run, h]
    show (if (T.getD p 0 != c) = true then Sre.run code T i n (p + 1) (found + 1) seen else pure (found, seen)) = _
    rw [runLen]
    by_cases hc : T.getD p 0 = c
    · rw [if_neg (by simp only [bne_iff_ne, ne_eq, hc, not_true, not_false_eq_true]), if_neg (by simp only [ne_eq, hc, not_true, not_false_eq_true])]; rfl
    · rw [if_pos (by simp only [bne_iff_ne, ne_eq, hc, not_false_eq_true]), if_pos hc, run_eq h]
      congr 2
      omega

theorem runLen_le (c : Nat) (T : Array Nat) : ∀ n p, runLen c T n p ≤ n
  | 0, _ => Nat.le_refl _
  | n + 1, p => by
    rw [runLen]
    split
    · have := runLen_le c T n (p + 1); omega
    · omega

theorem exec_rep (m : Sre.M) (h : Sre.ops[m.word 0]? = some .REPEAT_ONE) (c : Nat) (ha : ∀ x seen, Sre.accepts m.code (m.pc + 4) x seen = .ok (x != c, seen)) (hi : m.inner = none) (hr : m.pos ≤ m.lim) (hmost : m.lim ≤ m.word 3) :
    m.exec = if m.word 2 > m.lim - m.pos then { m with seen := m.seen.add (m.word 0), answer := some false } else
      if runLen c m.text (m.lim - m.pos) m.pos < m.word 2 then { m with seen := (m.seen.add (m.word 0)).add (m.word 4), answer := some false }
      else ({ m with seen := (m.seen.add (m.word 0)).add (m.word 4), pos := m.pos + runLen c m.text (m.lim - m.pos) m.pos } : Sre.M).afterRun .giveBack (runLen c m.text (m.lim - m.pos) m.pos : Nat) (kept0 m.lastmark m.lastindex) := by
  have hroom : ((m.lim : Int) - m.pos).toNat = m.lim - m.pos := by omega
  have hmin : min (m.word 3) (m.lim - m.pos) = m.lim - m.pos := by omega
  unfold Sre.M.exec
  rw [h]
  have hw : ∀ k, ({ m with seen := m.seen.add (m.word 0) } : Sre.M).word k = m.word k := fun _ => rfl
  simp only [hw, hroom, Bool.false_eq_true, if_false, hmin, run_eq ha, Nat.zero_add]
  by_cases h2 : m.word 2 > m.lim - m.pos
  · rw [if_pos h2, if_pos (by omega)]; rfl
  · rw [if_neg h2, if_neg (by omega)]
    by_cases h3 : runLen c m.text (m.lim - m.pos) m.pos < m.word 2
    · rw [if_pos h3, if_pos h3]; rfl
    · rw [if_neg h3, if_neg h3, hi]; rfl

theorem exec_min (m : Sre.M) (h : Sre.ops[m.word 0]? = some .MIN_REPEAT_ONE) (hi : m.inner = none) (hr : m.pos ≤ m.lim) (h2 : m.word 2 = 0) :
    m.exec = ({ m with seen := (m.seen.add (m.word 0)).add (m.word 4) } : Sre.M).afterRun .takeMore 0 (kept0 m.lastmark m.lastindex) := by
  unfold Sre.M.exec
  rw [h]
  have hw : ∀ k, ({ m with seen := m.seen.add (m.word 0) } : Sre.M).word k = m.word k := fun _ => rfl
  simp only [hw, h2, if_true, Nat.zero_min]
  rw [if_neg (by omega)]
  simp only [Sre.run, Nat.lt_irrefl, if_false, Nat.add_zero, hi]
  rfl

theorem acc_not (i c : Nat) (h : Sre.ops[theCode.getD i 0]? = some .NOT_LITERAL) (hc : theCode.getD (i + 1) 0 = c) : ∀ x seen, Sre.accepts theCode i x seen = .ok (x != c, seen) := fun x seen => by
  unfold Sre.accepts
  rw [h]
  simp only [hc]
theorem acc_any (i : Nat) (h : Sre.ops[theCode.getD i 0]? = some .ANY) : ∀ x seen, Sre.accepts theCode i x seen = .ok (x != 10, seen) := fun x seen => by
  unfold Sre.accepts
  rw [h]

theorem afterRun_eq (m : Sre.M) (wait : Sre.Wait) (count : Int) (lm li : Int) (h : m.weight + 1 ≤ 1000) : m.afterRun wait count (kept0 lm li) = { m with frames := { wait := wait, pc := m.pc, pos := m.pos, outermost := m.outermost, count := count, kept := kept0 lm li } :: m.frames, weight := m.weight + 1, pc := m.pc + 1 + m.word 1, handed := m.pos } := by
  unfold Sre.M.afterRun Sre.M.attempt
  rw [if_neg (by show ¬ (m.weight + 1 + 0 > 16777216); omega)]
  rfl

section
variable (T : Array Nat) (n st : Nat) (o : Bool) (mk : Array (Option Nat)) (lm li : Int) (fs : List Sre.Frame) (w pos hd : Nat)

noncomputable abbrev fGive (pc pos : Nat) (o : Bool) (k : Int) (lm li : Int) : Sre.Frame := { wait := .giveBack, pc := pc, pos := pos, outermost := o, count := k, kept := kept0 lm li }
noncomputable abbrev fTake (pos : Nat) (o : Bool) (k : Int) (lm li : Int) : Sre.Frame := { wait := .takeMore, pc := 25, pos := pos, outermost := o, count := k, kept := kept0 lm li }
noncomputable abbrev fAlt (pc pos : Nat) (o : Bool) : Sre.Frame := { wait := .nextBranch, pc := pc, pos := pos, outermost := o, kept := kept0 (-1) (-1) }
noncomputable abbrev fStart (pos : Nat) (o : Bool) : Sre.Frame := { wait := .nextStart, pc := 5, pos := pos, outermost := o }

theorem go_rep9 (hn : n ≤ 16777216) (hp : pos < n) (hk : 0 < runLen 91 T (n - pos) pos) (hw : w + 1 ≤ 1000) :
    Go 1 ⟨T, n, st, o, mk, lm, li, fs, w, 9, pos, hd, none⟩ ⟨T, n, st, o, mk, lm, li, fGive 9 (pos + runLen 91 T (n - pos) pos) o (runLen 91 T (n - pos) pos : Nat) lm li :: fs, w + 1, 16, pos + runLen 91 T (n - pos) pos, pos + runLen 91 T (n - pos) pos, none⟩ := fun seen => ⟨(seen.add 24).add 20, by
  rw [iter1]
  rw [step_exec _ _ rfl (by show (9 : Nat) < 57; decide), exec_rep _ (by rfl) 91 (acc_not 13 91 (by rfl) (by rfl)) rfl (by show pos ≤ n; omega) (by show n ≤ 4294967295; omega)]
  rw [if_neg (by show ¬ (1 > n - pos); omega), if_neg (by show ¬ (runLen 91 T (n - pos) pos < 1); omega), afterRun_eq _ _ _ _ _ hw]
  rfl⟩
theorem go_rep9No (hn : n ≤ 16777216) (hp : pos ≤ n) (hk : runLen 91 T (n - pos) pos = 0) : ∃ k : Unit, Go 1 ⟨T, n, st, o, mk, lm, li, fs, w, 9, pos, hd, none⟩ ⟨T, n, st, o, mk, lm, li, fs, w, 9, pos, hd, some false⟩ := ⟨(), fun seen => by
  by_cases h1 : 1 > n - pos
  · refine ⟨seen.add 24, ?_⟩
    rw [iter1]
    rw [step_exec _ _ rfl (by show (9 : Nat) < 57; decide), exec_rep _ (by rfl) 91 (acc_not 13 91 (by rfl) (by rfl)) rfl (by show pos ≤ n; omega) (by show n ≤ 4294967295; omega)]
    rw [if_pos (by show 1 > n - pos; omega)]
    rfl
  · refine ⟨(seen.add 24).add 20, ?_⟩
    rw [iter1]
    rw [step_exec _ _ rfl (by show (9 : Nat) < 57; decide), exec_rep _ (by rfl) 91 (acc_not 13 91 (by rfl) (by rfl)) rfl (by show pos ≤ n; omega) (by show n ≤ 4294967295; omega)]
    rw [if_neg (by show ¬ (1 > n - pos); omega), if_pos (by show runLen 91 T (n - pos) pos < 1; omega)]
    rfl⟩
theorem go_rep42 (hn : n ≤ 16777216) (hp : pos ≤ n) (hw : w + 1 ≤ 1000) :
    Go 1 ⟨T, n, st, o, mk, lm, li, fs, w, 42, pos, hd, none⟩ ⟨T, n, st, o, mk, lm, li, fGive 42 (pos + runLen 93 T (n - pos) pos) o (runLen 93 T (n - pos) pos : Nat) lm li :: fs, w + 1, 49, pos + runLen 93 T (n - pos) pos, pos + runLen 93 T (n - pos) pos, none⟩ := fun seen => ⟨(seen.add 24).add 20, by
  rw [iter1]
  rw [step_exec _ _ rfl (by show (42 : Nat) < 57; decide), exec_rep _ (by rfl) 93 (acc_not 46 93 (by rfl) (by rfl)) rfl (by show pos ≤ n; omega) (by show n ≤ 4294967295; omega)]
  rw [if_neg (by show ¬ (0 > n - pos); omega), if_neg (by show ¬ (runLen 93 T (n - pos) pos < 0); omega), afterRun_eq _ _ _ _ _ hw]
  rfl⟩
theorem go_min25 (hp : pos ≤ n) (hw : w + 1 ≤ 1000) :
    Go 1 ⟨T, n, st, o, mk, lm, li, fs, w, 25, pos, hd, none⟩ ⟨T, n, st, o, mk, lm, li, fTake pos o 0 lm li :: fs, w + 1, 31, pos, pos, none⟩ := fun seen => ⟨(seen.add 26).add 2, by
  rw [iter1]
  rw [step_exec _ _ rfl (by show (25 : Nat) < 57; decide), exec_min _ (by rfl) rfl (by show pos ≤ n; omega) (by rfl), afterRun_eq _ _ _ _ _ hw]
  rfl⟩
/-- an answer goes through a frame -/
theorem go_yes {f : Sre.Frame} (hf : f.wait = .nextBranch ∨ f.wait = .giveBack ∨ f.wait = .takeMore ∨ f.wait = .nextStart) (hz : f.kept.marks.size = 0) {pc pos' : Nat} {o' : Bool} :
    Go 1 ⟨T, n, st, o', mk, lm, li, f :: fs, w + 1, pc, pos', hd, some true⟩ ⟨T, n, st, f.outermost, mk, lm, li, fs, w, f.pc, f.pos, hd, some true⟩ := fun seen => ⟨seen, by
  show Sre.M.resume _ f true = _
  unfold Sre.M.resume
  rcases hf with h | h | h | h <;> rw [h] <;> simp only [if_true, hz] <;> rfl⟩
theorem go_giveNo {k : Int} {fpc fpos : Nat} (h : fpc = 42) (hk : ¬ (k - 1 < 0)) (hw : w + 1 ≤ 1000) {pc pos' : Nat} {o' : Bool} {lm' li' : Int} :
    Go 1 ⟨T, n, st, o', mk, lm', li', fGive fpc fpos o k lm li :: fs, w + 1, pc, pos', hd, some false⟩ ⟨T, n, st, o, mk, lm, li, fGive fpc (fpos - 1) o (k - 1) lm li :: fs, w + 1, 49, fpos - 1, fpos - 1, none⟩ := fun seen => ⟨seen, by
  subst h
  show Sre.M.resume _ (fGive 42 fpos o k lm li) false = _
  unfold Sre.M.resume
  simp only [Bool.false_eq_true, if_false]
  rw [if_neg (by exact hk), afterRun_eq _ _ _ _ _ (by show w + 1 - (1 + 0) + 1 ≤ 1000; omega)]
  rfl⟩
theorem go_giveEnd {k : Int} {fpc fpos : Nat} (h : fpc = 42) (hk : k - 1 < 0) {pc pos' : Nat} {o' : Bool} {lm' li' : Int} :
    Go 1 ⟨T, n, st, o', mk, lm', li', fGive fpc fpos o k lm li :: fs, w + 1, pc, pos', hd, some false⟩ ⟨T, n, st, o, mk, lm, li, fs, w, 42, fpos, hd, some false⟩ := fun seen => ⟨seen, by
  subst h
  show Sre.M.resume _ (fGive 42 fpos o k lm li) false = _
  unfold Sre.M.resume
  simp only [Bool.false_eq_true, if_false]
  rw [if_pos (by exact hk)]
  rfl⟩
theorem go_takeMore {k : Int} {fpos : Nat} (hp : fpos < n) (hc : T.getD fpos 0 ≠ 10) (hw : w + 1 ≤ 1000) {pc pos' : Nat} {o' : Bool} {lm' li' : Int} :
    Go 1 ⟨T, n, st, o', mk, lm', li', fTake fpos o k lm li :: fs, w + 1, pc, pos', hd, some false⟩ ⟨T, n, st, o, mk, lm, li, fTake (fpos + 1) o (k + 1) lm li :: fs, w + 1, 31, fpos + 1, fpos + 1, none⟩ := fun seen => ⟨seen, by
  show Sre.M.resume _ (fTake fpos o k lm li) false = _
  unfold Sre.M.resume
  simp only [Bool.false_eq_true, if_false]
  rw [if_neg (by show ¬ ((decide (k + 1 > ((4294967295 : Nat) : Int)) && ((4294967295 : Nat) != Sre.maxRepeat)) = true); rw [show ((4294967295 : Nat) != Sre.maxRepeat) = false from rfl, Bool.and_false]; decide), if_neg (by show ¬ (fpos ≥ n); omega)]
  have ha := acc_any 29 (by rfl) (T.getD fpos 0) seen
  rw [show (T.getD fpos 0 != 10) = true from by simp only [bne_iff_ne, ne_eq]; exact hc] at ha
  have ha' : Sre.accepts theCode (25 + 4) (T.getD fpos 0) seen = .ok (true, seen) := ha
  show (match Sre.accepts theCode (25 + 4) (T.getD fpos 0) seen with | .error why => _ | .ok (false, seen) => _ | .ok (true, seen) => _) = _
  rw [ha']
  simp only
  rw [afterRun_eq _ _ _ _ _ (by show w + 1 - (1 + 0) + 1 ≤ 1000; omega)]
  rfl⟩
theorem go_takeEnd {k : Int} {fpos : Nat} (hp : fpos ≥ n ∨ T.getD fpos 0 = 10) {pc pos' : Nat} {o' : Bool} {lm' li' : Int} :
    Go 1 ⟨T, n, st, o', mk, lm', li', fTake fpos o k lm li :: fs, w + 1, pc, pos', hd, some false⟩ ⟨T, n, st, o, mk, lm, li, fs, w, 25, fpos, hd, some false⟩ := fun seen => ⟨seen, by
  show Sre.M.resume _ (fTake fpos o k lm li) false = _
  unfold Sre.M.resume
  simp only [Bool.false_eq_true, if_false]
  rw [if_neg (by show ¬ ((decide (k + 1 > ((4294967295 : Nat) : Int)) && ((4294967295 : Nat) != Sre.maxRepeat)) = true); rw [show ((4294967295 : Nat) != Sre.maxRepeat) = false from rfl, Bool.and_false]; decide)]
  by_cases h1 : fpos ≥ n
  · rw [if_pos (by exact h1)]; rfl
  · rw [if_neg (by exact h1)]
    have hc : T.getD fpos 0 = 10 := hp.resolve_left h1
    have ha := acc_any 29 (by rfl) (T.getD fpos 0) seen
    rw [show (T.getD fpos 0 != 10) = false from by rw [hc]; rfl] at ha
    have ha' : Sre.accepts theCode (25 + 4) (T.getD fpos 0) seen = .ok (false, seen) := ha
    show (match Sre.accepts theCode (25 + 4) (T.getD fpos 0) seen with | .error why => _ | .ok (false, seen) => _ | .ok (true, seen) => _) = _
    rw [ha']
    rfl⟩
theorem go_nextStart {fpos : Nat} (hp : fpos < n) {pc pos' : Nat} {o' oo : Bool} :
    Go 1 ⟨T, n, st, o', mk, lm, li, [fStart fpos oo], 1, pc, pos', hd, some false⟩ ⟨T, n, fpos + 1, false, mk, -1, -1, [fStart (fpos + 1) false], 1, 5, fpos + 1, fpos + 1, none⟩ := fun seen => ⟨seen, by
  show Sre.M.resume _ (fStart fpos oo) false = _
  unfold Sre.M.resume
  simp only [Bool.false_eq_true, if_false]
  rw [if_pos (by exact hp)]
  rfl⟩
theorem go_lastStart {fpos : Nat} (hp : ¬ fpos < n) {pc pos' : Nat} {o' oo : Bool} :
    Go 1 ⟨T, n, st, o', mk, lm, li, [fStart fpos oo], 1, pc, pos', hd, some false⟩ ⟨T, n, st, oo, mk, lm, li, [], 0, 5, fpos, hd, some false⟩ := fun seen => ⟨seen, by
  show Sre.M.resume _ (fStart fpos oo) false = _
  unfold Sre.M.resume
  simp only [Bool.false_eq_true, if_false]
  rw [if_neg (by exact hp)]
  rfl⟩
end
end Mine

end
section
open PySem PySem.W PySem.Calls PyProof.Rows
set_option Elab.async false
set_option maxRecDepth 100000
namespace Mine

/-! what the one pattern finds -/
noncomputable def closeAt : List Nat → Option Nat
  | [] => none
  | c :: r => if c = 93 then some 0 else if c = 10 then none else (closeAt r).map (· + 1)
noncomputable def findM : Nat → List Nat → Option (Nat × Nat × Nat)
  | _, [] => none
  | s, c :: r => if c ≠ 91 then some (s, s + 1 + (r.takeWhile (· != 91)).length, 1)
    else match closeAt r with
      | some k => some (s, s + k + 2, 2)
      | none => if 93 ∈ r then findM (s + 1) r else some (s, s + 1 + r.length, 3)

section
variable {l : List Nat}
theorem drop_cons {q c : Nat} {r : List Nat} (h : l.drop q = c :: r) : q < l.length ∧ l.toArray.getD q 0 = c ∧ l.drop (q + 1) = r := by
  have hq : q < l.length := by
    rcases Nat.lt_or_ge q l.length with hh | hh
    · exact hh
    · rw [List.drop_eq_nil_of_le hh] at h; cases h
  rw [List.drop_eq_getElem_cons hq] at h
  cases h
  refine ⟨hq, ?_, rfl⟩
  simp [Array.getD, hq]
theorem drop_nil {q : Nat} (h : l.drop q = []) : l.length ≤ q := by simpa using h

theorem runLen_drop (c : Nat) : ∀ (r : List Nat) (q : Nat), l.drop q = r → runLen c l.toArray (l.length - q) q = (r.takeWhile (· != c)).length
  | [], q, h => by
    have := drop_nil h
    rw [show l.length - q = 0 by omega]; rfl
  | x :: r, q, h => by
    obtain ⟨h1, h2, h3⟩ := drop_cons h
    rw [show l.length - q = (l.length - (q + 1)) + 1 by omega, runLen, h2, runLen_drop c r (q + 1) h3]
    by_cases hx : x = c
    · rw [if_neg (by simpa using hx), List.takeWhile_cons_of_neg (by simpa using hx)]; rfl
    · rw [if_pos hx, List.takeWhile_cons_of_pos (by simpa using hx)]; rfl

/-- the machine comes from c to a like of c' -/
noncomputable def Rch (b : Nat) (c : Cfg) (Q : Cfg → Prop) : Prop := ∃ k c', k ≤ b ∧ Go k c c' ∧ Q c'
theorem Rch.step {a b : Nat} {c c1 : Cfg} {Q : Cfg → Prop} (h : Go a c c1) (r : Rch b c1 Q) : Rch (a + b) c Q := let ⟨k, c', h1, h2, h3⟩ := r; ⟨a + k, c', by omega, h.trans h2, h3⟩
theorem Rch.mono {a b : Nat} {c : Cfg} {Q Q' : Cfg → Prop} (r : Rch a c Q) (h : a ≤ b) (hq : ∀ c, Q c → Q' c) : Rch b c Q' := let ⟨k, c', h1, h2, h3⟩ := r; ⟨k, c', by omega, h2, hq _ h3⟩
theorem Rch.bind {a b : Nat} {c : Cfg} {Q Q' : Cfg → Prop} (r : Rch a c Q) (h : ∀ c', Q c' → Rch b c' Q') : Rch (a + b) c Q' := by
  obtain ⟨k, c', h1, h2, h3⟩ := r
  obtain ⟨k', c'', g1, g2, g3⟩ := h c' h3
  exact ⟨k + k', c'', by omega, h2.trans g2, g3⟩
theorem Rch.done {c : Cfg} {Q : Cfg → Prop} (h : Q c) : Rch 0 c Q := ⟨0, c, Nat.le_refl _, Go.refl c, h⟩

variable (st : Nat) (o : Bool) (li : Int) (fs : List Sre.Frame) (w : Nat)

/-- the lazy run up to the closing bracket -/
theorem take_yes (hw : w + 1 ≤ 1000) : ∀ (r : List Nat) (q j : Nat) (k : Int) (mk : Array (Option Nat)), l.drop q = r → closeAt r = some j →
    Rch (2 * r.length + 4) ⟨l.toArray, l.length, st, o, mk, 2, li, fTake q o k 2 li :: fs, w + 1, 31, q, q, none⟩ (fun c => ∃ k' q', c = ⟨l.toArray, l.length, st, o, mk.setIfInBounds 3 (some (q + j + 1)), 3, 2, fTake q' o k' 2 li :: fs, w + 1, 56, q + j + 1, q + j + 1, some true⟩)
  | [], q, j, k, mk, h, hc => by simp [closeAt] at hc
  | x :: r, q, j, k, mk, h, hc => by
    obtain ⟨h1, h2, h3⟩ := drop_cons h
    rw [closeAt] at hc
    split at hc
    · rename_i hx
      cases hc
      subst hx
      refine Rch.mono (Rch.step (go_lit31 _ _ _ _ _ _ _ _ _ _ _ h1 h2) (Rch.step (go_mark3 _ _ _ _ _ _ _ _ _ _) (Rch.step (go_jump35 _ _ _ _ _ _ _ _ _ _ _) (Rch.step (go_succ _ _ _ _ _ _ _ _ _ _ _) (Rch.done (Q := fun c => ∃ k' q', c = ⟨l.toArray, l.length, st, o, mk.setIfInBounds 3 (some (q + 0 + 1)), 3, 2, fTake q' o k' 2 li :: fs, w + 1, 56, q + 0 + 1, q + 0 + 1, some true⟩) ⟨k, q, rfl⟩))))) (by simp only [List.length_cons]; omega) fun _ h => h
    · rename_i hx
      split at hc
      · cases hc
      · rename_i hx2
        rw [Option.map_eq_some_iff] at hc
        obtain ⟨j', hj, hc⟩ := hc
        subst hc
        have ih := take_yes hw r (q + 1) j' (k + 1) mk h3 hj
        refine Rch.mono (Rch.step (go_litNo31 _ _ _ _ _ _ _ _ _ _ _ (fun e => hx (h2 ▸ e.2))) (Rch.step (go_takeMore _ _ _ _ _ _ _ _ _ _ h1 (by rw [h2]; exact hx2) hw) ih)) (by simp only [List.length_cons]; omega) fun c h => ?_
        obtain ⟨k', q', h⟩ := h
        exact ⟨k', q', by rw [h]; congr 1 <;> first | omega | (congr 2; omega)⟩

theorem take_no (hw : w + 1 ≤ 1000) : ∀ (r : List Nat) (q : Nat) (k : Int) (mk : Array (Option Nat)), l.drop q = r → closeAt r = none →
    Rch (2 * r.length + 2) ⟨l.toArray, l.length, st, o, mk, 2, li, fTake q o k 2 li :: fs, w + 1, 31, q, q, none⟩ (fun c => ∃ p hd, c = ⟨l.toArray, l.length, st, o, mk, 2, li, fs, w, 25, p, hd, some false⟩)
  | [], q, k, mk, h, hc => by
    have hq := drop_nil h
    exact Rch.mono (Rch.step (go_litNo31 _ _ _ _ _ _ _ _ _ _ _ (fun e => by have := e.1; omega)) (Rch.step (go_takeEnd _ _ _ _ _ _ _ _ _ _ (.inl hq)) (Rch.done (Q := fun c => ∃ p hd, c = ⟨l.toArray, l.length, st, o, mk, 2, li, fs, w, 25, p, hd, some false⟩) ⟨_, _, rfl⟩))) (by simp) fun _ h => h
  | x :: r, q, k, mk, h, hc => by
    obtain ⟨h1, h2, h3⟩ := drop_cons h
    rw [closeAt] at hc
    split at hc
    · cases hc
    · rename_i hx
      split at hc
      · rename_i hx2
        exact Rch.mono (Rch.step (go_litNo31 _ _ _ _ _ _ _ _ _ _ _ (fun e => hx (h2 ▸ e.2))) (Rch.step (go_takeEnd _ _ _ _ _ _ _ _ _ _ (.inr (h2.trans hx2))) (Rch.done (Q := fun c => ∃ p hd, c = ⟨l.toArray, l.length, st, o, mk, 2, li, fs, w, 25, p, hd, some false⟩) ⟨_, _, rfl⟩))) (by simp) fun _ h => h
      · rename_i hx2
        have hj : closeAt r = none := by simpa using hc
        have ih := take_no hw r (q + 1) (k + 1) mk h3 hj
        exact Rch.mono (Rch.step (go_litNo31 _ _ _ _ _ _ _ _ _ _ _ (fun e => hx (h2 ▸ e.2))) (Rch.step (go_takeMore _ _ _ _ _ _ _ _ _ _ h1 (by rw [h2]; exact hx2) hw) ih)) (by simp only [List.length_cons]; omega) fun c h => h

/-- the greedy run gives all back -/
theorem give_no (hw : w + 1 ≤ 1000) : ∀ (k p : Nat) (mk : Array (Option Nat)), k ≤ p → p < l.length → (p + 1 = l.length → l.toArray.getD p 0 ≠ 10) →
    Rch (2 * k + 2) ⟨l.toArray, l.length, st, o, mk, 4, li, fGive 42 p o (k : Nat) 4 li :: fs, w + 1, 49, p, p, none⟩ (fun c => ∃ p hd, c = ⟨l.toArray, l.length, st, o, mk, 4, li, fs, w, 42, p, hd, some false⟩)
  | 0, p, mk, hk, hp, hc => Rch.mono (Rch.step (go_atNo _ _ _ _ _ _ _ _ _ _ _ (by omega) (fun e => hc e.1 e.2)) (Rch.step (go_giveEnd _ _ _ _ _ _ _ _ _ _ rfl (by decide)) (Rch.done (Q := fun c => ∃ p hd, c = ⟨l.toArray, l.length, st, o, mk, 4, li, fs, w, 42, p, hd, some false⟩) ⟨_, _, rfl⟩))) (by simp) fun _ h => h
  | k + 1, p, mk, hk, hp, hc => by
    have ih := give_no hw k (p - 1) mk (by omega) (by omega) (fun e => by omega)
    refine Rch.mono (a := 1 + (1 + (2 * k + 2))) (Rch.step (go_atNo _ _ _ _ _ _ _ _ _ _ _ (by omega) (fun e => hc e.1 e.2)) (Rch.step (go_giveNo _ _ _ _ _ _ _ _ _ _ rfl (by omega) hw) ?_)) (by omega) fun _ h => h
    rw [show (((k + 1 : Nat) : Int) - 1) = ((k : Nat) : Int) by omega]
    exact ih
end

theorem getD_set {α : Type} (a : Array (Option α)) (i j : Nat) (v : Option α) : (a.setIfInBounds i v).getD j none = if i = j ∧ j < a.size then v else a.getD j none := by
  simp only [Array.getD_eq_getD_getElem?, Array.getElem?_setIfInBounds]
  by_cases h : i = j
  · subst h
    by_cases h2 : i < a.size
    · simp [h2]
    · simp [h2]
  · simp [h]

noncomputable def MarksOk (mk : Array (Option Nat)) (lm : Int) (b e g : Nat) : Prop :=
  (g = 1 ∧ lm = 1 ∧ mk.getD 0 none = some b ∧ mk.getD 1 none = some e) ∨
  (g = 2 ∧ lm = 3 ∧ mk.getD 0 none = none ∧ mk.getD 1 none = none ∧ mk.getD 2 none = some b ∧ mk.getD 3 none = some e) ∨
  (g = 3 ∧ lm = 5 ∧ mk.getD 0 none = none ∧ mk.getD 1 none = none ∧ mk.getD 2 none = none ∧ mk.getD 3 none = none ∧ mk.getD 4 none = some b ∧ mk.getD 5 none = some e)
noncomputable def Ends (l : List Nat) (x : Option (Nat × Nat × Nat)) (c : Cfg) : Prop := match x with
  | some (b, e, g) => ∃ o mk lm pc pos, c = ⟨l.toArray, l.length, b, o, mk, lm, (g : Int), [], 0, pc, pos, e, some true⟩ ∧ MarksOk mk lm b e g
  | none => ∃ st o mk lm li pc pos hd, c = ⟨l.toArray, l.length, st, o, mk, lm, li, [], 0, pc, pos, hd, some false⟩

section
variable {l : List Nat}
theorem takeWhile_all {c : Nat} : ∀ {r : List Nat}, c ∉ r → (r.takeWhile (· != c)).length = r.length
  | [], _ => rfl
  | x :: r, h => by
    rw [List.mem_cons, not_or] at h
    rw [List.takeWhile_cons_of_pos (by simpa using fun e => h.1 e.symm), List.length_cons, takeWhile_all h.2, List.length_cons]
theorem takeWhile_lt {c : Nat} : ∀ {r : List Nat}, c ∈ r → ∃ y, r.drop (r.takeWhile (· != c)).length = c :: y
  | [], h => nomatch h
  | x :: r, h => by
    by_cases hx : x = c
    · subst hx; exact ⟨r, by simp⟩
    · rcases List.mem_cons.mp h with e | h
      · exact absurd e.symm hx
      · rw [List.takeWhile_cons_of_pos (by simpa using hx), List.length_cons, List.drop_succ_cons]
        exact takeWhile_lt h

theorem search_ok (hn : l.length ≤ 16777216) : ∀ (r : List Nat) (s : Nat) (o : Bool) (mk : Array (Option Nat)), mk.size = 6 → l.drop s = r → s ≤ l.length →
    Rch ((r.length + 1) * (4 * l.length + 60)) ⟨l.toArray, l.length, s, o, mk, -1, -1, [fStart s o], 1, 5, s, s, none⟩ (Ends l (findM s r))
  | [], s, o, mk, hm, h, hs => by
    have hq : s = l.length := by have := drop_nil h; omega
    have hk : runLen 91 l.toArray (l.length - s) s = 0 := by rw [hq, Nat.sub_self]; rfl
    obtain ⟨_, h9⟩ := go_rep9No l.toArray l.length s o (mk.setIfInBounds 0 (some s)) 0 (-1) [fAlt 6 s o, fStart s o] 2 s s hn hs hk
    refine Rch.mono (Rch.step (go_branch _ _ _ _ _ _ _ _ _ _ _ (by decide)) (Rch.step (go_mark0 _ _ _ _ _ _ _ _ _ _) (Rch.step h9 (Rch.step (go_alt _ _ _ _ _ _ _ [fStart s o] 1 s _ 6 20 (by rfl) (by rfl) (by decide) rfl)
      (Rch.step (go_mark2 _ _ _ _ _ _ _ _ _ _) (Rch.step (go_litNo23 _ _ _ _ _ _ _ _ _ _ _ (fun e => by have := e.1; omega)) (Rch.step (go_alt _ _ _ _ _ _ _ [fStart s o] 1 s _ 20 37 (by rfl) (by rfl) (by decide) rfl)
      (Rch.step (go_mark4 _ _ _ _ _ _ _ _ _ _) (Rch.step (go_litNo40 _ _ _ _ _ _ _ _ _ _ _ (fun e => by have := e.1; omega)) (Rch.step (go_altEnd _ _ _ _ _ _ _ [fStart s o] 1 s _ rfl) (Rch.step (go_lastStart _ _ _ _ _ _ _ (by omega)) (Rch.done (Q := Ends l none) ⟨_, _, _, _, _, _, _, _, rfl⟩)))))))))))) (by simp only [List.length_nil]; omega) fun c h => h
  | x :: r, s, o, mk, hm, h, hs => by
    obtain ⟨h1, h2, h3⟩ := drop_cons h
    have hrl : r.length + s + 1 = l.length := by
      have := congrArg List.length h
      simp at this
      omega
    by_cases hx : x = 91
    · subst hx
      have hk : runLen 91 l.toArray (l.length - s) s = 0 := by rw [runLen_drop 91 _ s h]; simp
      obtain ⟨_, h9⟩ := go_rep9No l.toArray l.length s o (mk.setIfInBounds 0 (some s)) 0 (-1) [fAlt 6 s o, fStart s o] 2 s s hn hs hk
      have pre : ∀ {b : Nat} {Q : Cfg → Prop}, (∀ mk' : Array (Option Nat), mk'.size = 6 → mk'.getD 0 none = none → mk'.getD 1 none = none → mk'.getD 2 none = some s → Rch b ⟨l.toArray, l.length, s, o, mk', 2, -1, fTake (s + 1) o 0 2 (-1) :: [fAlt 20 s o, fStart s o], 3, 31, s + 1, s + 1, none⟩ Q) → Rch (8 + b) ⟨l.toArray, l.length, s, o, mk, -1, -1, [fStart s o], 1, 5, s, s, none⟩ Q := fun hb =>
        Rch.mono (Rch.step (go_branch _ _ _ _ _ _ _ _ _ _ _ (by decide)) (Rch.step (go_mark0 _ _ _ _ _ _ _ _ _ _) (Rch.step h9 (Rch.step (go_alt _ _ _ _ _ _ _ [fStart s o] 1 s _ 6 20 (by rfl) (by rfl) (by decide) rfl)
          (Rch.step (go_mark2 _ _ _ _ _ _ _ _ _ _) (Rch.step (go_lit23 _ _ _ _ _ _ _ _ _ _ _ h1 h2) (Rch.step (go_min25 _ _ _ _ _ _ _ _ _ _ _ (by omega) (by decide)) (hb _ (by simp [hm]) (by simp [getD_set, hm]) (by simp [getD_set, hm]) (by simp [getD_set, hm])))))))))
          (by omega) fun _ h => h
      rw [findM, if_neg (by simp)]
      cases hc : closeAt r with
      | some j =>
        simp only
        refine Rch.mono (pre fun mk' hm' e0 e1 e2 => Rch.bind (take_yes s o (-1) [fAlt 20 s o, fStart s o] 2 (by decide) r (s + 1) j 0 mk' h3 hc) fun c' hc' => (?_ : Rch 3 c' (Ends l (some (s, s + j + 2, 2))))) ?_ fun _ h => h
        · obtain ⟨k', q', rfl⟩ := hc'
          refine Rch.mono (Rch.step (go_yes _ _ _ _ _ _ _ _ _ (.inr (.inr (.inl rfl))) rfl) (Rch.step (go_yes _ _ _ _ _ _ _ _ _ (.inl rfl) rfl) (Rch.step (go_yes _ _ _ _ _ _ _ _ _ (.inr (.inr (.inr rfl))) rfl) (Rch.done (Q := Ends l (some (s, s + 1 + j + 1, 2))) ⟨_, _, _, _, _, rfl, .inr (.inl ⟨rfl, rfl, ?_, ?_, ?_, ?_⟩)⟩)))) (Nat.le_refl _) fun _ h => by rw [show s + j + 2 = s + 1 + j + 1 by omega]; exact h
          · rw [getD_set, if_neg (by omega)]; exact e0
          · rw [getD_set, if_neg (by omega)]; exact e1
          · rw [getD_set, if_neg (by omega)]; exact e2
          · rw [getD_set, if_pos (by omega)]
        · simp only [List.length_cons]
          have : (r.length + 1 + 1) * (4 * l.length + 60) ≥ 1 * (4 * l.length + 60) := Nat.mul_le_mul_right _ (by omega)
          omega
      | none =>
        simp only
        have rest : ∀ {b : Nat} {Q : Cfg → Prop}, (∀ mk' : Array (Option Nat), mk'.size = 6 → mk'.getD 0 none = none → mk'.getD 1 none = none → mk'.getD 2 none = none → mk'.getD 3 none = none → mk'.getD 4 none = some s →
            Rch b ⟨l.toArray, l.length, s, o, mk', 4, -1, fGive 42 (s + 1 + runLen 93 l.toArray (l.length - (s + 1)) (s + 1)) o (runLen 93 l.toArray (l.length - (s + 1)) (s + 1) : Nat) 4 (-1) :: [fAlt 37 s o, fStart s o], 3, 49, s + 1 + runLen 93 l.toArray (l.length - (s + 1)) (s + 1), s + 1 + runLen 93 l.toArray (l.length - (s + 1)) (s + 1), none⟩ Q) →
            Rch (8 + (2 * r.length + 2 + (4 + b))) ⟨l.toArray, l.length, s, o, mk, -1, -1, [fStart s o], 1, 5, s, s, none⟩ Q := fun hb => by
          refine pre fun mk' hm' e0 e1 e2 => Rch.bind (take_no s o (-1) [fAlt 20 s o, fStart s o] 2 (by decide) r (s + 1) 0 mk' h3 hc) fun c' hc' => ?_
          obtain ⟨p, hd, rfl⟩ := hc'
          exact Rch.mono (Rch.step (go_alt _ _ _ _ _ _ _ [fStart s o] 1 s _ 20 37 (by rfl) (by rfl) (by decide) rfl)
            (Rch.step (go_mark4 _ _ _ _ _ _ _ _ _ _) (Rch.step (go_lit40 _ _ _ _ _ _ _ _ _ _ _ h1 h2) (Rch.step (go_rep42 _ _ _ _ _ _ _ _ _ _ _ hn (by omega) (by decide)) (hb _ (by simp [hm']) (by simp [getD_set, hm']) (by simp [getD_set, hm']) (by simp [getD_set, hm']) (by simp [getD_set, hm']) (by simp [getD_set, hm']))))))
            (by omega) fun _ h => h
        have hrun := runLen_drop 93 r (s + 1) h3
        rw [hrun] at rest
        by_cases h93 : 93 ∈ r
        · rw [if_pos h93]
          obtain ⟨y, hy⟩ := takeWhile_lt h93
          rw [← h3, List.drop_drop, h3] at hy
          obtain ⟨g1, g2, g3⟩ := drop_cons hy
          have ih := search_ok hn r (s + 1) false
          refine Rch.mono (rest fun mk' hm' e0 e1 e2 e3 e4 => Rch.bind (give_no s o (-1) [fAlt 37 s o, fStart s o] 2 (by decide) (r.takeWhile (· != 93)).length (s + 1 + (r.takeWhile (· != 93)).length) mk' (by omega) g1 (fun _ e => by rw [g2] at e; cases e)) fun c' hc' => (?_ : Rch (1 + (1 + ((r.length + 1) * (4 * l.length + 60)))) c' (Ends l (findM (s + 1) r)))) ?_ fun _ h => h
          · obtain ⟨p, hd, rfl⟩ := hc'
            exact Rch.step (go_altEnd _ _ _ _ _ _ _ [fStart s o] 1 s _ rfl) (Rch.step (go_nextStart _ _ _ _ _ _ _ h1) (ih mk' hm' h3 (by omega)))
          · have hl2 : (r.takeWhile (· != 93)).length ≤ r.length := by have := runLen_le 93 l.toArray (l.length - (s + 1)) (s + 1); omega
            simp only [List.length_cons]
            have : (r.length + 1 + 1) * (4 * l.length + 60) = (r.length + 1) * (4 * l.length + 60) + (4 * l.length + 60) := Nat.succ_mul _ _
            omega
        · rw [if_neg h93]
          have hlen := takeWhile_all h93
          rw [hlen] at rest
          refine Rch.mono (rest fun mk' hm' e0 e1 e2 e3 e4 => Rch.step (go_at _ _ _ _ _ _ _ _ _ _ _ (by omega)) (Rch.step (go_mark5 _ _ _ _ _ _ _ _ _ _) (Rch.step (go_jump53 _ _ _ _ _ _ _ _ _ _ _) (Rch.step (go_succ _ _ _ _ _ _ _ _ _ _ _)
            (Rch.step (go_yes _ _ _ _ _ _ _ _ _ (.inr (.inl rfl)) rfl) (Rch.step (go_yes _ _ _ _ _ _ _ _ _ (.inl rfl) rfl) (Rch.step (go_yes _ _ _ _ _ _ _ _ _ (.inr (.inr (.inr rfl))) rfl)
            (Rch.done (Q := Ends l (some (s, s + 1 + r.length, 3))) ⟨_, _, _, _, _, rfl, .inr (.inr ⟨rfl, rfl, ?_, ?_, ?_, ?_, ?_, ?_⟩)⟩)))))))) ?_ fun _ h => h
          · rw [getD_set, if_neg (by omega)]; exact e0
          · rw [getD_set, if_neg (by omega)]; exact e1
          · rw [getD_set, if_neg (by omega)]; exact e2
          · rw [getD_set, if_neg (by omega)]; exact e3
          · rw [getD_set, if_neg (by omega)]; exact e4
          · rw [getD_set, if_pos (by omega)]
          · simp only [List.length_cons]
            have : (r.length + 1 + 1) * (4 * l.length + 60) ≥ 1 * (4 * l.length + 60) := Nat.mul_le_mul_right _ (by omega)
            omega
    · rw [findM, if_pos hx]
      have hrun := runLen_drop 91 _ s h
      rw [List.takeWhile_cons_of_pos (by simpa using hx), List.length_cons] at hrun
      have h9 := go_rep9 l.toArray l.length s o (mk.setIfInBounds 0 (some s)) 0 (-1) [fAlt 6 s o, fStart s o] 2 s s hn h1 (by rw [hrun]; omega) (by decide)
      rw [hrun] at h9
      refine Rch.mono (Rch.step (go_branch _ _ _ _ _ _ _ _ _ _ _ (by decide)) (Rch.step (go_mark0 _ _ _ _ _ _ _ _ _ _) (Rch.step h9 (Rch.step (go_mark1 _ _ _ _ _ _ _ _ _ _) (Rch.step (go_jump18 _ _ _ _ _ _ _ _ _ _ _) (Rch.step (go_succ _ _ _ _ _ _ _ _ _ _ _)
        (Rch.step (go_yes _ _ _ _ _ _ _ _ _ (.inr (.inl rfl)) rfl) (Rch.step (go_yes _ _ _ _ _ _ _ _ _ (.inl rfl) rfl) (Rch.step (go_yes _ _ _ _ _ _ _ _ _ (.inr (.inr (.inr rfl))) rfl)
        (Rch.done (Q := Ends l (some (s, s + ((r.takeWhile (· != 91)).length + 1), 1))) ⟨_, _, _, _, _, rfl, .inl ⟨rfl, rfl, ?_, ?_⟩⟩)))))))))) ?_ fun _ h => by rw [show s + 1 + (r.takeWhile (· != 91)).length = s + ((r.takeWhile (· != 91)).length + 1) by omega]; exact h
      · rw [getD_set, if_neg (by omega), getD_set, if_pos (by omega)]
      · rw [getD_set, if_pos (by simp [hm])]
      · simp only [List.length_cons]
        have : (r.length + 1 + 1) * (4 * l.length + 60) ≥ 1 * (4 * l.length + 60) := Nat.mul_le_mul_right _ (by omega)
        omega
end
end Mine

end
section
open PySem PySem.W PySem.Calls PyProof.Rows
set_option Elab.async false
set_option maxRecDepth 100000
namespace Mine
open PySem.Builtin.Re

theorem step_stop {m : Sre.M} (h : m.outcome.isSome = true) : m.step = m := by unfold Sre.M.step; rw [if_pos h]
theorem iter_stop {m : Sre.M} (h : m.outcome.isSome = true) : ∀ k, iter k m = m
  | 0 => rfl
  | k + 1 => by rw [iter, step_stop h]; exact iter_stop h k
theorem runFor_eq : ∀ (k : Nat) (m : Sre.M), m.runFor k = iter k m
  | 0, _ => rfl
  | k + 1, m => by
    rw [Sre.M.runFor]
    split
    · rename_i h; rw [iter_stop h]
    · exact runFor_eq k m.step

theorem drive_ok {M : Model} {A : Around} {E : Value → Shared → Prop} {s : Shared} {Q : Sre.M → Shared → Prop} : ∀ (N k : Nat) (m m' : Sre.M), 1 ≤ N → k ≤ 4 * N → iter k m = m' → m'.outcome.isSome = true → Q m' s → wpAny M A (reDrive N m) Q E s
  | 0, _, _, _, h, _, _, _, _ => absurd h (by decide)
  | N + 1, k, m, m', _, hk, he, ho, hQ => by
    rw [reDrive]
    show wpAny _ _ (if (m.runFor 4).outcome.isSome = true then pure (m.runFor 4) else do rule "sre.turn"; reDrive N (m.runFor 4)) _ _ _
    rw [runFor_eq]
    split
    · rename_i h4
      have : iter 4 m = m' := by
        rcases Nat.le_total k 4 with h | h
        · obtain ⟨j, e4⟩ := Nat.exists_eq_add_of_le h
          rw [e4, iter_add, he, iter_stop ho]
        · obtain ⟨j, rfl⟩ := Nat.exists_eq_add_of_le h
          rw [iter_add, iter_stop h4] at he
          exact he
      rw [this]
      exact wpAny_pure hQ
    · rename_i h4
      have hk4 : 4 < k := by
        rcases Nat.lt_or_ge 4 k with h | h
        · exact h
        · obtain ⟨j, e⟩ := Nat.exists_eq_add_of_le h
          exfalso
          apply h4
          rw [e, iter_add, he, iter_stop ho]
          exact ho
      obtain ⟨j, rfl⟩ := Nat.exists_eq_add_of_le (Nat.le_of_lt hk4)
      rw [iter_add] at he
      exact wpAny_bind (wpAny_rule (drive_ok N j _ m' (by omega) (by omega) he ho hQ))

theorem rules_ok {M : Model} {A : Around} {E : Value → Shared → Prop} {s : Shared} {α : Type} (p : α → Bool) (f : α → String) : ∀ (l : List α) {Q : PUnit → Shared → Prop}, Q ⟨⟩ s → wpAny M A (forIn l PUnit.unit fun i r => (if p i = true then do rule (f i); pure (ForInStep.yield PUnit.unit) else pure (ForInStep.yield PUnit.unit)) : Sem PUnit) Q E s
  | [], Q, h => wpAny_pure h
  | x :: l, Q, h => by
    rw [List.forIn_cons]
    refine wpAny_bind ?_
    split
    · exact wpAny_bind (wpAny_rule (wpAny_pure (rules_ok p f l h)))
    · exact wpAny_pure (rules_ok p f l h)

theorem runToEnd_ok {M : Model} {A : Around} {E : Value → Shared → Prop} {s : Shared} {Q : Option Sre.M → Shared → Prop} {m m' : Sre.M} {k : Nat} (hk : k ≤ 4 * 2 ^ 64) (he : iter k m = m')
    (h : (m'.outcome = some .matched ∧ Q (some m') s) ∨ (m'.outcome = some .failed ∧ Q none s)) : wpAny M A (reRunToEnd m) Q E s := by
  unfold reRunToEnd
  have ho : m'.outcome.isSome = true := by rcases h with h | h <;> rw [h.1] <;> rfl
  refine wpAny_bind (drive_ok _ k m m' (by decide) hk he ho (wpAny_bind ?_))
  refine rules_ok (fun i => m'.seen.has i) (fun i => Sre.names.getD i "") _ ?_
  rcases h with ⟨h1, h2⟩ | ⟨h1, h2⟩ <;> rw [h1] <;> exact wpAny_pure h2

noncomputable def FoundOk (l : List Nat) (x : Option (Nat × Nat × Nat)) (y : Option Sre.M) : Prop := match x with
  | some (b, e, g) => ∃ m, y = some m ∧ m.start = b ∧ m.handed = e ∧ m.lastindex = (g : Int) ∧ MarksOk m.marks m.lastmark b e g
  | none => y = none

theorem search_run {M : Model} {A : Around} {E : Value → Shared → Prop} {s : Shared} {l : List Nat} {st : Nat} (hn : l.length ≤ 16777216) (hs : st ≤ l.length) :
    wpAny M A (reRunToEnd (Sre.forSearch theCode l.toArray 3 st l.length false)) (fun x s' => s' = s ∧ FoundOk l (findM st (l.drop st)) x) E s := by
  rcases Nat.lt_or_ge st l.length with hlt | hge
  · have e : Sre.forSearch theCode l.toArray 3 st l.length false = mkc ⟨l.toArray, l.length, st, true, Array.replicate 6 none, -1, -1, [fStart st true], 1, 5, st, st, none⟩ (({} : Sre.Seen).add 14) := by
      unfold Sre.forSearch
      have h1 : ¬ ((decide (st > l.length) || decide (l.length - st < (Sre.header theCode).1)) = true) := by
        rw [show (Sre.header theCode).1 = 1 from rfl]
        simp only [Bool.or_eq_true, decide_eq_true_eq]
        omega
      simp only
      rw [if_neg h1]
      rfl
    obtain ⟨k, c', hk, hg, hc⟩ := search_ok hn (l.drop st) st true (Array.replicate 6 none) (by simp) rfl hs
    obtain ⟨seen', he⟩ := hg (({} : Sre.Seen).add 14)
    rw [e]
    have hlen : (l.drop st).length + 1 ≤ 16777217 := by simp; omega
    have hk2 : ((l.drop st).length + 1) * (4 * l.length + 60) ≤ 16777217 * (4 * 16777216 + 60) := Nat.mul_le_mul hlen (by omega)
    generalize mkc ⟨l.toArray, l.length, st, true, Array.replicate 6 none, -1, -1, [fStart st true], 1, 5, st, st, none⟩ (({} : Sre.Seen).add 14) = m0 at he
    have hb : k + 1 ≤ 4 * 2 ^ 64 := by omega
    have hit : iter (k + 1) m0 = (mkc c' seen').step := by rw [iter_add, he]; rfl
    generalize hff : findM st (l.drop st) = ff at hc
    cases ff with
    | some x =>
      obtain ⟨b, e, g⟩ := x
      obtain ⟨o, mk, lm, pc, pos, hcc, hm⟩ := hc
      refine runToEnd_ok hb hit (.inl ⟨?_, rfl, _, rfl, ?_, ?_, ?_, ?_⟩)
      · rw [hcc]; rfl
      · rw [hcc]; rfl
      · rw [hcc]; rfl
      · rw [hcc]; rfl
      · rw [hcc]; exact hm
    | none =>
      obtain ⟨st, o, mk, lm, li, pc, pos, hd, hcc⟩ := hc
      refine runToEnd_ok hb hit (.inr ⟨?_, rfl, rfl⟩)
      rw [hcc]; rfl
  · have hst : st = l.length := by omega
    subst hst
    rw [List.drop_length]
    refine runToEnd_ok (k := 1) (m' := (Sre.forSearch theCode l.toArray 3 l.length l.length false).step) (by decide) rfl (.inr ⟨?_, rfl, rfl⟩)
    unfold Sre.forSearch
    have h1 : ((decide (l.length > l.length) || decide (l.length - l.length < (Sre.header theCode).1)) = true) := by
      rw [show (Sre.header theCode).1 = 1 from rfl]
      simp
    simp only
    rw [if_pos h1]
    rfl
end Mine

end
section
open PySem PySem.W PySem.Calls PyProof.Rows
set_option Elab.async false
set_option maxRecDepth 100000
namespace Mine
open Sem (wp)

theorem slot_scan_ga : PySem.Slot "_sre.SRE_Scanner" "__getattribute__" "object.__getattribute__" :=
  .of (owner := "object") (n := "__getattribute__") (by rw [typeLookup_type, builtinLookup_eq_fast]; kernel_rfl) (by decide +kernel) (by decide +kernel) (by decide +kernel)
    (by first | exact .inl (by decide +kernel) | exact .inr (by decide +kernel)) (by rw [isSubtype_type]; kernel_rfl)
theorem entry_ga : entryFor table "object.__getattribute__" = some Builtin.«object.__getattribute__» := entryFor_of_tree (by kernel_rfl)
theorem args_ga (a b : Value) : argsOk "object.__getattribute__" ⟨[a, b], []⟩ := by unfold argsOk; kernel_rfl
theorem slot_scan_search : PySem.Slot "_sre.SRE_Scanner" "search" "_sre.SRE_Scanner.search" :=
  .of (owner := "_sre.SRE_Scanner") (n := "search") (by rw [typeLookup_type, builtinLookup_eq_fast]; kernel_rfl) (by decide +kernel) (by decide +kernel) (by decide +kernel)
    (by first | exact .inl (by decide +kernel) | exact .inr (by decide +kernel)) (by rw [isSubtype_type]; kernel_rfl)
theorem type_scan_search : typeOf (.builtin "_sre.SRE_Scanner.search") = pure (.type "method_descriptor") := by show builtinType _ = _; rw [builtinType_eq_fast]; kernel_rfl
theorem entry_scan_search : entryFor table "_sre.SRE_Scanner.search" = some Builtin.«_sre.SRE_Scanner.search» := entryFor_of_tree (by kernel_rfl)
theorem lk_md_get : typeLookup (.type "method_descriptor") "__get__" = pure (some (.builtin "method_descriptor.__get__")) := by rw [typeLookup_type, builtinLookup_eq_fast]; kernel_rfl
theorem lk_md_set : typeLookup (.type "method_descriptor") "__set__" = pure none := by rw [typeLookup_type, builtinLookup_eq_fast]; kernel_rfl
theorem lk_md_del : typeLookup (.type "method_descriptor") "__delete__" = pure none := by rw [typeLookup_type, builtinLookup_eq_fast]; kernel_rfl
theorem slot_md_get : PySem.Slot "method_descriptor" "__get__" "method_descriptor.__get__" :=
  .of (owner := "method_descriptor") (n := "__get__") (by rw [typeLookup_type, builtinLookup_eq_fast]; kernel_rfl) (by decide +kernel) (by decide +kernel) (by decide +kernel)
    (by first | exact .inl (by decide +kernel) | exact .inr (by decide +kernel)) (by rw [isSubtype_type]; kernel_rfl)
theorem entry_md_get : entryFor table "method_descriptor.__get__" = some Builtin.«method_descriptor.__get__» := entryFor_of_tree (by kernel_rfl)
theorem args_md_get (a b c : Value) : argsOk "method_descriptor.__get__" ⟨[a, b, c], []⟩ := by unfold argsOk; kernel_rfl
theorem sub_scan : isSubtype (.type "_sre.SRE_Scanner") (.type "_sre.SRE_Scanner") = pure true := by rw [isSubtype_type]; kernel_rfl
theorem cut_search : "_sre.SRE_Scanner.search".cutAt '.' = ["_sre", "SRE_Scanner", "search"] := by first | rfl | decide +kernel
theorem owner_search : (".".intercalate ("_sre.SRE_Scanner.search".cutAt '.').dropLast) = "_sre.SRE_Scanner" := by rw [cut_search]; decide +kernel

theorem sub_scan_owner : isSubtype (.type "_sre.SRE_Scanner") (.type (".".intercalate ("_sre.SRE_Scanner.search".cutAt '.').dropLast)) = pure true := by rw [owner_search]; exact sub_scan
theorem isType_scan : isType (.type "_sre.SRE_Scanner") = pure true := by kernel_rfl
section
variable {prog : Program} {w : World} {A : Around} {E : Value → Shared → Prop} {h : Heap} {g : Array GenState} {d : Drawn} {t : Nat} {os : OsState} {a : Addr} {o : Obj}
theorem search_get {R : Result → Shared → Prop} (hx : h.get? a = some o) (hc : o.cls = .type "_sre.SRE_Scanner")
    (hq : R (.ok (.ret (.ref h.objs.size))) ⟨h.push { cls := .type "builtin_function_or_method", data := .fields #[.builtin "_sre.SRE_Scanner.search", .ref a] }, g, d, t, os⟩) :
    codeAny (model prog w) A (.call (.builtin "method_descriptor.__get__") ⟨[.builtin "_sre.SRE_Scanner.search", .ref a, .type "_sre.SRE_Scanner"], []⟩) R ⟨h, g, d, t, os⟩ := by
  have hT : (⟨h, g, d, t, os⟩ : Shared).TypeIs (.ref a) "_sre.SRE_Scanner" := ⟨_, hx, hc⟩
  have hT5 : (⟨h, g, d, t, os⟩ : Shared).TypeIs (.builtin "_sre.SRE_Scanner.search") "method_descriptor" := type_scan_search
  have f8 := sub_scan_owner
  have f9 := isType_scan
  refine codeAny_call_builtin slot_md_get.plain entry_md_get (slot_md_get.check _ _ _ _ _ _ _ _ hT5 (args_md_get _ _ _) ?_)
  unfold Builtin.«method_descriptor.__get__»
  repeat (any_goals (first | assumption | wp_step))

theorem search_entry {vs : Array Value} {tk : Tok} {Q : Fin → Shared → Prop} (hx : h.get? a = some { cls := .type "_sre.SRE_Scanner", data := .fields vs })
    (hq : Q (.done (.ret (.ref h.objs.size))) ⟨h.push { cls := .type "builtin_function_or_method", data := .fields #[.builtin "_sre.SRE_Scanner.search", .ref a] }, g, d, t, os⟩) :
    wpAny (model prog w) A (Builtin.«object.__getattribute__» ⟨[.ref a, .str "search" tk], []⟩) Q E ⟨h, g, d, t, os⟩ := by
  have hT : (⟨h, g, d, t, os⟩ : Shared).TypeIs (.ref a) "_sre.SRE_Scanner" := ⟨_, hx, rfl⟩
  have hT5 : (⟨h, g, d, t, os⟩ : Shared).TypeIs (.builtin "_sre.SRE_Scanner.search") "method_descriptor" := type_scan_search
  have f4 := slot_scan_search.lookup
  have f5 := type_scan_search
  have f6 := lk_md_get
  have f7 := lk_md_set
  have f8 := lk_md_del
  repeat (any_goals (first | assumption | wp_step))
  exact search_get hx rfl (wpAny_pure hq)

theorem search_attr {vs : Array Value} {Q : Value → Shared → Prop} (hx : h.get? a = some { cls := .type "_sre.SRE_Scanner", data := .fields vs })
    (hq : Q (.ref h.objs.size) ⟨h.push { cls := .type "builtin_function_or_method", data := .fields #[.builtin "_sre.SRE_Scanner.search", .ref a] }, g, d, t + 1, os⟩) :
    wpAny (model prog w) A (getAttr (.ref a) "search") Q E ⟨h, g, d, t, os⟩ := by
  have hT : (⟨h, g, d, t, os⟩ : Shared).TypeIs (.ref a) "_sre.SRE_Scanner" := ⟨_, hx, rfl⟩
  have hT' : (⟨h, g, d, t + 1, os⟩ : Shared).TypeIs (.ref a) "_sre.SRE_Scanner" := ⟨_, hx, rfl⟩
  have f2 := slot_scan_ga.lookup
  have f3 := slot_scan_ga.bind (.ref a)
  unfold getAttr getAttrBy
  repeat (any_goals (first | assumption | wp_step))
  refine codeAny_call_builtin slot_scan_ga.plain entry_ga (slot_scan_ga.check _ _ _ _ _ _ _ _ hT' (args_ga _ _) (search_entry hx ?_))
  exact wpAny_pure hq
end
end Mine

end
section
open PySem PySem.W PySem.Calls PyProof.Rows
set_option Elab.async false
set_option maxRecDepth 100000
namespace Mine
open PySem.Builtin.Re
open Sem (wp)

section
variable {prog : Program} {w : World} {A : Around} {E : Value → Shared → Prop} {s : Shared}
theorem noColl {stop : String} {Q : Unit → Shared → Prop} (h : Q () s) : wpAny (Mg prog w) A (noCollectionInside stop) Q E s := by
  unfold noCollectionInside
  refine wpAny_bind (wpAny_runValue (codeAny_of_tree ?_))
  show wpAny (Mg prog w) _ (denG (.builtin "gc.ask" ⟨[rawInt 13], []⟩)) _ _ s
  rw [show denG (.builtin "gc.ask" ⟨[rawInt 13], []⟩) = ret (.bool false) from rfl]
  exact wpAny_pure (wpAny_pure h)

theorem code_back : ((theCode.map fun w => (rawInt (w : Nat) : Value)).map reRawOf).map (·.toNat) = theCode := by decide +kernel

structure PatAt (h : Heap) (pat ct : Addr) : Prop where
  obj : ∃ p0 p1 p3 p4, h.get? pat = some { cls := .type "re.Pattern", data := .fields #[p0, p1, rawInt 3, p3, p4, .ref ct, rawInt 0] }
  code : ∃ n, h.get? ct = some { cls := .type "tuple", data := .seq (theCode.map fun w => (rawInt (w : Nat) : Value)) n }

theorem target_ok {pat ct : Addr} {l : List Nat} {tk : Tok} {Q : ReTarget → Shared → Prop} (hp : PatAt s.heap pat ct)
    (h : Q { pattern := .ref pat, string := .str ⟨l.toArray⟩ tk, code := theCode, text := l.toArray, kind := 0, groups := 3, pos := 0, lim := l.toArray.size } s) :
    wpAny (model prog w) A (reWholeTarget (.ref pat) (.str ⟨l.toArray⟩ tk)) Q E s := by
  obtain ⟨p0, p1, p3, p4, ho⟩ := hp.obj
  obtain ⟨n, hc⟩ := hp.code
  obtain ⟨h, g, d, t, os⟩ := s
  unfold reWholeTarget
  repeat (any_goals (first | assumption | wp_step))
  simp only [Option.getD_some, code_back]
  exact h

noncomputable abbrev scanObj (pat : Addr) (l : List Nat) (tk : Tok) (st : Int) : Obj := { cls := .type "_sre.SRE_Scanner", data := .fields #[.ref pat, .str ⟨l.toArray⟩ tk, rawInt st, rawInt 0, rawInt (l.length : Nat), .bool false] }

noncomputable def spansOf (m : Sre.M) : List Value := (List.range 3).flatMap (fun g =>
    match if ((2 * g + 1 : Nat) : Int) ≤ m.lastmark then (m.marks.getD (2 * g) none, m.marks.getD (2 * g + 1) none) else (none, none) with
    | (some b, some e) => [rawInt (b : Nat), rawInt (e : Nat)]
    | _ => [rawInt (-1), rawInt (-1)])
noncomputable def badAt (m : Sre.M) (g : Nat) : Bool := match m.marks.getD (2 * g) none, m.marks.getD (2 * g + 1) none with | some b, some e => ((2 * g + 1 : Nat) : Int) ≤ m.lastmark && e < b | _, _ => false
noncomputable def badSpan (m : Sre.M) : Bool := (List.range 3).any (badAt m)
theorem reNewMatch_eq (p st : Value) (pos lim : Nat) (m : Sre.M) : reNewMatch p st 3 pos lim m = (do
    if badSpan m then reWrongSpan
    newFields "re.Match" [st, p, rawInt pos, rawInt lim, rawInt m.lastindex, ← newTuple (rawInt m.start :: rawInt m.handed :: spansOf m)]) := rfl

theorem spans_ok {m : Sre.M} {b e g : Nat} (h : MarksOk m.marks m.lastmark b e g) : spansOf m = (List.range 3).flatMap fun k => if k + 1 = g then [rawInt (b : Nat), rawInt (e : Nat)] else [rawInt (-1), rawInt (-1)] := by
  unfold spansOf
  rcases h with ⟨rfl, hl, h0, h1⟩ | ⟨rfl, hl, h0, h1, h2, h3⟩ | ⟨rfl, hl, h0, h1, h2, h3, h4, h5⟩
  · simp only [Array.getD_eq_getD_getElem?] at h0 h1
    simp [List.range_succ, hl, h0, h1]
  · simp only [Array.getD_eq_getD_getElem?] at h0 h1 h2 h3
    simp [List.range_succ, hl, h0, h1, h2, h3]
  · simp only [Array.getD_eq_getD_getElem?] at h0 h1 h2 h3 h4 h5
    simp [List.range_succ, hl, h0, h1, h2, h3, h4, h5]
theorem spans_any {m : Sre.M} {b e g : Nat} (h : MarksOk m.marks m.lastmark b e g) (hbe : b ≤ e) : badSpan m = false := by
  have far : ∀ k, ¬ (((2 * k + 1 : Nat) : Int) ≤ m.lastmark) → badAt m k = false := fun k hk => by
    unfold badAt
    split
    · rw [decide_eq_false hk]; rfl
    · rfl
  have near : ∀ k, m.marks.getD (2 * k) none = none → badAt m k = false := fun k hk => by
    unfold badAt
    rw [hk]
  have here : ∀ k, m.marks.getD (2 * k) none = some b → m.marks.getD (2 * k + 1) none = some e → badAt m k = false := fun k h1 h2 => by
    unfold badAt
    rw [h1, h2]
    show (decide _ && decide (e < b)) = false
    rw [show decide (e < b) = false from decide_eq_false (by omega), Bool.and_false]
  show ([0, 1, 2] : List Nat).any (badAt m) = false
  simp only [List.any_cons, List.any_nil, Bool.or_false, Bool.or_eq_false_iff]
  rcases h with ⟨rfl, hl, h0, h1⟩ | ⟨rfl, hl, h0, h1, h2, h3⟩ | ⟨rfl, hl, h0, h1, h2, h3, h4, h5⟩
  · exact ⟨here 0 h0 h1, far 1 (by rw [hl]; decide), far 2 (by rw [hl]; decide)⟩
  · exact ⟨near 0 h0, here 1 h2 h3, far 2 (by rw [hl]; decide)⟩
  · exact ⟨near 0 h0, near 1 h2, here 2 h4 h5⟩

theorem newMatch_ok {M : Model} {pat : Addr} {l : List Nat} {tk : Tok} {m : Sre.M} {b e g : Nat} {Q : Value → Shared → Prop} (hs : m.start = b) (he : m.handed = e) (hi : m.lastindex = (g : Int)) (hm : MarksOk m.marks m.lastmark b e g) (hbe : b ≤ e)
    (h : Q (.ref (s.heap.objs.size + 1)) { s with heap := (s.heap.push { cls := .type "tuple", data := .seq (matSpans b e g).toArray }).push { cls := .type "re.Match", data := .fields #[.str ⟨l.toArray⟩ tk, .ref pat, rawInt 0, rawInt (l.length : Nat), rawInt g, .ref s.heap.objs.size] } }) :
    wpAny M A (reNewMatch (.ref pat) (.str ⟨l.toArray⟩ tk) 3 0 l.length m) Q E s := by
  rw [reNewMatch_eq, spans_ok hm, spans_any hm hbe, hs, he, hi]
  simp only [Bool.false_eq_true, if_false]
  have hsz := szl
  have hlen : (matSpans b e g).length ≤ sizeLine := by
    have : (matSpans b e g).length = 8 := by unfold matSpans; simp [List.range_succ]; split <;> split <;> split <;> rfl
    omega
  refine wpAny_bind (wpAny_newTuple (items := matSpans b e g) ?_ hlen)
  refine wpAny_newObj_type ?_ (by size_fits)
  rw [Heap.size_push]
  exact h

theorem findM_le : ∀ (r : List Nat) (s : Nat) {b e g : Nat}, findM s r = some (b, e, g) → s ≤ b ∧ b < e ∧ e ≤ s + r.length ∧ 1 ≤ g ∧ g ≤ 3
  | [], s, b, e, g, h => by simp [findM] at h
  | c :: r, s, b, e, g, h => by
    rw [findM] at h
    have hc : ∀ (r : List Nat) (k : Nat), closeAt r = some k → k < r.length := fun r => by
      induction r with
      | nil => intro k h; simp [closeAt] at h
      | cons x r ih =>
        intro k h
        rw [closeAt] at h
        split at h
        · cases h; simp
        · split at h
          · cases h
          · rw [Option.map_eq_some_iff] at h
            obtain ⟨k', h1, h2⟩ := h
            have := ih k' h1
            simp; omega
    split at h
    · cases h
      have := (List.takeWhile_sublist (l := r) (fun x => x != 91)).length_le
      simp; omega
    · split at h
      · rename_i k hk
        cases h
        have := hc r k hk
        simp; omega
      · split at h
        · have := findM_le r (s + 1) h
          simp; omega
        · cases h
          simp; omega

/-- a scanner's step -/
theorem scan_ok {pat ct sc : Addr} {l : List Nat} {tk : Tok} {st : Nat} {Q : Fin → Shared → Prop} (hp : PatAt s.heap pat ct) (ho : s.heap.get? sc = some (scanObj pat l tk (st : Nat))) (hst : st ≤ l.length) (hn : l.length ≤ 16777216)
    (hsome : ∀ b e g h', findM st (l.drop st) = some (b, e, g) → h'.get? sc = some (scanObj pat l tk (e : Nat)) → Heap.SameBut sc s.heap h' →
      Q (.done (.ret (.ref (h'.objs.size + 1)))) { s with heap := (h'.push { cls := .type "tuple", data := .seq (matSpans b e g).toArray }).push { cls := .type "re.Match", data := .fields #[.str ⟨l.toArray⟩ tk, .ref pat, rawInt 0, rawInt (l.length : Nat), rawInt g, .ref h'.objs.size] } })
    (hnone : ∀ h', findM st (l.drop st) = none → h'.get? sc = some (scanObj pat l tk (-1)) → Heap.SameBut sc s.heap h' → Q (.done (.ret .none)) { s with heap := h' }) :
    wpAny (Mg prog w) A (Builtin.«_sre.SRE_Scanner.search» ⟨[.ref sc], []⟩) Q E s := by
  unfold Builtin.«_sre.SRE_Scanner.search» reScan
  show wpAny _ _ (fieldsOf (.ref sc) >>= _) _ _ s
  refine wpAny_bind (wpAny_fieldsOf ho rfl ?_)
  show wpAny _ _ (if ((st : Nat) : Int) < 0 then _ else _) _ _ s
  rw [if_neg (by omega)]
  refine wpAny_bind (noColl (wpAny_bind (any_mono_model (target_ok hp ?_))))
  show wpAny _ _ (reRunToEnd (Sre.forSearch theCode l.toArray 3 st l.length false) >>= _) _ _ s
  refine wpAny_bind (wpAny_mono (search_run hn hst) (fun x s' ⟨es, hx⟩ => ?_) fun _ _ h => h)
  subst es
  generalize hf : findM st (l.drop st) = ff at hx
  cases ff with
  | none =>
    have hx' : x = none := hx
    subst hx'
    refine wpAny_bind (wpAny_setField ho rfl (by simp) (wpAny_pure (hnone _ hf ?_ (Heap.SameBut.update ..))))
    exact Heap.get?_update_self _ ho rfl
  | some y =>
    obtain ⟨b, e, g⟩ := y
    obtain ⟨m, rfl, hs, he, hi, hm⟩ := hx
    obtain ⟨hb1, hb2, hb3, hg1, hg2⟩ := findM_le _ _ hf
    simp only
    refine wpAny_bind (wpAny_setField ho rfl (by simp) ?_)
    rw [he]
    have ho1 : (s'.heap.update sc (Obj.mapFields (·.setIfInBounds 2 (rawInt (e : Nat))))).get? sc = some (scanObj pat l tk (e : Nat)) := Heap.get?_update_self _ ho rfl
    refine wpAny_bind (wpAny_setField ho1 rfl (by simp) ?_)
    rw [hs, show (e == b) = false from by rw [beq_eq_false_iff_ne]; omega]
    have ho2 : ((s'.heap.update sc (Obj.mapFields (·.setIfInBounds 2 (rawInt (e : Nat))))).update sc (Obj.mapFields (·.setIfInBounds 5 (.bool false)))).get? sc = some (scanObj pat l tk (e : Nat)) := Heap.get?_update_self _ ho1 rfl
    show wpAny _ _ (reNewMatch (.ref pat) (.str ⟨l.toArray⟩ tk) 3 0 l.length m >>= _) _ _ _
    refine wpAny_bind (newMatch_ok hs he hi hm (Nat.le_of_lt hb2) (wpAny_pure ?_))
    exact hsome b e g _ hf ho2 ((Heap.SameBut.update ..).trans (Heap.SameBut.update ..))
end
end Mine

end
section
open PySem PySem.W PySem.Calls PyProof.Rows
set_option Elab.async false
set_option maxRecDepth 100000
namespace Mine
open PySem.Builtin.Re
open Sem (wp)

theorem kind_search : builtinKind "_sre.SRE_Scanner.search" = some .method := by decide +kernel
theorem sub_scan_mod : isSubtype (.type "_sre.SRE_Scanner") (.type "module") = pure false := by rw [isSubtype_type]; kernel_rfl
theorem sig_search : Manifest.signature? "_sre.SRE_Scanner.search" = some ⟨.nothing, "SRE_Scanner.search", "search", .self, []⟩ := by kernel_rfl
theorem vararg_search : Manifest.varargsMethods.contains "_sre.SRE_Scanner.search" = false := by decide +kernel
section
variable {prog : Program} {w : World} {A : Around} {E : Value → Shared → Prop} {s : Shared}
theorem bound_check {M : Model} {sc : Addr} {vs : Array Value} {Q : Unit → Shared → Prop} (ho : s.heap.get? sc = some { cls := .type "_sre.SRE_Scanner", data := .fields vs }) (h : Q () s) :
    wpAny M A (checkBoundCall "_sre.SRE_Scanner.search" ⟨[.ref sc], []⟩) Q E s := by
  have hT : s.TypeIs (.ref sc) "_sre.SRE_Scanner" := ⟨_, ho, rfl⟩
  unfold checkBoundCall
  rw [sig_search, kind_search]
  show wpAny _ _ (isInstance (.ref sc) (.type "module") >>= _) _ _ _
  refine wpAny_bind (wpAny_isInstance hT sub_scan_mod ?_)
  rw [vararg_search]
  simp only [Bool.or_false, Bool.false_eq_true, if_false]
  show wpAny _ _ (isType (.ref sc) >>= _) _ _ _
  refine wpAny_bind ?_
  show wpAny _ _ (loadHead sc >>= _) _ _ _
  refine wpAny_bind (wpAny_loadPart ho ?_)
  refine wpAny_pure ?_
  simp only [Bool.false_eq_true, if_false]
  refine wpAny_bind (wpAny_typeOf hT ?_)
  exact wpAny_of_eq (a := ()) (by rfl) h

theorem bound_call {sc bm : Addr} {vs : Array Value} {R : Result → Shared → Prop} (hb : s.heap.get? bm = some { cls := .type "builtin_function_or_method", data := .fields #[.builtin "_sre.SRE_Scanner.search", .ref sc] })
    (ho : s.heap.get? sc = some { cls := .type "_sre.SRE_Scanner", data := .fields vs })
    (h : wpAny (Mg prog w) (A.under (.builtin "_sre.SRE_Scanner.search" ⟨[.ref sc], []⟩)) (Builtin.«_sre.SRE_Scanner.search» ⟨[.ref sc], []⟩) (fun fin s' => match fin with | .done f => R (.ok f) s' | .again c' => c'.quiet = true ∧ codeAny (Mg prog w) A c' R s') (fun e s' => R (.error e) s') s) :
    codeAny (Mg prog w) A (.call (.ref bm) ⟨[], []⟩) R s := by
  refine codeAny_of_tree ?_
  show wpAny _ _ (denG (.call (.ref bm) ⟨[], []⟩)) _ _ _
  rw [denG_of_not rfl]
  show wpAny _ _ (load bm >>= _) _ _ _
  refine wpAny_bind (wpAny_load hb ?_)
  show wpAny _ _ (checkBoundCall "_sre.SRE_Scanner.search" ⟨[.ref sc], []⟩ >>= _) _ _ _
  refine wpAny_bind (bound_check ho ?_)
  refine wpAny_bind (wpAny_pure (wpAny_pure ⟨plainId_quiet (by decide +kernel) _, codeAny_of_tree ?_⟩))
  show wpAny _ _ (denG (.builtin "_sre.SRE_Scanner.search" ⟨[.ref sc], []⟩)) _ _ _
  rw [denG_of_not rfl, den_builtin, entry_scan_search]
  exact h
end
end Mine

end
section
open PySem PySem.W PySem.Calls PyProof.Rows
set_option Elab.async false
set_option maxRecDepth 100000
namespace Mine
open PySem.Builtin.Re
open Sem (wp)

theorem sub_mat_none : isSubtype (.type "re.Match") (.type "NoneType") = pure false := by rw [isSubtype_type]; kernel_rfl
theorem slot_mat_eq : PySem.Slot "re.Match" (cmpInfo .Eq).2.2 "object.__eq__" :=
  .of (owner := "object") (n := "__eq__") (by rw [typeLookup_type, builtinLookup_eq_fast]; kernel_rfl) (by decide +kernel) (by decide +kernel) (by decide +kernel)
    (by first | exact .inl (by decide +kernel) | exact .inr (by decide +kernel)) (by rw [isSubtype_type]; kernel_rfl)
theorem entry_obj_eq : entryFor table "object.__eq__" = some Builtin.«object.__eq__» := entryFor_of_tree (by kernel_rfl)
theorem args_obj_eq (a b : Value) : argsOk "object.__eq__" ⟨[a, b], []⟩ := by unfold argsOk; kernel_rfl

section
variable {prog : Program} {w : World} {A : Around} {E : Value → Shared → Prop} {s : Shared}
theorem none_eq {m : Addr} {o : Obj} {Q : Bool → Shared → Prop} (hu : A.units < cLine) (ho : s.heap.get? m = some o) (hc : o.cls = .type "re.Match") (h : Q false s) : wpAny (model prog w) A (eqBool .none (.ref m)) Q E s := by
  have hT : s.TypeIs (.ref m) "re.Match" := ⟨o, ho, hc⟩
  have hN : s.TypeIs .none "NoneType" := rfl
  unfold eqBool
  refine wpAny_holding ?_
  show wpAny _ _ (if (Value.none == Value.ref m) = true then _ else _) _ _ _
  rw [if_neg (show ¬ ((Value.none == Value.ref m) = true) from Bool.false_ne_true)]
  show wpAny _ _ (richCompare .Eq .none (.ref m) >>= truthOfDropped) _ _ _
  refine wpAny_bind ?_
  unfold richCompare
  refine wpAny_holding (wpAny_bind (wpAny_cRoomFor hu ?_))
  show wpAny _ _ (typeOf .none >>= _) _ _ _
  refine wpAny_bind (wpAny_typeOf hN (wpAny_bind (wpAny_typeOf hT ?_)))
  show wpAny _ _ (isSubtype (.type "re.Match") (.type "NoneType") >>= _) _ _ _
  refine wpAny_bind (wpAny_of_eq sub_mat_none ?_)
  simp only [Bool.false_eq_true, if_false]
  show wpAny _ _ (tryCompare .none (cmpInfo .Eq).2.1 (.ref m) >>= _) _ _ _
  have t1 : ∀ {Q : Option Value → Shared → Prop}, Q none s → wpAny (model prog w) A (tryCompare .none (cmpInfo .Eq).2.1 (.ref m)) Q E s := fun hq => by
    unfold tryCompare
    refine wpAny_bind (wpAny_callSpecialIfBound?_slot hN F.slot_NoneType_eq (wpAny_call_entry F.slot_NoneType_eq hN F.entry_NoneType_eq ?_ (F.args_NoneType_eq_2 _ _)))
    exact wpAny_pure ⟨_, rfl, wpAny_pure hq⟩
  have t2 : ∀ {Q : Option Value → Shared → Prop}, Q none s → wpAny (model prog w) A (tryCompare (.ref m) (cmpInfo .Eq).2.2 .none) Q E s := fun hq => by
    unfold tryCompare
    refine wpAny_bind (wpAny_callSpecialIfBound?_slot hT slot_mat_eq (wpAny_call_entry slot_mat_eq hT entry_obj_eq ?_ (args_obj_eq _ _)))
    exact wpAny_pure ⟨_, rfl, wpAny_pure hq⟩
  refine wpAny_bind (t1 ?_)
  simp only [Bool.not_false, if_true]
  refine wpAny_bind (t2 ?_)
  exact wpAny_bind (wpAny_rule (wpAny_bind (wpAny_pure (wpAny_pure (wpAny_pure h)))))
end

/-! runs that may raise, in contexts whose callers run no callable iterator -/
noncomputable def W1 {α : Type} (prog : Program) (w : World) (A : Around) (t : Sem α) (Q : α → Shared → Prop) (E : Value → Shared → Prop) (s : Shared) : Prop :=
  ∀ Γ p, Γ.In A → CleanB Γ → Sem.wp (Mg prog w) Γ t (fun a _ s' => Q a s') (fun e _ s' => E e s') p s
noncomputable def C1 (prog : Program) (w : World) (A : Around) (c : Code) (R : Result → Shared → Prop) (s : Shared) : Prop :=
  ∀ Γ p, Γ.code = c → Γ.Below A → CleanB Γ → wpCode (Mg prog w) Γ R p s
section
variable {α β : Type} {prog : Program} {w : World} {A : Around} {E : Value → Shared → Prop} {s : Shared}
theorem W1.of_any {t : Sem α} {Q : α → Shared → Prop} (h : wpAny (Mg prog w) A t Q E s) : W1 prog w A t Q E s := fun Γ p hΓ _ => h Γ p hΓ
theorem W1.mono {t : Sem α} {Q Q' : α → Shared → Prop} {E' : Value → Shared → Prop} (h : W1 prog w A t Q E s) (hQ : ∀ a s', Q a s' → Q' a s') (hE : ∀ a s', E a s' → E' a s') : W1 prog w A t Q' E' s :=
  fun Γ p hΓ hc => Sem.wp_mono _ Γ t (fun a _ s => hQ a s) (fun e _ s => hE e s) p s (h Γ p hΓ hc)
theorem W1.bind {m : Sem α} {f : α → Sem β} {Q : β → Shared → Prop} (h : W1 prog w A m (fun a s' => W1 prog w A (f a) Q E s') E s) : W1 prog w A (m >>= f) Q E s := fun Γ p hΓ hc => by
  rw [Sem.wp_bind']
  exact Sem.wp_mono _ Γ m (fun a p' s' h' => h' Γ p' hΓ hc) (fun _ _ _ h' => h') p s (h Γ p hΓ hc)
theorem W1.attempt {m : Sem α} {Q : Except Value α → Shared → Prop} (h : W1 prog w A m (fun a => Q (.ok a)) (fun e => Q (.error e)) s) : W1 prog w A m.attempt Q E s := fun Γ p hΓ hc => by
  rw [Sem.wp_attempt]
  exact h Γ p hΓ hc
theorem W1.holding {vs : List Value} {m : Sem α} {Q : α → Shared → Prop} (h : W1 prog w A m Q E s) : W1 prog w A (PySem.holding vs m) Q E s :=
  fun Γ p hΓ hc => by rw [Sem.wp_holding]; exact h Γ p hΓ hc
theorem W1.pure {a : α} {Q : α → Shared → Prop} (h : Q a s) : W1 prog w A (Pure.pure a) Q E s := fun _ _ _ _ => h
theorem W1.stack {Q : List (Code × Pos) → Shared → Prop} (h : ∀ c p below, (∀ x ∈ below, notCI x.1 = true) → Q ((c, p) :: below) s) : W1 prog w A PySem.stack Q E s := fun Γ p _ hc => by
  show Q ((Γ.code, p) :: Γ.below) s
  exact h _ _ _ hc
theorem C1.of_tree {c : Code} {R : Result → Shared → Prop} (hask : isAsk c = false)
    (h : W1 prog w (A.under c) (denote table c) (fun fin s' => match fin with | .done f => R (.ok f) s' | .again c' => c'.quiet = true ∧ C1 prog w A c' R s') (fun e s' => R (.error e) s') s) : C1 prog w A c R s := fun Γ p hc hΓ hb => by
  rw [wpCode_iff_wp, hc]
  show Sem.wp (Mg prog w) Γ (denG c) _ _ p s
  rw [denG_of_not hask]
  refine Sem.wp_mono _ Γ _ (fun fin p' s' h' => ?_) (fun _ _ _ h' => h') p s (h Γ p (hc ▸ hΓ.in) hb)
  cases fin with
  | done f => exact h'
  | again c' => exact ⟨h'.1, h'.2 (Γ.goto c') p' rfl (hΓ.goto c') hb⟩

end
end Mine

end
section
open PySem PySem.W PySem.Calls PyProof.Rows
set_option Elab.async false
set_option maxRecDepth 100000
namespace Mine
open PySem.Builtin.Re
open Sem (wp)

noncomputable def WE {α : Type} (prog : Program) (w : World) (A : Around) (t : Sem α) (Q : α → Shared → Prop) (E : Value → Shared → Prop) (s : Shared) : Prop :=
  ∀ Γ p, Γ.In A → Clean Γ → Sem.wp (Mg prog w) Γ t (fun a _ s' => Q a s') (fun e _ s' => E e s') p s
section
variable {α β : Type} {prog : Program} {w : World} {A : Around} {E : Value → Shared → Prop} {s : Shared}
theorem WE.of_any {t : Sem α} {Q : α → Shared → Prop} (h : wpAny (Mg prog w) A t Q E s) : WE prog w A t Q E s := fun Γ p hΓ _ => h Γ p hΓ
theorem WE.bind {m : Sem α} {f : α → Sem β} {Q : β → Shared → Prop} (h : WE prog w A m (fun a s' => WE prog w A (f a) Q E s') E s) : WE prog w A (m >>= f) Q E s := fun Γ p hΓ hc => by
  rw [Sem.wp_bind']
  exact Sem.wp_mono _ Γ m (fun a p' s' h' => h' Γ p' hΓ hc) (fun _ _ _ h' => h') p s (h Γ p hΓ hc)
theorem WE.holding {vs : List Value} {m : Sem α} {Q : α → Shared → Prop} (h : WE prog w A m Q E s) : WE prog w A (PySem.holding vs m) Q E s :=
  fun Γ p hΓ hc => by rw [Sem.wp_holding]; exact h Γ p hΓ hc
theorem WE.pure {a : α} {Q : α → Shared → Prop} (h : Q a s) : WE prog w A (Pure.pure a) Q E s := fun _ _ _ _ => h
theorem WE.call {f : Value} {pos : List Value} {Q : Value → Shared → Prop} (hc : C1 prog w A (.call f ⟨pos, []⟩) (fun r s' => match r with | .ok (.ret v) => Q v s' | .ok _ => False | .error e => E e s') s) :
    WE prog w A (PySem.call f pos) Q E s := fun Γ p hΓ hcl => by
  unfold PySem.call
  rw [Sem.wp_runValue]
  exact hc _ p rfl (by have := hΓ.enter (.call f ⟨pos, []⟩) none p (by intro x; cases x); exact this) (clean_enter hcl _ none p)
theorem W.attemptE {m : Sem α} {Q : Except Value α → Shared → Prop} (h : WE prog w A m (fun a => Q (.ok a)) (fun e => Q (.error e)) s) : W prog w A m.attempt Q s := fun _ Γ p hΓ hcl => by
  rw [Sem.wp_attempt]; exact h Γ p hΓ hcl
theorem WE.mono {t : Sem α} {Q Q' : α → Shared → Prop} (h : WE prog w A t Q E s) (hQ : ∀ a s', Q a s' → Q' a s') : WE prog w A t Q' E s :=
  fun Γ p hΓ hc => Sem.wp_mono _ Γ t (fun a _ s => hQ a s) (fun _ _ _ h => h) p s (h Γ p hΓ hc)
end

theorem slot_ci_next : PySem.Slot "callable_iterator" "__next__" "callable_iterator.__next__" :=
  .of (owner := "callable_iterator") (n := "__next__") (by rw [typeLookup_type, builtinLookup_eq_fast]; kernel_rfl) (by decide +kernel) (by decide +kernel) (by decide +kernel)
    (by first | exact .inl (by decide +kernel) | exact .inr (by decide +kernel)) (by rw [isSubtype_type]; kernel_rfl)
theorem entry_ci_next : entryFor table "callable_iterator.__next__" = some Builtin.«callable_iterator.__next__» := entryFor_of_tree (by kernel_rfl)
theorem args_ci_next (a : Value) : argsOk "callable_iterator.__next__" ⟨[a], []⟩ := by unfold argsOk; kernel_rfl

structure CIAt (h : Heap) (ci bm sc pat ct : Addr) (l : List Nat) (tk : Tok) (st : Int) : Prop where
  oci : h.get? ci = some { cls := .type "callable_iterator", data := .fields #[.ref bm, .none, .bool false] }
  obm : h.get? bm = some { cls := .type "builtin_function_or_method", data := .fields #[.builtin "_sre.SRE_Scanner.search", .ref sc] }
  osc : h.get? sc = some (scanObj pat l tk st)
  opat : PatAt h pat ct
  ne : ci ≠ sc ∧ bm ≠ sc ∧ pat ≠ sc ∧ ct ≠ sc

theorem PatAt.at {h h' : Heap} {pat ct : Addr} (x : PatAt h pat ct) (h1 : ∀ o, h.get? pat = some o → h'.get? pat = some o) (h2 : ∀ o, h.get? ct = some o → h'.get? ct = some o) : PatAt h' pat ct :=
  let ⟨p0, p1, p3, p4, e⟩ := x.obj
  let ⟨n, e'⟩ := x.code
  ⟨⟨p0, p1, p3, p4, h1 _ e⟩, ⟨n, h2 _ e'⟩⟩
theorem CIAt.next {h h' : Heap} {ci bm sc pat ct : Addr} {l : List Nat} {tk : Tok} {st st' : Int} (x : CIAt h ci bm sc pat ct l tk st) (hs : Heap.SameBut sc h h') (ho : h'.get? sc = some (scanObj pat l tk st')) : CIAt h' ci bm sc pat ct l tk st' :=
  ⟨hs.extBut _ _ x.ne.1 x.oci, hs.extBut _ _ x.ne.2.1 x.obm, ho, x.opat.at (fun o e => hs.extBut _ _ x.ne.2.2.1 e) (fun o e => hs.extBut _ _ x.ne.2.2.2 e), x.ne⟩
section
variable {prog : Program} {w : World} {A : Around} {E : Value → Shared → Prop} {s : Shared}
theorem borrows_no {bm sc : Addr} {Q : Bool → Shared → Prop} {M : Model} (hb : s.heap.get? bm = some { cls := .type "builtin_function_or_method", data := .fields #[.builtin "_sre.SRE_Scanner.search", .ref sc] }) (h : Q false s) : wpAny M A (borrowsExactly (.ref bm)) Q E s := by
  unfold borrowsExactly
  show wpAny _ _ (load bm >>= _) _ _ _
  refine wpAny_bind (wpAny_load hb ?_)
  exact wpAny_pure h

/-- the iterator's call of its scanner -/
theorem slot_call {ci bm sc pat ct : Addr} {l : List Nat} {tk : Tok} {st : Nat} {Q : Value → Shared → Prop} (I : CIAt s.heap ci bm sc pat ct l tk (st : Nat)) (hst : st ≤ l.length) (hn : l.length ≤ 16777216)
    (hsome : ∀ b e g h', findM st (l.drop st) = some (b, e, g) → h'.get? sc = some (scanObj pat l tk (e : Nat)) → Heap.SameBut sc s.heap h' →
      Q (.ref (h'.objs.size + 1)) { s with heap := (h'.push { cls := .type "tuple", data := .seq (matSpans b e g).toArray }).push { cls := .type "re.Match", data := .fields #[.str ⟨l.toArray⟩ tk, .ref pat, rawInt 0, rawInt (l.length : Nat), rawInt g, .ref h'.objs.size] } })
    (hnone : ∀ h', findM st (l.drop st) = none → h'.get? sc = some (scanObj pat l tk (-1)) → Heap.SameBut sc s.heap h' → Q .none { s with heap := h' }) :
    wpAny (Mg prog w) A (callOutOfASlot (.ref bm)) Q E s := by
  unfold callOutOfASlot
  refine wpAny_bind (borrows_no I.obm ?_)
  simp only [Bool.false_eq_true, if_false]
  exact wpAny_call (bound_call I.obm I.osc (scan_ok I.opat I.osc hst hn (fun b e g h' h1 h2 h3 => hsome b e g h' h1 h2 h3) (fun h' h1 h2 h3 => hnone h' h1 h2 h3)))

theorem ci_item {ci bm sc pat ct : Addr} {l : List Nat} {tk : Tok} {st b e g : Nat} {Q : Option Value → Shared → Prop} (hu : A.units + 100 < cLine) (I : CIAt s.heap ci bm sc pat ct l tk (st : Nat)) (hst : st ≤ l.length) (hn : l.length ≤ 16777216) (hf : findM st (l.drop st) = some (b, e, g))
    (hQ : ∀ h', CIAt h' ci bm sc pat ct l tk (e : Nat) → Heap.SameBut sc s.heap h' → 
      Q (some (.ref (h'.objs.size + 1))) { s with heap := (h'.push { cls := .type "tuple", data := .seq (matSpans b e g).toArray }).push { cls := .type "re.Match", data := .fields #[.str ⟨l.toArray⟩ tk, .ref pat, rawInt 0, rawInt (l.length : Nat), rawInt g, .ref h'.objs.size] } }) :
    W prog w A (pyNext (.ref ci)) Q s := by
  have hT : s.TypeIs (.ref ci) "callable_iterator" := ⟨_, I.oci, rfl⟩
  unfold pyNext
  refine W.bind (W.attemptE ?_)
  simp only [callSpecial?]
  refine WE.bind (WE.of_any (wpAny_specialOf hT slot_ci_next.lookup ?_))
  simp only [slot_ci_next.bind]
  refine WE.holding (WE.bind (WE.pure (WE.bind (WE.call ?_))))
  refine C1.of_tree rfl (W1.bind (W1.of_any (slot_ci_next.check _ _ _ _ _ _ _ _ hT (args_ci_next _) ?_)))
  refine W1.pure ⟨plainId_quiet slot_ci_next.plain _, C1.of_tree rfl ?_⟩
  rw [den_builtin, entry_ci_next]
  show W1 _ _ _ (field (.ref ci) 2 >>= _) _ _ _
  refine W1.bind (W1.of_any (wpAny_field I.oci rfl (x := .bool false) rfl ?_))
  show W1 _ _ _ (if (Value.bool false == Value.bool true) = true then _ else _) _ _ _
  rw [if_neg (show ¬ ((Value.bool false == Value.bool true) = true) by decide)]
  show W1 _ _ _ (field (.ref ci) 0 >>= _) _ _ _
  refine W1.bind (W1.of_any (wpAny_field I.oci rfl (x := .ref bm) rfl ?_))
  refine W1.bind (W1.attempt (W1.of_any (slot_call I hst hn ?_ fun h' h1 => by rw [hf] at h1; cases h1)))
  intro b' e' g' h' h1 h2 h3
  rw [hf] at h1
  cases h1
  have I' := I.next h3 h2
  generalize hH : (h'.push { cls := .type "tuple", data := .seq (matSpans b e g).toArray }).push { cls := .type "re.Match", data := .fields #[.str ⟨l.toArray⟩ tk, .ref pat, rawInt 0, rawInt (l.length : Nat), rawInt g, .ref h'.objs.size] } = H
  have hci : ({ s with heap := H } : Shared).heap.get? ci = some { cls := .type "callable_iterator", data := .fields #[.ref bm, .none, .bool false] } := by
    show H.get? ci = _
    rw [← hH]
    exact Heap.get?_push_of_some _ (Heap.get?_push_of_some _ I'.oci)
  have hmt : ({ s with heap := H } : Shared).heap.get? (h'.objs.size + 1) = some { cls := .type "re.Match", data := .fields #[.str ⟨l.toArray⟩ tk, .ref pat, rawInt 0, rawInt (l.length : Nat), rawInt g, .ref h'.objs.size] } := by
    show H.get? _ = _
    rw [← hH, ← Heap.size_push (h := h') (o := { cls := .type "tuple", data := .seq (matSpans b e g).toArray })]
    exact Heap.get?_push_size _ rfl
  show W1 _ _ _ (field (.ref ci) 2 >>= _) _ _ _
  refine W1.bind (W1.of_any (wpAny_field hci rfl (x := .bool false) rfl ?_))
  show W1 _ _ _ (if (Value.bool false == Value.bool true) = true then _ else _) _ _ _
  rw [if_neg (show ¬ ((Value.bool false == Value.bool true) = true) by decide)]
  show W1 _ _ _ (field (.ref ci) 1 >>= _) _ _ _
  refine W1.bind (W1.of_any (wpAny_field hci rfl (x := .none) rfl ?_))
  refine W1.bind (W1.holding (W1.of_any (any_mono_model (none_eq ?_ hmt rfl ?_))))
  · rw [Around.under_plainId slot_ci_next.plain]; show A.units + 1 < cLine; omega
  simp only [Bool.not_false, if_true]
  refine W1.pure ?_
  show WE _ _ _ _ _ _ _
  refine WE.pure (W.pure ?_)
  have := hQ h' I' h3
  rw [hH] at this
  exact this
end
end Mine

end
section
open PySem PySem.W PySem.Calls PyProof.Rows
set_option Elab.async false
set_option maxRecDepth 100000
namespace Mine
open PySem.Builtin.Re
open Sem (wp)

section
variable {prog : Program} {w : World} {A : Around} {E : Value → Shared → Prop} {s : Shared}
theorem lets_go {bm sc : Addr} {who : String} {busy : Code → Bool} {Q : Unit → Shared → Prop} (hb : s.heap.get? bm = some { cls := .type "builtin_function_or_method", data := .fields #[.builtin "_sre.SRE_Scanner.search", .ref sc] }) (hbusy : ∀ c, notCI c = true → busy c = false) (h : Q () s) :
    W1 prog w A (slotLetsGo who (.ref bm) busy) Q E s := by
  unfold slotLetsGo
  refine W1.bind (W1.of_any (borrows_no hb ?_))
  simp only [Bool.false_eq_true, if_false]
  refine W1.bind (W1.stack fun c p below hbl => ?_)
  have : ((List.drop 1 ((c, p) :: below)).any fun x => match x with | (c, _) => busy c) = false := by
    rw [List.any_eq_false]
    intro x hx
    simp at hx
    have := hbusy x.1 (hbl x hx)
    simp [this]
  rw [if_neg (by intro hh; rw [this] at hh; cases hh)]
  exact W1.pure h

theorem busy_no (self : Value) : ∀ c, notCI c = true → (fun (c : Code) => match c with | .builtin "callable_iterator.__next__" x => x.pos.head? == some self | _ => false) c = false := fun c h => by
  simp only
  split
  · cases h
  · rfl

theorem ci_done {ci bm sc pat ct : Addr} {l : List Nat} {tk : Tok} {st : Nat} {Q : Option Value → Shared → Prop} (hh : A.handled = none) (I : CIAt s.heap ci bm sc pat ct l tk (st : Nat)) (hst : st ≤ l.length) (hn : l.length ≤ 16777216) (hf : findM st (l.drop st) = none)
    (hQ : ∀ h', (∀ a o, a ≠ sc → a ≠ ci → s.heap.get? a = some o → h'.get? a = some o) → Q none { s with heap := h' }) :
    W prog w A (pyNext (.ref ci)) Q s := by
  have hT : s.TypeIs (.ref ci) "callable_iterator" := ⟨_, I.oci, rfl⟩
  unfold pyNext
  refine W.bind (W.attemptE ?_)
  simp only [callSpecial?]
  refine WE.bind (WE.of_any (wpAny_specialOf hT slot_ci_next.lookup ?_))
  simp only [slot_ci_next.bind]
  refine WE.holding (WE.bind (WE.pure (WE.bind (WE.call ?_))))
  refine C1.of_tree rfl (W1.bind (W1.of_any (slot_ci_next.check _ _ _ _ _ _ _ _ hT (args_ci_next _) ?_)))
  refine W1.pure ⟨plainId_quiet slot_ci_next.plain _, C1.of_tree rfl ?_⟩
  rw [den_builtin, entry_ci_next]
  show W1 _ _ _ (field (.ref ci) 2 >>= _) _ _ _
  refine W1.bind (W1.of_any (wpAny_field I.oci rfl (x := .bool false) rfl ?_))
  show W1 _ _ _ (if (Value.bool false == Value.bool true) = true then _ else _) _ _ _
  rw [if_neg (show ¬ ((Value.bool false == Value.bool true) = true) by decide)]
  show W1 _ _ _ (field (.ref ci) 0 >>= _) _ _ _
  refine W1.bind (W1.of_any (wpAny_field I.oci rfl (x := .ref bm) rfl ?_))
  refine W1.bind (W1.attempt (W1.of_any (slot_call I hst hn (fun b' e' g' h' h1 => by rw [hf] at h1; cases h1) fun h' _ h2 h3 => ?_)))
  have I' := I.next h3 h2
  have hci : ({ s with heap := h' } : Shared).heap.get? ci = some { cls := .type "callable_iterator", data := .fields #[.ref bm, .none, .bool false] } := I'.oci
  show W1 _ _ _ (field (.ref ci) 2 >>= _) _ _ _
  refine W1.bind (W1.of_any (wpAny_field hci rfl (x := .bool false) rfl ?_))
  show W1 _ _ _ (if (Value.bool false == Value.bool true) = true then _ else _) _ _ _
  rw [if_neg (show ¬ ((Value.bool false == Value.bool true) = true) by decide)]
  show W1 _ _ _ (field (.ref ci) 1 >>= _) _ _ _
  refine W1.bind (W1.of_any (wpAny_field hci rfl (x := .none) rfl ?_))
  have heq : ∀ {Q : Bool → Shared → Prop} {s : Shared} {A : Around} {E : Value → Shared → Prop}, Q true s → wpAny (Mg prog w) A (eqBool .none .none) Q E s := fun hq => by
    unfold eqBool
    refine wpAny_holding ?_
    show wpAny _ _ (if (Value.none == Value.none) = true then _ else _) _ _ _
    rw [if_pos (by decide)]
    exact wpAny_bind (wpAny_rule (wpAny_pure hq))
  refine W1.bind (W1.holding (W1.of_any (heq ?_)))
  simp only [Bool.not_true, Bool.false_eq_true, if_false]
  show W1 _ _ _ (rule "callable_iterator.__next__.sentinel" >>= _) _ _ _
  refine W1.bind (W1.of_any (wpAny_rule ?_))
  show W1 _ _ _ ((field (.ref ci) 0 >>= fun old => slotLetsGo "callable_iterator.__next__" old (fun c => match c with | .builtin "callable_iterator.__next__" x => x.pos.head? == some (.ref ci) | _ => false) >>= fun _ => setField (.ref ci) 0 .none >>= fun _ => setField (.ref ci) 1 .none >>= fun _ => setField (.ref ci) 2 (.bool true)) >>= _) _ _ _
  refine W1.bind (W1.bind (W1.of_any (wpAny_field hci rfl (x := .ref bm) rfl ?_)))
  refine W1.bind (lets_go I'.obm (busy_no _) ?_)
  refine W1.bind (W1.of_any (wpAny_setField hci rfl (by simp) ?_))
  have hc1 : (h'.update ci (Obj.mapFields (·.setIfInBounds 0 .none))).get? ci = some { cls := .type "callable_iterator", data := .fields #[.none, .none, .bool false] } := Heap.get?_update_self _ hci rfl
  refine W1.bind (W1.of_any (wpAny_setField hc1 rfl (by simp) ?_))
  have hc2 : ((h'.update ci (Obj.mapFields (·.setIfInBounds 0 .none))).update ci (Obj.mapFields (·.setIfInBounds 1 .none))).get? ci = some { cls := .type "callable_iterator", data := .fields #[.none, .none, .bool false] } := Heap.get?_update_self _ hc1 rfl
  refine W1.of_any (wpAny_setField hc2 rfl (by simp) ?_)
  have hs3 : Heap.SameBut ci h' (((h'.update ci (Obj.mapFields (·.setIfInBounds 0 .none))).update ci (Obj.mapFields (·.setIfInBounds 1 .none))).update ci (Obj.mapFields (·.setIfInBounds 2 (.bool true)))) := ((Heap.SameBut.update ..).trans (Heap.SameBut.update ..)).trans (Heap.SameBut.update ..)
  generalize (((h'.update ci (Obj.mapFields (·.setIfInBounds 0 .none))).update ci (Obj.mapFields (·.setIfInBounds 1 .none))).update ci (Obj.mapFields (·.setIfInBounds 2 (.bool true)))) = H3 at hs3
  show W1 _ _ _ (newExc (.type "StopIteration") [] >>= _) _ _ _
  refine W1.of_any (wpAny_bind ?_)
  simp only [newExc, newTuple]
  refine wpAny_bind (wpAny_newObj_type ?_ (by size_fits))
  refine wpAny_bind (m := firstArgMember _ _) (wpAny_of_eq (a := Value.none) (by first | rfl | (simp only [firstArgMember]; rfl)) ?_)
  refine wpAny_newObj_type ?_ (by size_fits)
  simp only [raiseNew]
  refine wpAny_bind (wpAny_handled ?_)
  rw [show (A.under (Code.builtin "callable_iterator.__next__" ⟨[.ref ci] ++ [], []⟩)).handled = none from hh]
  refine wpAny_throw ?_
  refine W.bind (W.of_any (wpAny_isInstance (T := "StopIteration") (b := true) ⟨_, Heap.get?_push_size _ rfl, rfl⟩ isSubtype_stop ?_))
  refine W.pure (hQ _ fun a o h1 h2 e => ?_)
  exact Heap.get?_push_of_some _ (Heap.get?_push_of_some _ (hs3.extBut a o h2 (h3.extBut a o h1 e)))
end
end Mine

end
section
open PySem PySem.W PySem.Calls PyProof.Rows
set_option Elab.async false
set_option maxRecDepth 100000
namespace Mine
open PySem.Builtin.Re
open Sem (wp)

theorem canon_ga : (Manifest.canonical "object.__getattribute__" != "object.__getattribute__") = false := by decide +kernel
theorem get_ref {M : Model} {A : Around} {E : Value → Shared → Prop} {s : Shared} {T : String} {name : Str} {id : String} {l : Addr} {o : Obj} {pl : Sem Bool} {Q : Value × List Value → Shared → Prop}
    (hga : typeLookup (.type T) "__getattribute__" = pure (some (.builtin "object.__getattribute__"))) (hgn : typeLookup (.type T) "__getattr__" = pure none) (slot : PySem.Slot T name id) (ty : typeOf (.builtin id) = pure (.type "method_descriptor"))
    (ho : s.heap.get? l = some o) (hc : o.cls = .type T) (hd : o.dict = none) (h : Q (.builtin id, [.ref l]) s) : wpAny M A (getMethod (.ref l) name pl) Q E s := by
  have hT : s.TypeIs (.ref l) T := ⟨o, ho, hc⟩
  unfold getMethod
  refine wpAny_bind (wpAny_specialOf hT hga ?_)
  show wpAny M A (if (Manifest.canonical "object.__getattribute__" != "object.__getattribute__") = true then _ else _) Q E s
  rw [canon_ga, if_neg Bool.false_ne_true]
  refine wpAny_bind (wpAny_specialOf hT hgn ?_)
  refine wpAny_bind (wpAny_specialOf hT slot.lookup ?_)
  refine wpAny_bind (wpAny_of_eq ty ?_)
  refine wpAny_bind (wpAny_loadPart ho ?_)
  rw [hd]
  exact wpAny_bind (wpAny_rule (wpAny_pure h))

theorem lk_pat_ga : typeLookup (.type "re.Pattern") "__getattribute__" = pure (some (.builtin "object.__getattribute__")) := by rw [typeLookup_type, builtinLookup_eq_fast]; kernel_rfl
theorem lk_pat_gn : typeLookup (.type "re.Pattern") "__getattr__" = pure none := by rw [typeLookup_type, builtinLookup_eq_fast]; kernel_rfl
theorem lk_mat_ga : typeLookup (.type "re.Match") "__getattribute__" = pure (some (.builtin "object.__getattribute__")) := by rw [typeLookup_type, builtinLookup_eq_fast]; kernel_rfl
theorem lk_mat_gn : typeLookup (.type "re.Match") "__getattr__" = pure none := by rw [typeLookup_type, builtinLookup_eq_fast]; kernel_rfl
theorem slot_finditer : PySem.Slot "re.Pattern" "finditer" "re.Pattern.finditer" :=
  .of (owner := "re.Pattern") (n := "finditer") (by rw [typeLookup_type, builtinLookup_eq_fast]; kernel_rfl) (by decide +kernel) (by decide +kernel) (by decide +kernel)
    (by first | exact .inl (by decide +kernel) | exact .inr (by decide +kernel)) (by rw [isSubtype_type]; kernel_rfl)
theorem type_finditer : typeOf (.builtin "re.Pattern.finditer") = pure (.type "method_descriptor") := by show builtinType _ = _; rw [builtinType_eq_fast]; kernel_rfl
theorem entry_finditer : entryFor table "re.Pattern.finditer" = some Builtin.«re.Pattern.finditer» := entryFor_of_tree (by kernel_rfl)
theorem args_finditer (a b : Value) : argsOk "re.Pattern.finditer" ⟨[a, b], []⟩ := by unfold argsOk; kernel_rfl

theorem sub_str_ba : isSubtype (.type "str") (.type "bytearray") = pure false := by rw [isSubtype_type]; kernel_rfl
theorem named_one (id f : String) (v : Value) : reNamed id f ["string", "pos", "endpos"] 1 [v] [] = pure [some v, none, none] := by rfl

section
variable {prog : Program} {w : World} {A : Around} {E : Value → Shared → Prop} {s : Shared}
theorem target2_ok {pat ct : Addr} {l : List Nat} {tk : Tok} {id f : String} {Q : ReTarget → Shared → Prop} (hp : PatAt s.heap pat ct) (hn : l.length ≤ 16777216)
    (h : Q { pattern := .ref pat, string := .str ⟨l.toArray⟩ tk, code := theCode, text := l.toArray, kind := 0, groups := 3, pos := 0, lim := l.length } s) :
    wpAny (model prog w) A (reTarget id f ⟨[.ref pat, .str ⟨l.toArray⟩ tk], []⟩) Q E s := by
  obtain ⟨p0, p1, p3, p4, ho⟩ := hp.obj
  obtain ⟨n, hc⟩ := hp.code
  obtain ⟨hh, gs, d, t, os⟩ := s
  unfold reTarget
  simp only [named_one]
  repeat (any_goals (first | assumption | wp_step))
  simp only [Option.getD_some, code_back]
  have e1 : min ((2 ^ 63 - 1 : Int)).toNat l.toArray.size = l.length := by simp; omega
  have e2 : min (0 : Int).toNat l.toArray.size = 0 := by simp
  simp only [e1, e2]
  exact h

theorem notHeld_ok {M : Model} {id : String} {x : Str} {tk : Tok} {Q : Unit → Shared → Prop} (h : Q () s) : wpAny M A (reNotHeld id (.str x tk)) Q E s := by
  unfold reNotHeld
  refine wpAny_bind (wpAny_isInstance (typeIs_str _ _ _) sub_str_ba ?_)
  simp only [Bool.false_eq_true, if_false]
  exact wpAny_pure h

theorem finditer_ok {pat ct : Addr} {l : List Nat} {tk : Tok} {Q : Value → Shared → Prop} (hp : PatAt s.heap pat ct) (hn : l.length ≤ 16777216)
    (hlow : pat < s.heap.objs.size ∧ ct < s.heap.objs.size)
    (hQ : ∀ s', Ext s s' → CIAt s'.heap (s.heap.objs.size + 2) (s.heap.objs.size + 1) s.heap.objs.size pat ct l tk ((0 : Nat) : Int) → s'.heap.objs.size = s.heap.objs.size + 3 → Q (.ref (s.heap.objs.size + 2)) s') :
    wpAny (model prog w) A (PySem.call (.builtin "re.Pattern.finditer") [.ref pat, .str ⟨l.toArray⟩ tk]) Q E s := by
  obtain ⟨p0, p1, p3, p4, ho⟩ := hp.obj
  have hT : s.TypeIs (.ref pat) "re.Pattern" := ⟨_, ho, rfl⟩
  refine wpAny_call_entry slot_finditer hT entry_finditer ?_ (args_finditer _ _)
  unfold Builtin.«re.Pattern.finditer»
  refine wpAny_bind (target2_ok hp hn (wpAny_bind (notHeld_ok (wpAny_bind (wpAny_newObj_type ?_ (by size_fits))))))
  have hsc : (s.heap.push { cls := .type "_sre.SRE_Scanner", data := .fields #[.ref pat, .str ⟨l.toArray⟩ tk, rawInt ((0 : Nat) : Int), rawInt ((0 : Nat) : Int), rawInt (l.length : Nat), .bool false] }).get? s.heap.objs.size = some (scanObj pat l tk ((0 : Nat) : Int)) := Heap.get?_push_size _ rfl
  obtain ⟨hh, gs, d, t, os⟩ := s
  refine wpAny_bind (wpAny_holding (search_attr hsc (wpAny_bind (wpAny_newObj_type (wpAny_pure ⟨_, rfl, ?_⟩) (by size_fits)))))
  have h1 : (hh.push (scanObj pat l tk ((0 : Nat) : Int))).objs.size = hh.objs.size + 1 := Heap.size_push ..
  have h2 : ((hh.push (scanObj pat l tk ((0 : Nat) : Int))).push { cls := .type "builtin_function_or_method", data := .fields #[.builtin "_sre.SRE_Scanner.search", .ref hh.objs.size] }).objs.size = hh.objs.size + 2 := by rw [Heap.size_push, h1]
  have h3 : (((hh.push (scanObj pat l tk ((0 : Nat) : Int))).push { cls := .type "builtin_function_or_method", data := .fields #[.builtin "_sre.SRE_Scanner.search", .ref hh.objs.size] }).push { cls := .type "callable_iterator", data := .fields #[.ref (hh.objs.size + 1), .none, .bool false] }).objs.size = hh.objs.size + 3 := by rw [Heap.size_push, h2]
  have keep : ∀ a o, hh.get? a = some o → (((hh.push (scanObj pat l tk ((0 : Nat) : Int))).push { cls := .type "builtin_function_or_method", data := .fields #[.builtin "_sre.SRE_Scanner.search", .ref hh.objs.size] }).push { cls := .type "callable_iterator", data := .fields #[.ref (hh.objs.size + 1), .none, .bool false] }).get? a = some o := fun a o e => Heap.get?_push_of_some _ (Heap.get?_push_of_some _ (Heap.get?_push_of_some _ e))
  have hq := hQ ⟨((hh.push (scanObj pat l tk ((0 : Nat) : Int))).push { cls := .type "builtin_function_or_method", data := .fields #[.builtin "_sre.SRE_Scanner.search", .ref hh.objs.size] }).push { cls := .type "callable_iterator", data := .fields #[.ref (hh.objs.size + 1), .none, .bool false] }, gs, d, t + 1, os⟩
    ⟨rfl, rfl, by show hh.objs.size ≤ Array.size _; rw [h3]; exact Nat.le_add_right _ _, keep⟩
    ⟨by rw [← h2]; exact Heap.get?_push_size _ rfl, by rw [← h1]; exact Heap.get?_push_of_some _ (Heap.get?_push_size _ rfl), Heap.get?_push_of_some _ (Heap.get?_push_of_some _ hsc), hp.at (fun o e => keep _ o e) (fun o e => keep _ o e),
      Nat.ne_of_gt (Nat.lt_add_of_pos_right (by decide)), Nat.ne_of_gt (Nat.lt_add_of_pos_right (by decide)), Nat.ne_of_lt hlow.1, Nat.ne_of_lt hlow.2⟩ h3
  rw [← h2, ← h1] at hq
  exact hq
end
end Mine

end
section
open PySem PySem.W PySem.Calls PyProof.Rows
set_option Elab.async false
set_option maxRecDepth 100000
namespace Mine
open PySem.Builtin.Re
open Sem (wp)

theorem fn_call {cx : Cx} {k : Nat} {a : Addr} {o : Obj} {name : Str} {params : Arguments} {body : List Stmt} {scope : Scope} {pm cd doc : Value} {xs rest : List Str}
    (ho : cx.h₁.get? a = some o) (hd : o.data = .func (docDef name params body scope pm cd doc)) (hcd : cx.h₁.CodeRec cd name)
    (hbind : ∀ vs : List Value, vs.length = xs.length → bindArgs (docDef name params body scope pm cd doc) ⟨vs, []⟩ = pure (xs.zip vs))
    {A : Around} {V : Avd} {s : Shared} {ds : List D} {vs : List Value} {Q : Value → Shared → Prop} (hA : Room A (k + 1)) (hV : ∀ p, V p → p < s.heap.objs.size) (hbase' : Base cx s.heap) (ra : RdAll cx s.heap V ds vs) (hlen : ds.length = xs.length)
    (hQ : ∀ (env : Env) (vm : Str → Option Value) (s' : Shared), FrV cx scope ((xs ++ rest).map some) env V (fun _ => none) vm s' (ds.map .val ++ List.replicate rest.length .unb) → Ext s s' → Room (A.deeper env) k →
      W cx.prog cx.w (A.deeper env) (execs body env) (fun f s₂ => Q (match f with | .ret v => v | _ => .none) s₂) s')
    (hnd : decide (xs ++ rest).Nodup = true := by decide) (hnames : decide (scope.names.map (·.1)).Nodup = true := by decide)
    (hknown : ((xs ++ rest).all fun x => scope.names.lookup x == some .local || scope.names.lookup x == some .cell) = true := by decide)
    (hco : scope.isCoroutine = false := by rfl) (hgen : scope.isGenerator = false := by rfl) (hk : scope.kind = .function := by rfl) : W cx.prog cx.w A (PySem.call (.ref a) vs) Q s := by
  have hbase := hbase'.2
  have hnd := of_decide_eq_true hnd
  have hnames := of_decide_eq_true hnames
  have hkn : ∀ x ∈ xs ++ rest, scope.names.lookup x = some .local ∨ scope.names.lookup x = some .cell := fun x hx => by
    have := List.all_eq_true.mp hknown x hx
    simpa using this
  have hlv : vs.length = xs.length := by rw [ra.length, hlen]
  refine W.call (C.call_function (by have := hA.2.1; omega) (hbase a o ho) hd hco hgen rfl (hcd.keeps hbase) ?_)
  rw [hbind vs hlv]
  have hmem : ∀ x, scope.names.lookup x = some .cell → (x, NameKind.cell) ∈ scope.names := fun x hx => mem_of_lookup hx
  refine wpAny_pure (wpAny_newFunctionEnv_cells hk (fun x hx => ?_) fun env he s' x => ?_)
  · have hx' : x.1 ∈ xs := (List.of_mem_zip hx).1
    rcases hkn x.1 (List.mem_append_left _ hx') with h1 | h1
    · exact .inl h1
    · exact .inr ⟨h1, cellsFrom_has _ _ _ _ (hmem _ h1)⟩
  refine ⟨(cx.lim.keeps hbase).keeps x.toInCall.keep, C.func ?_⟩
  obtain ⟨hh, tk, hs'⟩ := x.toInCall.same
  have hkeep := x.toInCall.keep
  have hEs : env.scope = scope := by rw [he]; rfl
  have hEl : env.locals = s.heap.objs.size := by rw [he]; rfl
  have hEc : env.cells = cellsFrom (s.heap.objs.size + 1) scope.names [] := by rw [he]; rfl
  have hEg : env.globals = mainGlobals := by rw [he]; rfl
  have hEb : env.builtins = builtinsNs := by rw [he]; rfl
  have hsz : s.heap.objs.size ≤ s'.heap.objs.size := by
    have h0 := x.toInCall.ns.lt
    rw [hEl] at h0; exact Nat.le_of_lt h0
  have X : Ext s s' := ⟨by rw [hs'], by rw [hs'], hsz, hkeep⟩
  have hkind : ∀ y, env.kindOf y = scope.names.lookup y := fun y => by show env.scope.names.lookup y = _; rw [hEs]
  have hge1 : cx.h₁.objs.size ≤ s.heap.objs.size := hbase'.1
  let vm : Str → Option Value := fun y => if scope.names.lookup y = some .local then bindL env.kindOf (xs.zip vs) (fun _ => none) y else bindC env.kindOf (xs.zip vs) (fun _ => none) y
  have hvm : ∀ y, vm y = (xs.zip vs).reverse.lookup y := fun y => by
    show (if scope.names.lookup y = some .local then _ else _) = _
    split
    · rename_i hy; rw [bindL_get _ _ _ _ (by rw [hkind]; exact hy)]; simp
    · rename_i hy; rw [bindC_get _ _ _ _ (by rw [hkind]; exact hy)]; simp
  have F : FrV cx scope ((xs ++ rest).map some) env V (fun _ => none) vm s' (ds.map .val ++ List.replicate rest.length .unb) := {
    scope := hEs, kind := hk, glob := hEg, blt := hEb
    base := fun b o' e => hkeep b o' (hbase b o' e)
    ns := ⟨_, x.toInCall.ns, fun y hy => by show _ = (if scope.names.lookup y = some .local then _ else _); rw [if_pos hy]⟩
    cell := fun y c hc => by
      have := x.cell y c hc
      have hy : scope.names.lookup y ≠ some .local := by
        have hm := mem_of_lookup hc
        rw [hEc] at hm
        rcases cellsFrom_mem _ _ _ _ _ hm with h' | h'
        · cases h'
        · rw [lookup_of_mem hnames h']; intro e; cases e
      show s'.heap.IsCell c (if scope.names.lookup y = some .local then _ else _)
      rw [if_neg hy]; exact this
    apart := x.apart
    fresh := fun b hb => by
      rcases hb with ⟨j, hj⟩ | hb | ⟨y, hy⟩
      · cases hj
      · subst hb; exact ⟨by rw [hEl]; exact hge1, x.toInCall.ns.lt⟩
      · have h0 := x.above y b (mem_of_lookup hy)
        exact ⟨by rw [hEl] at h0; exact Nat.le_trans hge1 (Nat.le_of_lt h0), (x.cell y b hy).lt⟩
    nsCell := fun y hy => Nat.lt_irrefl _ (x.above y _ (mem_of_lookup hy))
    av := fun b hb => Nat.lt_of_lt_of_le (hV b hb) hsz
    len := by simp [hlen]
    tabInj := fun i j y h1 h2 => by
      rw [List.getElem?_map, Option.map_eq_some_iff] at h1 h2
      obtain ⟨y1, h1, e1⟩ := h1
      obtain ⟨y2, h2, e2⟩ := h2
      cases e1; cases e2
      have hi : i < (xs ++ rest).length := by
        rcases Nat.lt_or_ge i (xs ++ rest).length with h' | h'
        · exact h'
        · rw [List.getElem?_eq_none h'] at h1; cases h1
      exact (List.getElem?_inj hi hnd).mp (h1.trans h2.symm)
    cellNL := fun y c hc => by
      have hm := mem_of_lookup hc
      rw [hEc] at hm
      rcases cellsFrom_mem _ _ _ _ _ hm with h' | h'
      · cases h'
      · rw [lookup_of_mem hnames h']; intro e; cases e
    known := fun i y h1 => by
      rw [List.getElem?_map, Option.map_eq_some_iff] at h1
      obtain ⟨y1, h1, e1⟩ := h1
      cases e1
      rcases hkn y (List.mem_of_getElem? h1) with h' | h'
      · exact .inl h'
      · exact .inr ⟨.inl h', by rw [hEc]; exact cellsFrom_has _ _ _ _ (hmem _ h')⟩
    slots := fun i y sl h1 h2 => by
      rw [List.getElem?_map, Option.map_eq_some_iff] at h1
      obtain ⟨y1, h1, e1⟩ := h1
      cases e1
      rcases Nat.lt_or_ge i xs.length with hi | hi
      · rw [List.getElem?_append_left hi] at h1
        rw [List.getElem?_append_left (by simpa [hlen] using hi), List.getElem?_map, Option.map_eq_some_iff] at h2
        obtain ⟨d', h2, e2⟩ := h2
        subst e2
        obtain ⟨v', hv', q⟩ := ra.get h2
        refine ⟨v', by rw [hvm]; exact lookup_zip_rev (List.nodup_append.mp hnd).1 hlv h1 hv', ?_⟩
        refine q.mono (fun b o' _ e => hkeep b o' e) fun b hb => ?_
        rcases hb with hb | ⟨j, hj⟩ | hb | ⟨z, hz⟩
        · exact .inl hb
        · cases hj
        · exact .inr (get_none (by rw [hb, hEl]; exact Nat.le_refl _))
        · exact .inr (get_none (by have h0 := x.above z b (mem_of_lookup hz); rw [hEl] at h0; exact Nat.le_of_lt h0))
      · rw [List.getElem?_append_right (by simpa [hlen] using hi)] at h2
        have := List.mem_of_getElem? h2
        rw [List.mem_replicate] at this
        rw [this.2]; trivial
    ownInj := fun i j b h1 _ => by cases h1
    ownSlot := fun i b h1 => by cases h1
    ownApart := fun i b h1 => by cases h1
    ownNP := fun i b h1 => by cases h1 }
  have hA' : Room (A.deeper env) k := ⟨hA.1, by show A.depth + 1 + k < _; have := hA.2.1; omega, by show A.units + 3 + 8 * k + 200 < _; have := hA.2.2; omega⟩
  exact W.mono (hQ env vm s' F X hA') fun f s₂ h₂ => ⟨_, rfl, h₂⟩

end Mine

end
section
open PySem PySem.W PySem.Calls PyProof.Rows
set_option Elab.async false
set_option maxRecDepth 100000
namespace Mine
open PySem.Builtin.Re
open Sem (wp)

/-- what a call of separate gives -/
noncomputable def ConI (cx : Cx) (ct : Addr) (k : Nat) (fv : Value) : Prop :=
  ∀ (A : Around) (V : Avd) (s : Shared) (l : List Nat) (tk : Tok), Room A k → (∀ p, V p → p < s.heap.objs.size) → Base cx s.heap → (∀ c ∈ l, c < 0x110000) → l.length ≤ sizeLine →
    W cx.prog cx.w A (PySem.call fv [.str ⟨l.toArray⟩ tk]) (fun r s' => Ext s s' ∧ ∃ ci bm sc tk', r = .ref ci ∧ CIAt s'.heap ci bm sc cx.pat ct l tk' ((0 : Nat) : Int) ∧ ∀ b ∈ [ci, bm, sc], s.heap.objs.size ≤ b ∧ b < s'.heap.objs.size) s

theorem sep_con {cx : Cx} {ct : Addr} {k : Nat} {a : Addr} {o : Obj} {name px gx : Str} {params : Arguments} {scope : Scope} {pm cd doc : Value} {p1 p2 ap pos rpos : Pos}
    (ho : cx.h₁.get? a = some o) (hd : o.data = .func (docDef name params [.Return (some (.Call (.Attribute (.Name gx p1) "finditer" ap) [.Name px p2] [] pos)) rpos] scope pm cd doc)) (hcd : cx.h₁.CodeRec cd name)
    (hbind : ∀ vs : List Value, vs.length = [px].length → bindArgs (docDef name params [.Return (some (.Call (.Attribute (.Name gx p1) "finditer" ap) [.Name px p2] [] pos)) rpos] scope pm cd doc) ⟨vs, []⟩ = pure ([px].zip vs))
    (hp : PatAt cx.h₁ cx.pat ct) (hg : (cx.mg gx).or (cx.mb gx) = some (.ref cx.pat))
    (hgl : scope.names.lookup gx = some .globalImplicit) (hpx : scope.names.lookup px = some .local) (hgx : (gx == ("__debug__" : Str)) = false) (hpd : (px == ("__debug__" : Str) || px == ("__classdict__" : Str)) = false) (hline : ap.endLine = pos.line)
    (hnames : decide (scope.names.map (·.1)).Nodup = true) (hco : scope.isCoroutine = false) (hgen : scope.isGenerator = false) (hk : scope.kind = .function) : ConI cx ct (k + 1) (.ref a) := fun A V s l tk hA hV hb hl hz => by
  have hsz := szl
  have hr : RdAll cx s.heap V [.str l] [.str ⟨l.toArray⟩ tk] := RdAll.cons (rd_str hl hz) RdAll.nil
  refine fn_call (rest := []) ho hd hcd hbind hA hV hb hr rfl ?_ (by rw [List.append_nil]; simp) hnames (by simp [hpx]) hco hgen hk
  intro env vm s' F X hA'
  rw [execs_cons]
  refine W.bind ?_
  rw [exec_Return_some]
  refine W.bind (W.standAt (W.bind ?_))
  rw [method_split rfl rfl (by show 1 < 29; decide) hline]
  rw [eval_Name env gx p1 hgx]
  refine W.bind (W.bind (W.standAt (F.glob_ hgl hg ?_)))
  have hp' : PatAt s'.heap cx.pat ct := hp.at (fun o e => F.base _ o e) (fun o e => F.base _ o e)
  obtain ⟨q0, q1, q3, q4, hpo⟩ := hp'.obj
  refine W.bind (W.standAt (W.bind (W.holding (W.of_any (get_ref lk_pat_ga lk_pat_gn slot_finditer type_finditer hpo rfl rfl ?_)))))
  have hbk := backTo_plain pos env (es := [.Name px p2]) rfl
  have hes : SEs ⟨cx, scope, ([px] ++ []).map some, k⟩ [.Name px p2] (consF (vE 0) nilF) := ses_cons (se_var (J := ⟨cx, scope, ([px] ++ []).map some, k⟩) (i := 0) rfl hpd) ses_nil
  refine callWith_ok hbk.1 (by rw [hbk.2]; show 1 ≤ 30; decide) (W.mono (hes (A.deeper env) env V (fun _ => none) vm s' _ [.str l] pos hA' F rfl) fun vs s₁ ⟨X1, r1⟩ => ⟨.inr (by intro a e; cases e), ?_⟩)
  rw [RdAll] at r1
  obtain ⟨v, l', rfl, r1, r2⟩ := r1
  rw [RdAll] at r2
  subst r2
  rw [Rd] at r1
  obtain ⟨tk', rfl, _, _⟩ := r1
  have hp1 : PatAt s₁.heap cx.pat ct := hp'.at (fun o e => X1.keep _ o e) (fun o e => X1.keep _ o e)
  obtain ⟨n, hpc⟩ := hp1.code
  refine W.of_any (finditer_ok hp1 (by omega) ⟨Heap.lt_size (X1.keep _ _ hpo), Heap.lt_size hpc⟩ fun s₂ X2 I hs2 => ?_)
  have X02 : Ext s s₂ := (X.trans X1).trans X2
  have hle : s.heap.objs.size ≤ s₁.heap.objs.size := (X.trans X1).size
  refine W.pure (W.pure ⟨X02, _, _, _, _, rfl, I, fun b hb => ?_⟩)
  simp at hb
  rw [hs2]
  rcases hb with rfl | rfl | rfl
  · exact ⟨Nat.le_trans hle (Nat.le_add_right _ _), Nat.lt_succ_self _⟩
  · exact ⟨Nat.le_trans hle (Nat.le_add_right _ _), Nat.lt_succ_of_lt (Nat.lt_succ_self _)⟩
  · exact ⟨hle, Nat.lt_add_of_pos_right (by decide)⟩

/-! the pieces of a text -/
noncomputable def allFrom : Nat → List Nat → Nat → List (Nat × Nat × Nat)
  | 0, _, _ => []
  | f + 1, l, s => match findM s (l.drop s) with
    | none => []
    | some x => x :: allFrom f l x.2.1
noncomputable def allM (l : List Nat) : List (Nat × Nat × Nat) := allFrom (l.length + 1) l 0
noncomputable def matsOf (l : List Nat) : List D := (allM l).map fun x => .mat l x.1 x.2.1 x.2.2
noncomputable def asPieces : D → Option (List D)
  | .str l => some (matsOf l)
  | _ => none

theorem slot_ci_iter : PySem.Slot "callable_iterator" "__iter__" "callable_iterator.__iter__" :=
  .of (owner := "callable_iterator") (n := "__iter__") (by rw [typeLookup_type, builtinLookup_eq_fast]; kernel_rfl) (by decide +kernel) (by decide +kernel) (by decide +kernel)
    (by first | exact .inl (by decide +kernel) | exact .inr (by decide +kernel)) (by rw [isSubtype_type]; kernel_rfl)
theorem args_ci_iter (a : Value) : argsOk "callable_iterator.__iter__" ⟨[a], []⟩ := by unfold argsOk; kernel_rfl
theorem entry_ci_iter : entryFor table "callable_iterator.__iter__" = some Builtin.«dict_keyiterator.__iter__» :=
  entryFor_alias (id' := "dict_keyiterator.__iter__") (by kernel_rfl) (by first | rfl | decide +kernel) (by decide +kernel) (by kernel_rfl)
theorem iter_ci {prog : Program} {w : World} {A : Around} {E : Value → Shared → Prop} {s : Shared} {ci : Addr} {o : Obj} {Q : Value → Shared → Prop} (ho : s.heap.get? ci = some o) (hc : o.cls = .type "callable_iterator") (h : Q (.ref ci) s) : wpAny (model prog w) A (pyIter (.ref ci)) Q E s := by
  have hT : s.TypeIs (.ref ci) "callable_iterator" := ⟨o, ho, hc⟩
  refine wpAny_pyIter_slot hT slot_ci_iter (wpAny_call_entry slot_ci_iter hT entry_ci_iter ?_ (args_ci_iter _))
  show wpAny _ _ (ret (.ref ci)) _ _ s
  exact wpAny_pure ⟨_, rfl, "callable_iterator", _, hT, slot_ci_next.lookup, h⟩
end Mine

end
section
open PySem PySem.W PySem.Calls PyProof.Rows
set_option Elab.async false
set_option maxRecDepth 100000
namespace Mine
open PySem.Builtin.Re
open Sem (wp)

noncomputable def CISt (l : List Nat) (ci bm sc pat : Addr) (tk : Tok) (i : Nat) (h : Heap) : Prop :=
  h.get? ci = some { cls := .type "callable_iterator", data := .fields #[.ref bm, .none, .bool false] } ∧
  h.get? bm = some { cls := .type "builtin_function_or_method", data := .fields #[.builtin "_sre.SRE_Scanner.search", .ref sc] } ∧
  ∃ st f : Nat, h.get? sc = some (scanObj pat l tk (st : Nat)) ∧ st ≤ l.length ∧ l.length - st < f ∧ allFrom f l st = (allM l).drop i

theorem allFrom_len : ∀ (f : Nat) (l : List Nat) (s : Nat), s ≤ l.length → (allFrom f l s).length ≤ l.length - s
  | 0, _, _, _ => Nat.zero_le _
  | f + 1, l, s, h => by
    rw [allFrom]
    split
    · exact Nat.zero_le _
    · rename_i x hx
      obtain ⟨b, e, g⟩ := x
      obtain ⟨k1, k2, k3, _, _⟩ := findM_le _ _ hx
      simp only [List.length_drop] at k3
      have := allFrom_len f l e (by omega)
      simp only [List.length_cons]
      omega

theorem wk_sep {cx : Cx} {A : Around} {tgt : PySem.Expr} {ct ci bm sc : Addr} {l : List Nat} {tk : Tok} {N : Nat} {U : Avd} (hh : A.handled = none) (hu : A.units + 100 < cLine) (hl : ∀ c ∈ l, c < 0x110000) (hz : l.length ≤ sizeLine)
    (hp : PatAt cx.h₁ cx.pat ct) (hne : ci ≠ sc ∧ bm ≠ sc ∧ bm ≠ ci) (hnew : ∀ b ∈ [ci, bm, sc], ¬ U b ∧ b < N ∧ cx.h₁.objs.size ≤ b) :
    Wk cx A tgt (ci) [ci, sc] N (matsOf l) U (CISt l ci bm sc cx.pat tk) := by
  have hsz := szl
  obtain ⟨q0, q1, q3, q4, hpo⟩ := id hp.obj
  obtain ⟨nn, hpc⟩ := id hp.code
  have hps : cx.pat ≠ sc := fun e => Nat.lt_irrefl _ (Nat.lt_of_lt_of_le (Heap.lt_size hpo) (e ▸ (hnew sc (by simp)).2.2))
  have hcs : ct ≠ sc := fun e => Nat.lt_irrefl _ (Nat.lt_of_lt_of_le (Heap.lt_size hpc) (e ▸ (hnew sc (by simp)).2.2))
  have mk : ∀ {s : Shared} {st : Nat}, Base cx s.heap → s.heap.get? ci = some { cls := .type "callable_iterator", data := .fields #[.ref bm, .none, .bool false] } → s.heap.get? bm = some { cls := .type "builtin_function_or_method", data := .fields #[.builtin "_sre.SRE_Scanner.search", .ref sc] } →
      s.heap.get? sc = some (scanObj cx.pat l tk (st : Nat)) → CIAt s.heap ci bm sc cx.pat ct l tk (st : Nat) := fun hb h1 h2 h3 => ⟨h1, h2, h3, hp.at (fun o e => hb.2 _ o e) (fun o e => hb.2 _ o e), hne.1, hne.2.1, hps, hcs⟩
  exact {
    frame := fun i h h' ⟨h1, h2, st, f, h3, h4, h5, h6⟩ hk => ⟨hk _ _ (hnew ci (by simp)).1 (hnew ci (by simp)).2.1 h1, hk _ _ (hnew bm (by simp)).1 (hnew bm (by simp)).2.1 h2, st, f, hk _ _ (hnew sc (by simp)).1 (hnew sc (by simp)).2.1 h3, h4, h5, h6⟩
    item := fun i d s V Q hd ⟨h1, h2, st, f, h3, h4, h5, h6⟩ hb hV hQ => by
      unfold matsOf at hd
      rw [List.getElem?_map, Option.map_eq_some_iff] at hd
      obtain ⟨⟨b, e, g⟩, hm, rfl⟩ := hd
      have hi : i < (allM l).length := by
        rcases Nat.lt_or_ge i (allM l).length with h | h
        · exact h
        · rw [List.getElem?_eq_none h] at hm; cases hm
      have hdr : (allM l).drop i = (b, e, g) :: (allM l).drop (i + 1) := by
        rw [List.drop_eq_getElem_cons hi]
        rw [List.getElem?_eq_getElem hi] at hm
        rw [Option.some.inj hm]
      cases f with
      | zero => omega
      | succ f =>
        rw [hdr, allFrom] at h6
        split at h6
        · cases h6
        · rename_i x hx
          have e1 : x = (b, e, g) := (List.cons.inj h6).1
          subst e1
          have e2 := (List.cons.inj h6).2
          obtain ⟨k1, k2, k3, k4, k5⟩ := findM_le _ _ hx
          simp only [List.length_drop] at k3
          refine W.mono (ci_item (b := b) (e := e) (g := g) hu (mk hb h1 h2 h3) h4 (by omega) hx (Q := fun r s₁ => ∃ v, r = some v ∧ W cx.prog cx.w A (letOwnedTupleGo tgt (.ref ci) v) (fun _ s₂ => Q v s₂) s₁) fun h' I' hs' => ?_) fun r s₁ h => h
          have hci : ((h'.push { cls := .type "tuple", data := .seq (matSpans b e g).toArray }).push { cls := .type "re.Match", data := .fields #[.str ⟨l.toArray⟩ tk, .ref cx.pat, rawInt 0, rawInt (l.length : Nat), rawInt g, .ref h'.objs.size] }).get? ci = some { cls := .type "callable_iterator", data := .fields #[.ref bm, .none, .bool false] } := Heap.get?_push_of_some _ (Heap.get?_push_of_some _ I'.oci)
          refine ⟨_, rfl, go_skip hci rfl (by decide) (hQ _ _ ⟨rfl, rfl, ?_, ?_⟩ ?_ ⟨hci, Heap.get?_push_of_some _ (Heap.get?_push_of_some _ I'.obm), e, f, Heap.get?_push_of_some _ (Heap.get?_push_of_some _ I'.osc), (by show e ≤ l.length; omega), (by show l.length - e < f; omega), e2⟩)⟩
          · show s.heap.objs.size ≤ Array.size _
            rw [Heap.size_push, Heap.size_push, hs'.1]; exact Nat.le_add_right _ 2
          · intro a o ha ea
            exact Heap.get?_push_of_some _ (Heap.get?_push_of_some _ (hs'.extBut a o (fun e' => ha (by rw [e']; simp)) ea))
          · rw [Rd]
            refine ⟨_, h'.objs.size, rfl, ⟨tk, ?_⟩, ⟨0, Heap.get?_push_of_some _ (Heap.get?_push_size _ rfl)⟩, ⟨hl, hz, (by show b ≤ e; omega), (by show e ≤ l.length; omega), k4, k5⟩, ?_, ?_⟩
            · rw [← Heap.size_push (h := h') (o := { cls := .type "tuple", data := .seq (matSpans b e g).toArray })]
              exact Heap.get?_push_size _ rfl
            · intro hv
              have := (hV _ hv).2
              rw [← hs'.1] at this
              exact Nat.lt_irrefl _ (Nat.lt_of_succ_lt this)
            · intro hv
              have := (hV _ hv).2
              rw [← hs'.1] at this
              exact Nat.lt_irrefl _ this
    done := fun s Q ⟨h1, h2, st, f, h3, h4, h5, h6⟩ hb hQ => by
      unfold matsOf at h6
      rw [List.length_map, List.drop_length] at h6
      cases f with
      | zero => omega
      | succ f =>
        rw [allFrom] at h6
        split at h6
        · rename_i hx
          exact W.mono (W.size (ci_done hh (mk hb h1 h2 h3) h4 (by omega) hx (Q := fun r s' => s.heap.objs.size ≤ s'.heap.objs.size → r = none ∧ Q s') fun h' hk hsz' => ⟨rfl, hQ _ ⟨rfl, rfl, hsz', fun a o ha e => hk a o (fun e' => ha (by rw [e']; simp)) (fun e' => ha (by rw [e']; simp)) e⟩⟩)) fun r s' ⟨g1, g2⟩ => g2 g1
        · cases h6
    self := fun i s ⟨h1, _⟩ => W.of_any (iter_ci h1 rfl ⟨rfl, rfl⟩) }

theorem si_sep {J : Jd} {tgt e : PySem.Expr} {fn : Str} {fv : Value} {p pos : Pos} {ct : Addr} {k : Nat} {f : Rho → Option D} (hc : ConI J.cx ct k fv) (hp : PatAt J.cx.h₁ J.cx.pat ct) (he : SE J e f)
    (hv : (J.cx.mg fn).or (J.cx.mb fn) = some fv) (hkeep : KeepOk fv J.cx.h₁) (hk : k ≤ J.k := by decide)
    (hl : J.sc.names.lookup fn = some .globalImplicit := by rfl) (hst : isStarred e = false := by rfl) (hdb : (fn == ("__debug__" : Str)) = false := by decide) :
    SI J tgt (.Call (.Name fn p) [e] [] pos) (itE asPieces f) := fun A env P O vm s ρ ds hA F h => by
  unfold itE at h
  rw [Option.bind_eq_some_iff] at h
  obtain ⟨d, hd, h⟩ := h
  unfold asPieces at h
  split at h
  · rename_i l
    cases h
    show W _ _ A (do callWith pos (← eval (.Name fn p) env) [] (backTo pos (starEach [e] env)) []) _ s
    rw [eval_Name env fn p hdb]
    refine W.bind (W.bind (W.standAt (F.glob_ hl hv ?_)))
    have hb := backTo_plain pos env (es := [e]) (by simp [hst])
    have hes : SEs J [e] (consF f nilF) := ses_cons he ses_nil hst
    refine callWith_ok hb.1 (by rw [hb.2]; show 1 ≤ 30; decide) (W.mono (hes A env P O vm s ρ [.str l] pos hA F (by simp [consF, nilF, hd])) fun vs s₁ ⟨X1, r1⟩ => ⟨?_, ?_⟩)
    · rcases hkeep with ⟨a, o, fd, e, ho, hd⟩ | hk
      · exact .inl ⟨a, o, fd, e, (F.ext X1).base a o ho, hd⟩
      · exact .inr hk
    rw [RdAll] at r1
    obtain ⟨v, l', rfl, r1, r2⟩ := r1
    rw [RdAll] at r2
    subst r2
    rw [Rd] at r1
    obtain ⟨tk, rfl, hcp, hz⟩ := r1
    have F1 := F.ext X1
    refine W.mono (hc A (Av env P O) s₁ l tk (hA.le hk) (fun q hq => F1.avLt hq) F1.baseOf hcp hz) fun r s₂ ⟨X2, ci, bm, sc, tk', e1, I, hnew⟩ => ?_
    subst e1
    refine ⟨rfl, W.of_any (iter_ci I.oci rfl ?_)⟩
    have hne : bm ≠ ci := fun e => by
      have h1 := I.oci
      have h2 := I.obm
      rw [e, h1] at h2
      have h3 := congrArg (fun o : Option Obj => o.map (·.cls)) h2
      simp at h3
    refine ⟨X1.trans X2, ?_, ci, [ci, sc], _, rfl, wk_sep hA.1 hA.units hcp hz hp ⟨I.ne.1, I.ne.2.1, hne⟩ (fun b hb => ⟨F1.new (hnew b hb).1, (hnew b hb).2, Nat.le_trans F1.baseOf.1 (hnew b hb).1⟩), ⟨I.oci, I.obm, 0, l.length + 1, I.osc, Nat.zero_le _, by omega, rfl⟩, fun b hb => ?_⟩
    · unfold matsOf allM
      rw [List.length_map]
      exact Nat.le_trans (allFrom_len _ _ 0 (Nat.zero_le _)) hz
    · have hb' : b ∈ [ci, bm, sc] := by simp at hb ⊢; rcases hb with h | h <;> simp [h]
      exact ⟨Nat.le_trans X1.size (hnew b hb').1, (hnew b hb').2⟩
  · cases h
end Mine

end
section
open PySem PySem.W PySem.Calls PyProof.Rows
set_option Elab.async false
set_option maxRecDepth 100000
namespace Mine
open PySem.Builtin.Re
open Sem (wp)

theorem slot_group : PySem.Slot "re.Match" "group" "re.Match.group" :=
  .of (owner := "re.Match") (n := "group") (by rw [typeLookup_type, builtinLookup_eq_fast]; kernel_rfl) (by decide +kernel) (by decide +kernel) (by decide +kernel)
    (by first | exact .inl (by decide +kernel) | exact .inr (by decide +kernel)) (by rw [isSubtype_type]; kernel_rfl)
theorem type_group : typeOf (.builtin "re.Match.group") = pure (.type "method_descriptor") := by show builtinType _ = _; rw [builtinType_eq_fast]; kernel_rfl
theorem entry_group : entryFor table "re.Match.group" = some Builtin.«re.Match.group» := entryFor_of_tree (by kernel_rfl)
theorem args_group (a b : Value) : argsOk "re.Match.group" ⟨[a, b], []⟩ := by unfold argsOk; kernel_rfl
theorem get_mat {name : Str} {id : String} (slot : PySem.Slot "re.Match" name id) (ty : typeOf (.builtin id) = pure (.type "method_descriptor")) : GetOk name id isMatD := fun cx A V s d v pl Q hp r h => by
  unfold isMatD at hp
  split at hp
  · rw [Rd] at r
    obtain ⟨a, sp, M⟩ := r
    obtain ⟨tk, ho⟩ := M.obj
    rw [M.val] at h ⊢
    exact get_ref lk_mat_ga lk_mat_gn slot ty ho rfl rfl h
  · cases hp

/-- a group's text -/
noncomputable def groupD (t : List Nat) (b e g i : Nat) : D := if i = 0 ∨ i = g then .str ((t.drop b).take (e - b)) else .none

noncomputable abbrev spanA (b e g : Nat) : Array Int := (matSpans b e g).toArray.map reRawOf
theorem span_size (b e g : Nat) : (spanA b e g).size = 8 := by
  unfold spanA matSpans
  simp [List.range_succ]
  split <;> split <;> split <;> rfl
theorem span_get {b e g i : Nat} (hi : i ≤ 3) (hg1 : 1 ≤ g) (hg3 : g ≤ 3) : (spanA b e g).getD (2 * i) (-1) = (if i = 0 ∨ i = g then (b : Int) else -1) ∧ (spanA b e g).getD (2 * i + 1) (-1) = (if i = 0 ∨ i = g then (e : Int) else -1) := by
  have hi' : i = 0 ∨ i = 1 ∨ i = 2 ∨ i = 3 := by omega
  have hg' : g = 1 ∨ g = 2 ∨ g = 3 := by omega
  have e1 : spanA b e 1 = #[(b : Int), e, b, e, -1, -1, -1, -1] := by simp [spanA, matSpans, List.range_succ, reRawOf, rawInt]
  have e2 : spanA b e 2 = #[(b : Int), e, -1, -1, b, e, -1, -1] := by simp [spanA, matSpans, List.range_succ, reRawOf, rawInt]
  have e3 : spanA b e 3 = #[(b : Int), e, -1, -1, -1, -1, b, e] := by simp [spanA, matSpans, List.range_succ, reRawOf, rawInt]
  rcases hi' with rfl | rfl | rfl | rfl <;> rcases hg' with rfl | rfl | rfl <;> simp [e1, e2, e3]

theorem lk_str_index : typeLookup (.type "str") "__index__" = pure none := by rw [typeLookup_type, builtinLookup_eq_fast]; kernel_rfl

structure PatG (cx : Cx) : Prop where
  pat : ∃ (p0 p1 p4 : Value) (ct gd : Addr) (t1 t2 : Tok), cx.h₁.get? cx.pat = some { cls := .type "re.Pattern", data := .fields #[p0, p1, rawInt 3, .ref gd, p4, .ref ct, rawInt 0] } ∧
    cx.h₁.get? gd = some { cls := .type "dict", data := .dict #[⟨PyData.keyHash cx.w.params "set", .str "set" t1, .int 2 t2⟩] 1 }

section
variable {prog : Program} {w : World} {A : Around} {E : Value → Shared → Prop} {s : Shared}
theorem group_text {fs : Array Value} {t : List Nat} {tk : Tok} {b e g i : Nat} {Q : Value → Shared → Prop} {M : Model} (h0 : fs.getD 0 .none = .str ⟨t.toArray⟩ tk) (hz : t.length ≤ sizeLine) (hi : i ≤ 3) (hg1 : 1 ≤ g) (hg3 : g ≤ 3)
    (hs : (i = 0 ∨ i = g) → Q (.str ⟨t.toArray.extract b e⟩ s.toks) { s with toks := s.toks + 1 }) (hn : ¬ (i = 0 ∨ i = g) → Q .none s) : wpAny M A (reGroupText ⟨fs, spanA b e g⟩ i .none) Q E s := by
  unfold reGroupText
  obtain ⟨e1, e2⟩ := span_get (b := b) (e := e) hi hg1 hg3
  simp only [e1, e2, h0]
  by_cases h : i = 0 ∨ i = g
  · simp only [h, if_true]
    rw [if_neg (by simp)]
    show wpAny _ _ (mkStr ⟨t.toArray.extract b e⟩) _ _ _
    exact wpAny_mkStr (hs h) (by show (t.toArray.extract b e).size ≤ sizeLine; rw [Array.size_extract]; simp; omega)
  · simp only [h, if_false]
    rw [if_pos (by decide)]
    exact wpAny_pure (hn h)

theorem found_ok {M : Model} {m sp pat : Addr} {t : List Nat} {tk : Tok} {b e g n : Nat} {Q : ReFound → Shared → Prop} (ho : s.heap.get? m = some { cls := .type "re.Match", data := .fields #[.str ⟨t.toArray⟩ tk, .ref pat, rawInt 0, rawInt (t.length : Nat), rawInt g, .ref sp] })
    (hs : s.heap.get? sp = some { cls := .type "tuple", data := .seq (matSpans b e g).toArray n }) (h : Q ⟨#[.str ⟨t.toArray⟩ tk, .ref pat, rawInt 0, rawInt (t.length : Nat), rawInt g, .ref sp], spanA b e g⟩ s) : wpAny M A (reFound (.ref m)) Q E s := by
  unfold reFound
  refine wpAny_bind (wpAny_fieldsOf ho rfl ?_)
  refine wpAny_bind ?_
  unfold reRawItems
  refine wpAny_bind (wpAny_seqItems hs rfl ?_)
  exact wpAny_pure (wpAny_pure h)

theorem num_int {fs : Array Value} {b e g : Nat} {i : Nat} {tk : Tok} {Q : Nat → Shared → Prop} (hi : i ≤ 3) (h : Q i s) : wpAny (model prog w) A (reGroupNumber ⟨fs, spanA b e g⟩ (.int (i : Nat) tk)) Q E s := by
  have hsz := span_size b e g
  unfold reGroupNumber
  obtain ⟨hp, gs, d, t, os⟩ := s
  simp only [hsz]
  repeat (any_goals (first | assumption | wp_step))
  rw [if_neg (by simp only [Bool.or_eq_true, decide_eq_true_eq, not_or]; omega)]
  rw [Int.toNat_natCast]
  exact wpAny_pure h

theorem num_set {fs : Array Value} {b e g : Nat} {pat gd : Addr} {tk t1 t2 : Tok} {vs : Array Value} {Q : Nat → Shared → Prop} (h1 : fs.getD 1 .none = .ref pat) (hp : s.heap.get? pat = some { cls := .type "re.Pattern", data := .fields vs }) (h3 : vs.getD 3 .none = .ref gd)
    (hd : s.heap.get? gd = some { cls := .type "dict", data := .dict #[⟨PyData.keyHash w.params "set", .str "set" t1, .int 2 t2⟩] 1 }) (h : Q 2 { s with toks := s.toks + 1 }) : wpAny (model prog w) A (reGroupNumber ⟨fs, spanA b e g⟩ (.str "set" tk)) Q E s := by
  have hsz := span_size b e g
  unfold reGroupNumber
  simp only [hsz, h1]
  refine wpAny_bind (m := asInt? (.str "set" tk)) (wpAny_of_eq (a := none) rfl ?_)
  simp only [Option.isSome_none, Bool.false_eq_true, if_false]
  refine wpAny_bind (wpAny_specialOf (typeIs_str _ _ _) lk_str_index ?_)
  simp only [Option.isSome_none, Bool.false_eq_true, if_false]
  refine wpAny_bind (wpAny_fieldsOf hp rfl ?_)
  simp only [h3]
  have hm : s.heap.MapOf (strKind prog w) gd fun x => if x = "set" then some (.int 2 t2) else none := by
    refine ⟨_, _, _, hd, ⟨rfl, rfl, rfl⟩, rfl, ?_, fun k => ?_⟩
    · intro e' he
      simp at he
      subst he
      exact ⟨"set", by rfl, by rfl⟩
    · have hb : (strKind prog w).is k (.str "set" t1) = decide (k = "set") := by
        show (("set" : Str) == k) = decide (k = "set")
        by_cases hk : k = "set"
        · subst hk; simp
        · rw [decide_eq_false hk, beq_false_of_ne (Ne.symm hk)]
      by_cases hk : k = "set"
      · subst hk
        simp only [decide_true] at hb
        simp [findBy, hb]
      · simp [findBy, hb, hk]
  refine wpAny_bind (wpAny_dictGet_of (knd := strKind prog w) (k := "set") (by rfl) hm ?_)
  simp only [if_true]
  refine wpAny_bind (m := asInt? (.int 2 t2)) (wpAny_of_eq (a := some 2) rfl ?_)
  exact wpAny_pure h
end

theorem PatG.at {cx : Cx} {h : Heap} (x : PatG cx) (hb : Base cx h) : ∃ (vs : Array Value) (gd : Addr) (t1 t2 : Tok), h.get? cx.pat = some { cls := .type "re.Pattern", data := .fields vs } ∧ vs.getD 3 .none = .ref gd ∧
    h.get? gd = some { cls := .type "dict", data := .dict #[⟨PyData.keyHash cx.w.params "set", .str "set" t1, .int 2 t2⟩] 1 } := by
  obtain ⟨p0, p1, p4, ct, gd, t1, t2, h1, h2⟩ := x.pat
  exact ⟨_, gd, t1, t2, hb.2 _ _ h1, rfl, hb.2 _ _ h2⟩

noncomputable def setName : List Nat := [115, 101, 116]
noncomputable def groupF : List D → Option D
  | [.mat t b e g, .int i] => if 0 ≤ i ∧ i ≤ 3 then some (groupD t b e g i.toNat) else none
  | [.mat t b e g, .str n] => if n = setName then some (groupD t b e g 2) else none
  | _ => none
theorem extract_eq (t : List Nat) (b e : Nat) : t.toArray.extract b e = ((t.drop b).take (e - b)).toArray := by
  simp
theorem con_group {cx : Cx} {k : Nat} (hP : PatG cx) : Con cx k (.builtin "re.Match.group") groupF := fun A V s ds vs r hA hV hb ra h => by
  have fin : ∀ {t : List Nat} {b e g i : Nat} {m sp : Addr} {tk : Tok} {s₁ : Shared} {x : ReFound}, MatAt cx s.heap V t b e g (.ref m) m sp → Ext s s₁ → i ≤ 3 → x = ⟨#[.str ⟨t.toArray⟩ tk, .ref cx.pat, rawInt 0, rawInt (t.length : Nat), rawInt g, .ref sp], spanA b e g⟩ →
      wpAny (model cx.prog cx.w) A.in1 (reGroupText x i .none) (fun v s' => Ext s s' ∧ Rd cx s'.heap V (groupD t b e g i) v) (fun _ _ => False) s₁ := fun M X hi hx => by
    subst hx
    obtain ⟨o1, o2, o3, o4, o5, o6⟩ := M.ok
    refine group_text rfl o2 hi o5 o6 (fun hc => ⟨X.trans (Ext.toks _), ?_⟩) (fun hc => ⟨X, ?_⟩)
    · unfold groupD
      rw [if_pos hc, extract_eq]
      refine rd_str (fun c hcm => o1 c (List.mem_of_mem_drop (List.mem_of_mem_take hcm))) ?_
      rw [List.length_take, List.length_drop]; omega
    · unfold groupD
      rw [if_neg hc, Rd]
  unfold groupF at h
  split at h
  · rename_i t b e g i
    split at h
    · rename_i hi
      cases h
      rw [RdAll] at ra; obtain ⟨v, l1, rfl, ra, rb⟩ := ra
      rw [RdAll] at rb; obtain ⟨v2, l2, rfl, rb, rc⟩ := rb
      rw [RdAll] at rc; subst rc
      rw [Rd] at ra; obtain ⟨m, sp, M⟩ := ra
      rw [Rd] at rb; obtain ⟨ti, rfl⟩ := rb
      obtain ⟨tk, ho⟩ := M.obj
      obtain ⟨n, hs⟩ := M.spans
      have hv := M.val
      subst hv
      refine W.of_any (wpAny_call_entry slot_group ⟨_, ho, rfl⟩ entry_group ?_ (args_group _ _))
      unfold Builtin.«re.Match.group»
      show wpAny _ _ (reFound (.ref m) >>= _) _ _ _
      refine wpAny_bind (found_ok ho hs ?_)
      obtain ⟨j, rfl⟩ := Int.eq_ofNat_of_zero_le hi.1
      refine wpAny_bind (num_int (by omega) ?_)
      refine wpAny_bind (wpAny_mono (fin M (Ext.refl _) (by omega) rfl) (fun v s' hv => wpAny_pure ⟨v, rfl, ?_⟩) fun _ _ x => x)
      rw [Int.toNat_natCast]
      exact hv
    · cases h
  · rename_i t b e g nm
    split at h
    · rename_i hi
      cases h
      subst hi
      rw [RdAll] at ra; obtain ⟨v, l1, rfl, ra, rb⟩ := ra
      rw [RdAll] at rb; obtain ⟨v2, l2, rfl, rb, rc⟩ := rb
      rw [RdAll] at rc; subst rc
      rw [Rd] at ra; obtain ⟨m, sp, M⟩ := ra
      rw [Rd] at rb; obtain ⟨ti, rfl, _, _⟩ := rb
      obtain ⟨tk, ho⟩ := M.obj
      obtain ⟨n, hs⟩ := M.spans
      have hv := M.val
      subst hv
      obtain ⟨pv, gd, t1, t2, hp1, hp2, hp3⟩ := hP.at hb
      refine W.of_any (wpAny_call_entry slot_group ⟨_, ho, rfl⟩ entry_group ?_ (args_group _ _))
      unfold Builtin.«re.Match.group»
      show wpAny _ _ (reFound (.ref m) >>= _) _ _ _
      refine wpAny_bind (found_ok ho hs ?_)
      refine wpAny_bind (num_set (tk := ti) rfl hp1 hp2 hp3 ?_)
      exact wpAny_bind (wpAny_mono (fin M (Ext.toks _) (by omega) rfl) (fun v s' hv => wpAny_pure ⟨v, rfl, hv⟩) fun _ _ x => x)
    · cases h
  · cases h
end Mine

end
section
open PySem PySem.W PySem.Calls PyProof.Rows
set_option Elab.async false
set_option maxRecDepth 100000
namespace Mine
open Sem (wp)

noncomputable def strsOf : List D → Option (List (List Nat))
  | [] => some []
  | .str l :: r => (strsOf r).map (l :: ·)
  | _ => none
noncomputable def joinF : List D → Option D
  | [.str [], .list ds] => (strsOf ds).bind fun ls => if ls.flatten.length ≤ sizeLine then some (.str ls.flatten) else none
  | _ => none

theorem strs_read {cx : Cx} {h : Heap} {V : Avd} : ∀ {ds : List D} {vs : List Value} {ls : List (List Nat)}, RdAll cx h V ds vs → strsOf ds = some ls →
    ∃ l : List (Str × Tok), vs = strValues l ∧ l.map (·.1) = ls.map (fun x => (⟨x.toArray⟩ : Str)) ∧ ∀ c ∈ ls.flatten, c < 0x110000
  | [], vs, ls, r, hs => by
    rw [RdAll] at r
    subst r
    cases hs
    exact ⟨[], rfl, rfl, fun c hc => by simp at hc⟩
  | d :: ds, vs, ls, r, hs => by
    cases d with
    | str l =>
      rw [RdAll] at r
      obtain ⟨v, l2, rfl, r1, r2⟩ := r
      rw [strsOf, Option.map_eq_some_iff] at hs
      obtain ⟨ls', h1, rfl⟩ := hs
      rw [Rd] at r1
      obtain ⟨t, rfl, hc, _⟩ := r1
      obtain ⟨l', e1, e2, e3⟩ := strs_read r2 h1
      refine ⟨(⟨l.toArray⟩, t) :: l', by rw [e1]; rfl, by simp [e2], fun c hm => ?_⟩
      rw [List.flatten_cons, List.mem_append] at hm
      exact hm.elim (hc c) (e3 c)
    | _ => simp [strsOf] at hs

theorem glue_acc (ls : List (List Nat)) : ∀ acc : List Nat, (ls.map (fun x => (⟨x.toArray⟩ : Str))).foldl (fun acc p => acc ++ (⟨#[]⟩ : Str).cps ++ p.cps) acc.toArray = (acc ++ ls.flatten).toArray := by
  induction ls with
  | nil => intro acc; simp
  | cons x ls ih => intro acc; simp only [List.map_cons, List.foldl_cons]; rw [show acc.toArray ++ (#[] : Array Nat) ++ x.toArray = (acc ++ x).toArray by simp]; rw [ih]; simp
theorem glued_nil (ls : List (List Nat)) : Builtin.Str.glued ⟨#[]⟩ (ls.map (fun x => (⟨x.toArray⟩ : Str))) = ⟨ls.flatten.toArray⟩ := by
  unfold Builtin.Str.glued
  cases ls with
  | nil => rfl
  | cons x ls =>
    simp only [List.map_cons, List.drop_succ_cons, List.drop_zero, List.headD_cons]
    rw [glue_acc ls x]; rfl
theorem len_sum (ls : List (List Nat)) : ∀ n : Nat, (ls.map (fun x => (⟨x.toArray⟩ : Str))).foldl (· + ·.length + (⟨#[]⟩ : Str).length) n = n + ls.flatten.length := by
  induction ls with
  | nil => intro n; simp
  | cons x ls ih => intro n; simp only [List.map_cons, List.foldl_cons]; rw [ih]; simp [Str.length]; omega

theorem con_join {cx : Cx} {k : Nat} : Con cx k (.builtin "str.join") joinF := fun A V s ds vs r hA hV hb ra h => by
  unfold joinF at h
  split at h
  · rename_i es
    rw [Option.bind_eq_some_iff] at h
    obtain ⟨ls, hls, h⟩ := h
    split at h
    · rename_i hz
      cases h
      rw [RdAll] at ra; obtain ⟨v, l1, rfl, ra, rb⟩ := ra
      rw [RdAll] at rb; obtain ⟨v2, l2, rfl, rb, rc⟩ := rb
      rw [RdAll] at rc; subst rc
      rw [Rd] at ra; obtain ⟨t1, rfl, _, _⟩ := ra
      rw [Rd] at rb; obtain ⟨a, us, n, rfl, ho, _, _, rb⟩ := rb
      obtain ⟨l, e1, e2, e3⟩ := strs_read rb hls
      have hus : us = (strValues l).toArray := by rw [← e1]
      refine W.of_any (SC.join (l := l) ⟨_, ho, rfl, n, by rw [hus]⟩ e2 ?_ fun t' k => ⟨Ext.toks _, ?_⟩)
      · unfold JoinOk
        rw [List.foldl_toArray, len_sum, Nat.zero_add]
        unfold Builtin.Str.tooLong
        simpa using hz
      · have : Txt.join ⟨([] : List Nat).toArray⟩ (ls.map (fun x => (⟨x.toArray⟩ : Str))) = ⟨ls.flatten.toArray⟩ := glued_nil ls
        rw [this]
        exact rd_str e3 hz
    · cases h
  · cases h
end Mine

end
section
open PySem PySem.W PySem.Calls PyProof.Rows
set_option Elab.async false
set_option maxRecDepth 100000
namespace Mine
open Sem (wp)

noncomputable def opIAdd : D → D → Option D
  | .int a, .int b => some (.int (a + b))
  | .str a, .str b => if a.length + b.length ≤ sizeLine then some (.str (a ++ b)) else none
  | _, _ => none
noncomputable def AugOk (op : Operator) (F : D → D → Option D) : Prop :=
  ∀ (cx : Cx) (A : Around) (V : Avd) (s : Shared) (a b : D) (x y : Value) (r : D), Rd cx s.heap V a x → Rd cx s.heap V b y → F a b = some r →
    W cx.prog cx.w A (inplaceOp op x y) (fun v s' => Ext s s' ∧ Rd cx s'.heap V r v) s
theorem aug_add : AugOk .Add opIAdd := fun cx A V s a b x y r ra rb h => by
  unfold opIAdd at h
  split at h
  · cases h; rw [Rd] at ra rb; obtain ⟨t, rfl⟩ := ra; obtain ⟨u, rfl⟩ := rb
    exact W.of_any (wpAny_iadd_int ⟨Ext.toks _, by rw [Rd]; exact ⟨_, rfl⟩⟩)
  · rename_i p q
    split at h
    · rename_i hz
      cases h; rw [Rd] at ra rb; obtain ⟨t, rfl, h1, z1⟩ := ra; obtain ⟨u, rfl, h2, z2⟩ := rb
      have hr : ∀ t, Rd cx s.heap V (.str (p ++ q)) (.str (⟨p.toArray⟩ ++ ⟨q.toArray⟩) t) := fun t => by
        rw [str_append]
        exact rd_str (fun c hc => (List.mem_append.mp hc).elim (h1 c) (h2 c)) (by rw [List.length_append]; exact hz)
      exact W.of_any (iadd_str (fun t' tk => ⟨Ext.toks _, hr t'⟩) (by rw [str_len, str_len]; exact hz))
    · cases h
  · cases h
noncomputable def augS (i : Nat) (F : D → D → Option D) (g : Rho → Option D) : Rho → Option (Out × Rho) := fun ρ => (vE i ρ).bind fun a => (g ρ).bind fun b => (F a b).map fun c => (.next, ρ.set i (.val c))
theorem s1_aug {J : Jd} {x : Str} {p pos : Pos} {op : Operator} {value : PySem.Expr} {i : Nat} {F : D → D → Option D} {g : Rho → Option D} (hF : AugOk op F) (hv : SE J value g) (ht : J.tab[i]? = some (some x) := by rfl) (hf : J.sc.names.lookup x ≠ some .free := by decide)
    (hd : (x == ("__classdict__" : Str)) = false := by decide) : S1 J (.AugAssign (.Name x p) op value pos) (augS i F g) := fun A env P O vm s ρ out ρ' hA Fr h => by
  unfold augS at h
  rw [Option.bind_eq_some_iff] at h
  obtain ⟨a, ha, h⟩ := h
  rw [Option.bind_eq_some_iff] at h
  obtain ⟨b, hb, h⟩ := h
  rw [Option.map_eq_some_iff] at h
  obtain ⟨c, hc, h⟩ := h
  cases h
  rw [exec_AugAssign_Name]
  unfold vE at ha
  split at ha
  · rename_i d' hr
    cases ha
    obtain ⟨v, hvv, r⟩ := Fr.slots i x _ ht hr
    refine W.bind (W.standAt (W.bind (Fr.load ht hvv ?_ hd)))
    refine W.bind (W.holding (W.mono (hv A env P O vm s ρ b hA Fr hb) fun y s₁ ⟨X1, r1⟩ => ?_))
    refine W.bind (W.standAt (W.bind (W.operate (W.mono (hF J.cx A (Av env P O) s₁ _ b v y c (r.keep X1.keep) r1 hc) fun z s₂ ⟨X2, r2⟩ => ?_))))
    refine W.bind (W.standAt (W.bind ?_))
    unfold bindName
    have X := X1.trans X2
    exact W.bind (W.holding (W.point (W.bind ((Fr.ext X).store ht (fun e => hf e) r2 fun s' F' T' => W.point (W.pure ⟨rfl, _, _, F', X.tr.trans T'⟩)))))
  · cases ha
end Mine

end
section
open PySem PySem.W PySem.Calls PyProof.Rows
set_option Elab.async false
set_option maxRecDepth 100000
namespace Mine

/-! the rules again, their side conditions by rfl -/
section
variable {J : Jd}
theorem le_of_ble {k n : Nat} (h : Nat.ble k n = true) : k ≤ n := Nat.le_of_ble_eq_true h
theorem ne_of_beqf {a b : Option NameKind} (h : (a == b) = false) : a ≠ b := fun e => by rw [e] at h; simp at h

theorem x_name {x : Str} {pos : Pos} (i : Nat) (ht : J.tab[i]? = some (some x) := by rfl) (hf : (J.sc.names.lookup x == some .free) = false := by rfl) : SA J (.Name x pos) (nameA i) := sa_name ht (ne_of_beqf hf)
theorem x_var {x : Str} {pos : Pos} (i : Nat) (ht : J.tab[i]? = some (some x) := by rfl) (hd : (x == ("__debug__" : Str) || x == ("__classdict__" : Str)) = false := by rfl) : SE J (.Name x pos) (vE i) := se_var ht hd
theorem x_call {fn : Str} {fv : Value} {p pos : Pos} {es : List PySem.Expr} {F : List D → Option D} {g : Rho → Option (List D)} {k : Nat} (hc : Con J.cx k fv F) (hv : (J.cx.mg fn).or (J.cx.mb fn) = some fv) (hkeep : KeepOk fv J.cx.h₁) (hes : SEs J es g)
    (hk : Nat.ble k J.k = true := by rfl) (hl : J.sc.names.lookup fn = some .globalImplicit := by rfl) (hst : es.any isStarred = false := by rfl) (hlen : Nat.ble es.length 30 = true := by rfl) (hdb : (fn == ("__debug__" : Str)) = false := by rfl) :
    SE J (.Call (.Name fn p) es [] pos) (callE F g) := se_call hc hes hv hkeep (le_of_ble hk) hl hst (le_of_ble hlen) hdb
theorem x_meth {o : PySem.Expr} {name : Str} {id : String} {apos pos : Pos} {es : List PySem.Expr} {f : Rho → Option D} {g : Rho → Option (List D)} {p : D → Bool} {F : List D → Option D} (hg : GetOk name id p) (hc : Con J.cx 0 (.builtin id) F) (ho : SE J o f) (hes : SEs J es g)
    (hs : notSuperCall o = true := by rfl) (hst : es.any isStarred = false := by rfl) (hlen : Nat.ble (es.length + 1) 29 = true := by rfl) (hp : apos.endLine = pos.line := by rfl) :
    SE J (.Call (.Attribute o name apos) es [] pos) (methE p F f g) := se_method hg hc ho hes (Nat.zero_le _) hs hst (le_of_ble hlen) hp
theorem x_aug {x : Str} {p pos : Pos} {op : Operator} {value : PySem.Expr} {F : D → D → Option D} {g : Rho → Option D} (i : Nat) (hF : AugOk op F) (hv : SE J value g) (ht : J.tab[i]? = some (some x) := by rfl) (hf : (J.sc.names.lookup x == some .free) = false := by rfl)
    (hd : (x == ("__classdict__" : Str)) = false := by rfl) : S1 J (.AugAssign (.Name x p) op value pos) (augS i F g) := s1_aug hF hv ht (ne_of_beqf hf) hd
theorem x_own {x : Str} {p pos : Pos} {value : PySem.Expr} {f : Rho → Option (List D)} (i : Nat) (hv : SEF J value f) (hc : notComp value = true := by rfl) (ht : J.tab[i]? = some (some x) := by rfl) (hf : (J.sc.names.lookup x == some .free) = false := by rfl) :
    S1 J (.Assign [.Name x p] value pos) (ownS i f) := s1_own hv hc ht (ne_of_beqf hf)
theorem x_sep {tgt e : PySem.Expr} {fn : Str} {fv : Value} {p pos : Pos} {ct : Addr} {k : Nat} {f : Rho → Option D} (hc : ConI J.cx ct k fv) (hp : PatAt J.cx.h₁ J.cx.pat ct) (hv : (J.cx.mg fn).or (J.cx.mb fn) = some fv) (hkeep : KeepOk fv J.cx.h₁) (he : SE J e f)
    (hk : Nat.ble k J.k = true := by rfl) (hl : J.sc.names.lookup fn = some .globalImplicit := by rfl) (hst : isStarred e = false := by rfl) (hdb : (fn == ("__debug__" : Str)) = false := by rfl) :
    SI J tgt (.Call (.Name fn p) [e] [] pos) (itE asPieces f) := si_sep hc hp he hv hkeep (le_of_ble hk) hl hst hdb

noncomputable def nodupB : List Str → Bool
  | [] => true
  | x :: r => !r.contains x && nodupB r
theorem nodupB_ok : ∀ {l : List Str}, nodupB l = true → l.Nodup
  | [], _ => .nil
  | x :: r, h => by
    unfold nodupB at h
    rw [Bool.and_eq_true] at h
    rw [List.nodup_cons]
    refine ⟨fun hm => ?_, nodupB_ok h.2⟩
    have := h.1
    simp [hm] at this
noncomputable def compOkB (tab : List (Option Str)) (sc scope : Scope) (vars : List Str) : Bool :=
  nodupB (scope.names.map (·.1)) && (scope.names.all fun x => !(x.2 == .cell)) && (scope.names.all fun x => !(x.2 == .free) || (tab.contains (some x.1) && !(sc.names.lookup x.1 == some .local))) && (vars.all fun x => scope.names.lookup x == some .local) && nodupB vars
theorem x_cs {scope : Scope} {vars : List Str} (hk : scope.kind = .function := by rfl) (h : compOkB J.tab J.sc scope vars = true := by rfl) : CompSc J scope vars := by
  unfold compOkB at h
  simp only [Bool.and_eq_true, List.all_eq_true] at h
  obtain ⟨⟨⟨⟨h1, h2⟩, h3⟩, h4⟩, h5⟩ := h
  refine ⟨hk, nodupB_ok h1, fun x hx e => ?_, fun x hx e => ?_, fun x hx => ?_, nodupB_ok h5⟩
  · have := h2 x hx
    rw [e] at this
    simp at this
  · have := h3 x hx
    rw [e] at this
    simp at this
    refine ⟨this.1, fun e' => ?_⟩
    have := this.2
    simp [e'] at this
  · have := h4 x hx
    simpa using this
theorem x_comp {scope : Scope} {elt tgt iter : PySem.Expr} {ifs : List PySem.Expr} {pos : Pos} {g : D → Rho → Option Rho} {t : Rho → Option Bool} {fe : Rho → Option D} {f : Rho → Option (List D)} (vars : List Str) (cs : CompSc J scope vars) (hi : SI J tgt iter f) (ht : SAL (Jc J scope vars) tgt g) (hts : TsOk (Jc J scope vars) ifs t) (he : SE (Jc J scope vars) elt fe) :
    SEF J (.ListComp elt [⟨tgt, iter, ifs, 0⟩] scope pos) (compF vars f g t (emE fe)) := sef_comp cs turn_one hi ht hts (em_last he)
theorem x_lname {x : Str} {pos : Pos} (i : Nat) (ht : J.tab[i]? = some (some x) := by rfl) (hl : J.sc.names.lookup x = some .local := by rfl) : SAL J (.Name x pos) (nameA i) := sal_name ht hl
theorem x_str {x : Str} {k pos} (l : List Nat) (e : x = ⟨l.toArray⟩ := by rfl) (h1 : (l.all (· < 0x110000) && decide (l.length ≤ 1000)) = true := by rfl) : SE J (.Constant (.str x) k pos) (cE (.str l)) := se_str e h1
end
end Mine

end
section
open PySem PySem.W PySem.Calls PyProof.Rows
set_option Elab.async false
set_option maxRecDepth 100000
namespace Mine

theorem ints_of_items {R : WRecords} : ∀ {xs : List WData}, WShape.hasItems R xs .int = true → ∃ ns : List Int, xs = ns.map WData.int
  | [], _ => ⟨[], rfl⟩
  | x :: xs, h => by
    rw [WShape.hasItems, Bool.and_eq_true] at h
    obtain ⟨ns, rfl⟩ := ints_of_items h.2
    have h1 := h.1
    cases x with
    | int i => exact ⟨i :: ns, rfl⟩
    | _ => simp [WShape.has, WShape.arms] at h1
theorem script_shape {R : WRecords} {args : List WData} (h : WShape.hasAll R args [.list .int] = true) : ∃ ns : List Int, args = [.list (ns.map WData.int)] := by
  obtain ⟨d, r, rfl, h1, h2⟩ := hasAllW_cons h
  have := hasAllW_nil h2
  subst this
  cases d with
  | list xs =>
    simp only [WShape.has, WShape.arms, List.any_cons, List.any_nil, Bool.or_false] at h1
    obtain ⟨ns, rfl⟩ := ints_of_items h1
    exact ⟨ns, rfl⟩
  | _ => simp [WShape.has, WShape.arms] at h1

theorem rd_ints {cx : Cx} {P : Params} {h : Heap} {V : Avd} : ∀ {ns : List Int} {vs : List Value}, WellAll P h vs (ns.map WData.int) → RdAll cx h V (ns.map D.int) vs
  | [], vs, w => by cases w; exact RdAll.nil
  | n :: ns, vs, w => by
    cases w with
    | cons w1 w2 =>
      refine RdAll.cons ?_ (rd_ints w2)
      cases w1
      rw [Rd]
      exact ⟨_, rfl⟩

noncomputable abbrev A0 : Around := { handled := none, depth := 301, units := 4 }
theorem rl : recursionLimit = 1000 := by decide
theorem cl_line : cLine = 9900 := by decide
theorem caller_in : callerG.In A0 := ⟨rfl, by decide, fun l h => (nomatch h : False).elim, fun g h => (nomatch h : False).elim, by decide⟩

/-- the end of a law's walk -/
theorem law_end {l : OpenLaw} (hm : l.most = some 63) (hbn : l.bound = none) {s₀ s₁ : Shared} {cx : Cx} (hh : cx.h₁ = s₁.heap) (hpr : cx.prog = l.row.toRowW.prog) {a : Addr} {k : Nat} {F : List D → Option D} (hc : Con cx k (.ref a) F) (hk : k ≤ 600)
    (hF : ∀ ns : List Int, ns.length ≤ 63 → F [.list (ns.map .int)] = some (.bool true)) (hg : s₁.gens = #[]) (htk : 0 < s₁.toks) {args : List WData} {vals : List Value} (hpre : l.row.toRowW.claim.pre args = true) (hwl : WellAll cx.w.params s₁.heap vals args) :
    Sem.wp (Mg l.row.toRowW.prog cx.w) callerG (PySem.call (.ref a) vals) (fun v _ s' => GoodWG l.row.toRowW.claim (classAt s₀.heap) (ExcName.means s₀.heap) args s₁ (.ok (.ret v)) s') (fun _ _ _ => False) default s₁ := by
  obtain ⟨h1, h2⟩ := pre_splitW hpre
  obtain ⟨ns, rfl⟩ := script_shape h1
  have hn : ns.length ≤ 63 := by
    have e : l.row.toRowW.pre = .and (.not (.lt (.lit (.int 63)) (.len (.arg 0)))) (.lit (.bool true)) := by
      show l.pre = _
      unfold OpenLaw.pre
      rw [hm, hbn]
      rfl
    rw [e] at h2
    simp [WTm.holds, WTm.value] at h2
    have e2 : less? (WData.int 63) (WData.int (ns.length : Nat)) = some (decide ((63 : Int) < (ns.length : Nat))) := by
      first | rfl | simp [less?]
    rw [e2] at h2
    rcases Nat.lt_or_ge 63 ns.length with hgt | hle
    · rw [decide_eq_true (by omega)] at h2
      simp at h2
    · exact hle
  cases hwl with
  | cons w1 w2 =>
    cases w2
    cases w1 with
    | list ho hi =>
      rename_i b vs
      have hr := rd_ints (cx := cx) (V := fun _ => False) hi
      have hl := hr.length
      rw [List.length_map] at hl
      have hsz := szl
      have hra : RdAll cx s₁.heap (fun _ => False) [.list (ns.map .int)] [.ref b] := RdAll.cons (by
        rw [Rd]
        exact ⟨b, vs.toArray, 0, rfl, ho, id, by simp; omega, hr⟩) RdAll.nil
      have hw := hc A0 (fun _ => False) s₁ [.list (ns.map .int)] [.ref b] (.bool true) ⟨rfl, by rw [rl]; show 301 + k < 1000; omega, by rw [cl_line]; show 4 + 8 * k + 200 < 9900; omega⟩ (fun _ h => h.elim) (by rw [← hh]; exact ⟨Nat.le_refl _, fun _ _ e => e⟩) hra (hF ns hn)
      rw [hpr] at hw
      refine Sem.wp_mono _ _ _ (fun v p' s' h => ?_) (fun _ _ _ x => x) _ _ (hw htk callerG default caller_in clean_caller)
      obtain ⟨X, r⟩ := h
      rw [Rd] at r
      subst r
      refine ⟨.inl ⟨_, .bool true, [], rfl, fun cls => by rfl, .bool true, ?_, fun _ => ⟨List.nodup_nil, fun _ h => nomatch h⟩⟩, .of_keep X.keep, X.os, .of_eq (X.gens.trans hg)⟩
      show (WShape.has [] (.bool true) .bool && WTm.holds [] (.eq .res (.lit (.bool true))) { args := [WData.list (List.map WData.int ns)], res := some (.bool true), after := [WData.list (List.map WData.int ns)] }) = true
      have e3 : same (WData.bool true) (WData.bool true) = true := by first | rfl | decide | simp [same]
      simp [WShape.has, WShape.arms, WTm.holds, WTm.value, e3]
end Mine

end
section
open PySem PySem.W PySem.Calls PyProof.Rows
set_option Elab.async false
set_option maxRecDepth 100000
namespace Mine

/-! the first place of a sign -/
/-! equality of plain data -/
theorem flat_str (a : List Nat) : flatD (.str a) = true := by simp [flatD, pureD, toPy, PyData.depth]
theorem deq_str (a b : List Nat) : deq (.str a) (.str b) = decide (a = b) := by
  simp only [deq, toPy, PyData.eqv]
  rw [Bool.eq_iff_iff]; simp
theorem eq_str (a b : List Nat) : opEq (.str a) (.str b) = some (decide (a = b)) := by simp [opEq, flat_str, deq_str]
/-! cuts at plain places -/
theorem clip_nat (n k : Nat) : clipAt n (k : Int) = min k n := by unfold clipAt; split <;> omega
theorem cut_from {α : Type} (l : List α) (k : Nat) : cut l (some (k : Int)) none = l.drop k := by
  unfold cut
  simp only [Option.elim, clip_nat]
  rw [List.take_of_length_le (by rw [List.length_drop]; omega)]
  rcases Nat.le_total k l.length with h | h
  · rw [Nat.min_eq_left h]
  · rw [Nat.min_eq_right h, List.drop_of_length_le h, List.drop_of_length_le (Nat.le_refl _)]
theorem seqIndex_nat (k n : Nat) (h : k < n) : seqIndex? (k : Int) n = some k := by
  have h0 : ¬ (k : Int) < 0 := by omega
  simp only [seqIndex?, if_neg h0]
  rw [if_pos (by first | omega | (simp; omega))]; simp
theorem item_str (l : List Nat) (k : Nat) (h : k < l.length) : opItem (.str l) (.int (k : Int)) = some (.str [l[k]]) := by
  simp [opItem, seqIndex_nat k _ h, h]
/-! what the pattern finds -/
theorem seqS_next {f g : Rho → Option (Out × Rho)} {ρ ρ' : Rho} (h : f ρ = some (.next, ρ')) : seqS f g ρ = g ρ' := by rw [seqS, h]; rfl
theorem seqS_ret {f g : Rho → Option (Out × Rho)} {ρ ρ' : Rho} {d : D} (h : f ρ = some (.ret d, ρ')) : seqS f g ρ = some (.ret d, ρ') := by rw [seqS, h]; rfl
theorem loopS_next {g : D → Rho → Option Rho} {b : Rho → Option (Out × Rho)} {d : D} {ds : List D} {ρ ρ1 ρ2 : Rho} (h1 : g d ρ = some ρ1) (h2 : b ρ1 = some (.next, ρ2)) : loopS g b (d :: ds) ρ = loopS g b ds ρ2 := by rw [loopS, h1, Option.bind_some, h2]; rfl

/-! comprehensions by one name -/
theorem loopC_name {i : Nat} {t : Rho → Option Bool} {f : Rho → Option D} {F : D → D} {T : D → Bool} {ρ0 : Rho} : ∀ {ds : List D} {ρ : Rho}, (∀ x, ρ.set i x = ρ0.set i x) → (∀ d ∈ ds, t (ρ0.set i (.val d)) = some (T d)) → (∀ d ∈ ds, T d = true → f (ρ0.set i (.val d)) = some (F d)) →
    ∃ ρ', loopC (nameA i) t (emE f) ds ρ = some ((ds.filter T).map F, ρ')
  | [], ρ, _, _, _ => ⟨ρ, rfl⟩
  | d :: ds, ρ, h0, h1, h2 => by
    obtain ⟨ρ', ih⟩ := loopC_name (i := i) (t := t) (f := f) (F := F) (T := T) (ρ0 := ρ0) (ds := ds) (ρ := ρ0.set i (.val d)) (fun x => by rw [List.set_set]) (fun d hd => h1 d (List.mem_cons_of_mem _ hd)) (fun d hd => h2 d (List.mem_cons_of_mem _ hd))
    refine ⟨ρ', ?_⟩
    rw [loopC, nameA, Option.bind_some, h0, h1 d (List.mem_cons_self ..), Option.bind_some]
    cases hT : T d with
    | false => rw [if_neg (by simp), ih, List.filter_cons_of_neg (by simp [hT])]
    | true =>
      rw [if_pos rfl, emE, h2 d (List.mem_cons_self ..) hT, List.filter_cons_of_pos hT]
      simp [ih]
end Mine

end
section
open PySem PySem.W PySem.Calls PyProof.Rows
set_option Elab.async false
set_option maxRecDepth 100000
set_option linter.unusedSimpArgs false
namespace Mine

/-! the pieces of a text, as texts with their group -/
noncomputable def parse : Nat → List Nat → List (List Nat × Nat)
  | 0, _ => []
  | _ + 1, [] => []
  | f + 1, c :: r => if c ≠ 91 then (c :: r.takeWhile (· != 91), 1) :: parse f (r.dropWhile (· != 91))
    else match closeAt r with
      | some k => (91 :: r.take (k + 1), 2) :: parse f (r.drop (k + 1))
      | none => if 93 ∈ r then parse f r else [(91 :: r, 3)]
noncomputable def toks (l : List Nat) : List (List Nat × Nat) := parse (l.length + 1) l

theorem tw_len {p : Nat → Bool} : ∀ t : List Nat, (t.takeWhile p).length + (t.dropWhile p).length = t.length
  | [] => rfl
  | x :: t => by
    have := tw_len (p := p) t
    by_cases h : p x = true
    · simp [h]; omega
    · simp [h]
theorem take_tw {p : Nat → Bool} : ∀ t : List Nat, t.take (t.takeWhile p).length = t.takeWhile p
  | [] => rfl
  | x :: t => by
    by_cases h : p x = true
    · simp [h, take_tw t]
    · simp [h]
theorem drop_tw {p : Nat → Bool} : ∀ t : List Nat, t.drop (t.takeWhile p).length = t.dropWhile p
  | [] => rfl
  | x :: t => by
    by_cases h : p x = true
    · simp [h, drop_tw t]
    · simp [h]
theorem closeAt_lt : ∀ (t : List Nat) (k : Nat), closeAt t = some k → k < t.length
  | [], k, h => by simp [closeAt] at h
  | c :: r, k, h => by
    unfold closeAt at h
    split at h
    · simp at h; subst h; simp
    · split at h
      · cases h
      · rw [Option.map_eq_some_iff] at h
        obtain ⟨j, hj, rfl⟩ := h
        have := closeAt_lt r j hj
        simp; omega

noncomputable abbrev rdT (l : List Nat) (x : Nat × Nat × Nat) : List Nat × Nat := ((l.drop x.1).take (x.2.1 - x.1), x.2.2)
theorem all_parse {l : List Nat} : ∀ (f' : Nat) (r : List Nat) (s f : Nat), l.drop s = r → r.length < f → r.length < f' → (allFrom f l s).map (rdT l) = parse f' r
  | 0, r, s, f, _, _, h => absurd h (Nat.not_lt_zero _)
  | f' + 1, [], s, f, hd, hf, _ => by
    cases f with
    | zero => rfl
    | succ f => rw [allFrom, hd]; rfl
  | f' + 1, c :: r, s, f, hd, hf, hf' => by
    cases f with
    | zero => exact absurd hf (Nat.not_lt_zero _)
    | succ f =>
      simp only [List.length_cons] at hf hf'
      have hd1 : l.drop (s + 1) = r := by rw [← List.drop_drop, hd]; rfl
      rw [allFrom, hd, parse, findM]
      by_cases hc : c = 91
      · subst hc
        simp only [ne_eq, not_true_eq_false, if_false]
        cases hk : closeAt r with
        | some k =>
          have hkl := closeAt_lt r k hk
          have hd2 : l.drop (s + k + 2) = r.drop (k + 1) := by rw [show s + k + 2 = (s + 1) + (k + 1) by omega, ← List.drop_drop, hd1]
          dsimp only
          rw [List.map_cons, all_parse f' (r.drop (k + 1)) (s + k + 2) f hd2 (by rw [List.length_drop]; omega) (by rw [List.length_drop]; omega)]
          simp only [rdT, hd]
          rw [show s + k + 2 - s = (k + 1) + 1 by omega, List.take_succ_cons]
        | none =>
          dsimp only
          by_cases hm : 93 ∈ r
          · rw [if_pos hm, if_pos hm, ← all_parse f' r (s + 1) (f + 1) hd1 (by omega) (by omega), allFrom, hd1]
          · rw [if_neg hm, if_neg hm]
            have : allFrom f l (s + 1 + r.length) = [] := by
              cases f with
              | zero => rfl
              | succ f => rw [allFrom, ← List.drop_drop, hd1, List.drop_length]; rfl
            dsimp only
            rw [List.map_cons, this]
            simp only [rdT, hd, List.map_nil]
            rw [show s + 1 + r.length - s = (91 :: r).length by simp; omega, List.take_length]
      · rw [if_pos hc, if_pos hc]
        have hd2 : l.drop (s + 1 + (r.takeWhile (· != 91)).length) = r.dropWhile (· != 91) := by rw [← List.drop_drop, hd1, drop_tw]
        have hl := tw_len (p := (· != 91)) r
        dsimp only
        rw [List.map_cons, all_parse f' _ _ f hd2 (by omega) (by omega)]
        simp only [rdT, hd]
        rw [show s + 1 + (r.takeWhile (· != 91)).length - s = (r.takeWhile (· != 91)).length + 1 by omega, List.take_succ_cons, take_tw]
theorem parse_eq {f f' : Nat} {r : List Nat} (h : r.length < f) (h' : r.length < f') : parse f r = parse f' r := by
  rw [← all_parse (l := r) f r 0 (r.length + 1) rfl (by omega) h, all_parse (l := r) f' r 0 (r.length + 1) rfl (by omega) h']
theorem toks_of {f : Nat} {r : List Nat} (h : r.length < f) : parse f r = toks r := parse_eq h (Nat.lt_succ_self _)

theorem toks_run {c : Nat} {r : List Nat} (h : c ≠ 91) : toks (c :: r) = (c :: r.takeWhile (· != 91), 1) :: toks (r.dropWhile (· != 91)) := by
  unfold toks
  rw [parse, if_pos h, toks_of (by have := tw_len (p := (· != 91)) r; simp; omega)]; rfl
theorem toks_set {r : List Nat} {k : Nat} (h : closeAt r = some k) : toks (91 :: r) = (91 :: r.take (k + 1), 2) :: toks (r.drop (k + 1)) := by
  unfold toks
  rw [parse, if_neg (by simp), h]
  dsimp only
  rw [toks_of (by simp; omega)]; rfl
theorem toks_skip {r : List Nat} (h : closeAt r = none) (hm : 93 ∈ r) : toks (91 :: r) = toks r := by
  rw [toks, parse, if_neg (by simp), h]
  dsimp only
  rw [if_pos hm, toks_of (by simp)]
theorem toks_open {r : List Nat} (h : closeAt r = none) (hm : 93 ∉ r) : toks (91 :: r) = [(91 :: r, 3)] := by
  rw [toks, parse, if_neg (by simp), h]
  dsimp only
  rw [if_neg hm]

/-! the matches, read -/
inductive ReadAs (l : List Nat) : List D → List (List Nat × Nat) → Prop
  | nil : ReadAs l [] []
  | cons {b e g : Nat} {p : List Nat} {ms : List D} {ps : List (List Nat × Nat)} (h : (l.drop b).take (e - b) = p) (r : ReadAs l ms ps) : ReadAs l (.mat l b e g :: ms) ((p, g) :: ps)
theorem readAs_map (l : List Nat) : ∀ xs : List (Nat × Nat × Nat), ReadAs l (xs.map fun x => .mat l x.1 x.2.1 x.2.2) (xs.map (rdT l))
  | [] => .nil
  | x :: xs => .cons rfl (readAs_map l xs)
theorem readAs_mats (l : List Nat) : ReadAs l (matsOf l) (toks l) := by
  have h := readAs_map l (allM l)
  rw [allM, all_parse (l.length + 1) l 0 (l.length + 1) rfl (Nat.lt_succ_self _) (Nat.lt_succ_self _)] at h
  exact h
theorem group_whole {l p : List Nat} {b e g : Nat} (h : (l.drop b).take (e - b) = p) : groupF [.mat l b e g, .int 0] = some (.str p) := by
  simp [groupF, groupD, h]
theorem group_set {l p : List Nat} {b e g : Nat} (h : (l.drop b).take (e - b) = p) : groupF [.mat l b e g, .str [115, 101, 116]] = some (if g = 2 then .str p else .none) := by
  simp [groupF, groupD, setName, h, eq_comm]
end Mine

end
section
open PySem PySem.W PySem.Calls PyProof.Rows
set_option Elab.async false
set_option maxRecDepth 100000
set_option linter.unusedSimpArgs false
namespace Mine

/-! equality of a datum with itself -/
mutual
theorem deq_self : ∀ d : D, pureD d = true → PyData.eqv (toPy d) (toPy d) = true
  | .none, _ => by simp [toPy, PyData.eqv]
  | .bool _, _ => by simp [toPy, PyData.eqv]
  | .int _, _ => by simp [toPy, PyData.eqv]
  | .str _, _ => by simp [toPy, PyData.eqv]
  | .list ds, h => by rw [toPy, PyData.eqv]; exact deqs_self ds (by rw [pureD] at h; exact h)
  | .tup ds, h => by rw [toPy, PyData.eqv]; exact deqs_self ds (by rw [pureD] at h; exact h)
  | .mat .., h => by rw [pureD] at h; cases h
  | .inst _, h => by rw [pureD] at h; cases h
theorem deqs_self : ∀ ds : List D, pureDs ds = true → PyData.eqvAll (toPys ds) (toPys ds) = true
  | [], _ => by simp [toPys, PyData.eqvAll]
  | d :: ds, h => by
    rw [pureDs, Bool.and_eq_true] at h
    rw [toPys, PyData.eqvAll, deq_self d h.1, deqs_self ds h.2]; rfl
end
theorem eq_self {d : D} (h : flatD d = true) : opEq d d = some true := by
  have hp : pureD d = true := (Bool.and_eq_true _ _ ▸ h : pureD d = true ∧ _).1
  unfold opEq deq
  rw [h, deq_self d hp]; rfl
theorem ne_self {d : D} (h : flatD d = true) : opNe d d = some false := by rw [opNe, eq_self h]; rfl
theorem flat_of {d : D} (h1 : pureD d = true) (h2 : (toPy d).depth ≤ 60) : flatD d = true := by
  unfold flatD; rw [h1, decide_eq_true h2]; rfl

/-! comprehensions, whole -/
theorem comp1 {x : Str} {it : Rho → Option (List D)} {i : Nat} {t : Rho → Option Bool} {f : Rho → Option D} {ρ ρ0 : Rho} {ds : List D} (F : D → D) (T : D → Bool) (h0 : rhoC [x] ρ = ρ0) (hit : it ρ = some ds)
    (ht : ∀ d ∈ ds, t (ρ0.set i (.val d)) = some (T d)) (hf : ∀ d ∈ ds, T d = true → f (ρ0.set i (.val d)) = some (F d)) (hz : ds.length ≤ 10000000) : compF [x] it (nameA i) t (emE f) ρ = some ((ds.filter T).map F) := by
  obtain ⟨ρ', hc⟩ := loopC_name (i := i) (t := t) (f := f) (F := F) (T := T) (ds := ds) (ρ0 := ρ0) (ρ := ρ0) (fun _ => rfl) ht hf
  have hsz : sizeLine = 16777216 := rfl
  have := List.length_filter_le T ds
  rw [compF, hit, Option.bind_some, h0, hc, Option.bind_some, if_pos (by simp; omega)]
theorem vE_last {ρ : Rho} {x : Str} {i : Nat} (hi : i = ρ.length) (d : D) : vE i ((rhoC [x] ρ).set i (.val d)) = some d := by
  subst hi
  have : ((rhoC [x] ρ).set ρ.length (.val d))[ρ.length]? = some (.val d) := by
    rw [List.getElem?_set_self (by simp [rhoC])]
  rw [vE, this]
theorem strsOf_strs : ∀ ls : List (List Nat), strsOf (ls.map D.str) = some ls
  | [] => rfl
  | l :: ls => by simp [strsOf, strsOf_strs ls]
theorem join_strs {ls : List (List Nat)} (h : ls.flatten.length ≤ 10000000) : joinF [.str [], .list (ls.map D.str)] = some (.str ls.flatten) := by
  have hsz : sizeLine = 16777216 := rfl
  simp only [joinF, strsOf_strs, Option.bind_some]
  rw [if_pos (by omega)]
theorem flat_ones : ∀ l : List Nat, (l.map fun c => [c]).flatten = l
  | [] => rfl
  | c :: l => by simp [flat_ones l]
theorem add_strs {a b : List Nat} (h : a.length + b.length ≤ 10000000) : opAdd (.str a) (.str b) = some (.str (a ++ b)) := by
  have hsz : sizeLine = 16777216 := rfl
  rw [opAdd, if_pos (by omega)]
theorem iadd_strs {a b : List Nat} (h : a.length + b.length ≤ 10000000) : opIAdd (.str a) (.str b) = some (.str (a ++ b)) := by
  have hsz : sizeLine = 16777216 := rfl
  rw [opIAdd, if_pos (by omega)]

/-- the text of a script, sign by sign -/
theorem made_ok {sg : List D → Option D} {S : Int → Nat} (hS : ∀ x, sg [.int x] = some (.str [S x])) {ns : List Int} (hn : ns.length ≤ 1000) {ρ : Rho} {i : Nat} {x : Str} (hi : i = ρ.length + 1) :
    methE isStrD joinF (cE (.str [])) (consF (listF (compF [x] (itE asList (vE 0)) (nameA i) tt (emE (callE sg (consF (vE i) nilF))))) nilF) (.val (.list (ns.map .int)) :: ρ) = some (.str (ns.map S)) := by
  have hcomp : compF [x] (itE asList (vE 0)) (nameA i) tt (emE (callE sg (consF (vE i) nilF))) (.val (.list (ns.map .int)) :: ρ) = some (((ns.map S).map fun c => [c]).map D.str) := by
    rw [comp1 (ds := ns.map .int) (fun d => match d with | .int x => .str [S x] | _ => .none) (fun _ => true) rfl rfl (fun _ _ => rfl) (fun d hd _ => ?_) (by simp; omega)]
    · simp [List.filter_eq_self.mpr]
    · obtain ⟨y, _, rfl⟩ := List.mem_map.mp hd
      simp only [callE, consF, vE_last (show i = (Slot.val (.list (ns.map .int)) :: ρ).length from hi), nilF, Option.bind_some, Option.map_some, hS]
  simp only [methE, cE, consF, listF, nilF, hcomp, Option.bind_some, Option.map_some, isStrD, if_true]
  rw [join_strs (by rw [flat_ones]; simp; omega), flat_ones]

/-! the forms, step by step -/
section
variable {ρ ρ' ρ'' : Rho} {a b c d r : D}
theorem setS_of {g : D → Rho → Option Rho} {f : Rho → Option D} (h : f ρ = some d) (hg : g d ρ = some ρ') : setS g f ρ = some (.next, ρ') := by rw [setS, h, Option.bind_some, hg]; rfl
theorem augS_of {i : Nat} {F : D → D → Option D} {g : Rho → Option D} (h1 : vE i ρ = some a) (h2 : g ρ = some b) (h3 : F a b = some c) (h4 : ρ.set i (.val c) = ρ') : augS i F g ρ = some (.next, ρ') := by rw [augS, h1, Option.bind_some, h2, Option.bind_some, h3, ← h4]; rfl
theorem ifS_f {t : Rho → Option Bool} {f g : Rho → Option (Out × Rho)} (h : t ρ = some false) : ifS t f g ρ = g ρ := by rw [ifS, h]; rfl
theorem ifS_t {t : Rho → Option Bool} {f g : Rho → Option (Out × Rho)} (h : t ρ = some true) : ifS t f g ρ = f ρ := by rw [ifS, h]; rfl
theorem forS_of {f : Rho → Option (List D)} {g : D → Rho → Option Rho} {bd : Rho → Option (Out × Rho)} {ds : List D} (h : f ρ = some ds) : forS f g bd ρ = loopS g bd ds ρ := by rw [forS, h]; rfl
theorem call1_of {F : List D → Option D} {f : Rho → Option D} (h : f ρ = some d) (hF : F [d] = some r) : callE F (consF f nilF) ρ = some r := by simp [callE, consF, nilF, h, hF]
theorem call2_of {F : List D → Option D} {f g : Rho → Option D} (h : f ρ = some d) (h' : g ρ = some c) (hF : F [d, c] = some r) : callE F (consF f (consF g nilF)) ρ = some r := by simp [callE, consF, nilF, h, h', hF]
theorem cmpB_of {F : D → D → Option Bool} {f g : Rho → Option D} {x : Bool} (h1 : f ρ = some a) (h2 : g ρ = some b) (h3 : F a b = some x) : cmpB F f g ρ = some x := by rw [cmpB, h1, Option.bind_some, h2, Option.bind_some, h3]
theorem binE_of {F : D → D → Option D} {f g : Rho → Option D} (h1 : f ρ = some a) (h2 : g ρ = some b) (h3 : F a b = some r) : binE F f g ρ = some r := by rw [binE, h1, Option.bind_some, h2, Option.bind_some, h3]
theorem tup3_of {f g h : Rho → Option D} (h1 : f ρ = some a) (h2 : g ρ = some b) (h3 : h ρ = some c) : tupE (consF f (consF g (consF h nilF))) ρ = some (.tup [a, b, c]) := by simp [tupE, consF, nilF, h1, h2, h3]
theorem retS_of {f : Rho → Option D} (h : f ρ = some d) : retS f ρ = some (.ret d, ρ) := by rw [retS, h]; rfl
theorem runF_of {n m : Nat} {g : Rho → Option (Out × Rho)} {ds : List D} (h : ds.length = n) (hg : g (ds.map .val ++ List.replicate m .unb) = some (.ret r, ρ')) : runF n m g ds = some r := by rw [runF, if_pos h, hg]; rfl
end

/-- the block gives back r -/
noncomputable def Ret (g : Rho → Option (Out × Rho)) (ρ : Rho) (r : D) : Prop := ∃ ρ', g ρ = some (.ret r, ρ')
theorem Ret.next {f g : Rho → Option (Out × Rho)} {ρ ρ1 : Rho} {r : D} (h : f ρ = some (.next, ρ1)) (h2 : Ret g ρ1 r) : Ret (seqS f g) ρ r := let ⟨ρ', e⟩ := h2; ⟨ρ', (seqS_next h).trans e⟩
theorem Ret.stop {f g : Rho → Option (Out × Rho)} {ρ : Rho} {r : D} (h : Ret f ρ r) : Ret (seqS f g) ρ r := let ⟨ρ', e⟩ := h; ⟨ρ', seqS_ret e⟩
theorem Ret.of {f : Rho → Option D} {ρ : Rho} {r : D} (h : f ρ = some r) : Ret (retS f) ρ r := ⟨ρ, retS_of h⟩
theorem Ret.frz {i : Nat} {g : Rho → Option (Out × Rho)} {ρ ρ1 : Rho} {r : D} {xs : List D} (h1 : ρ[i]? = some (.own xs)) (h2 : ρ.set i (.val (.list xs)) = ρ1) (h : Ret g ρ1 r) : Ret (frzS i g) ρ r := let ⟨ρ', e⟩ := h; ⟨ρ', by rw [frzS, h1]; dsimp only; rw [h2]; exact e⟩
theorem Ret.t {t : Rho → Option Bool} {f g : Rho → Option (Out × Rho)} {ρ : Rho} {r : D} (h : t ρ = some true) (h2 : Ret f ρ r) : Ret (ifS t f g) ρ r := let ⟨ρ', e⟩ := h2; ⟨ρ', (ifS_t h).trans e⟩
theorem Ret.f {t : Rho → Option Bool} {f g : Rho → Option (Out × Rho)} {ρ : Rho} {r : D} (h : t ρ = some false) (h2 : Ret g ρ r) : Ret (ifS t f g) ρ r := let ⟨ρ', e⟩ := h2; ⟨ρ', (ifS_f h).trans e⟩
theorem runF_ret {n m : Nat} {g : Rho → Option (Out × Rho)} {ds : List D} {r : D} (h : ds.length = n) (hg : Ret g (ds.map .val ++ List.replicate m .unb) r) : runF n m g ds = some r := let ⟨_, e⟩ := hg; runF_of h e
end Mine

end
section
open PySem PySem.W PySem.Calls PyProof.Rows
set_option Elab.async false
set_option maxRecDepth 100000
namespace Mine

/-! range(n) -/
end Mine

end
section
open PySem PySem.W PySem.Calls PyProof.Rows
set_option Elab.async false
set_option maxRecDepth 100000
namespace Mine

/-! a look at an own list -/
section
variable {J : Jd}
theorem load_own {x : Str} {p : Pos} {A : Around} {env : Env} {P : Avd} {O : Nat → Option Addr} {vm : Str → Option Value} {s : Shared} {ρ : Rho} {i : Nat} {xs : List D} {Q : Value → Shared → Prop} (F : FrV J.cx J.sc J.tab env P O vm s ρ) (ht : J.tab[i]? = some (some x)) (hr : ρ[i]? = some (.own xs))
    (hd : (x == ("__debug__" : Str) || x == ("__classdict__" : Str)) = false)
    (h : ∀ a vs n, O i = some a → s.heap.get? a = some { cls := .type "list", data := .seq vs n } → vs.size ≤ sizeLine → RdAll J.cx s.heap (Av env P O) xs vs.toList → Q (.ref a) s) : W J.cx.prog J.cx.w A (eval (.Name x p) env) Q s := by
  rw [Bool.or_eq_false_iff] at hd
  rw [eval_Name env x p hd.1]
  refine W.bind (W.standAt ?_)
  obtain ⟨a, vs, n, e1, e2, e3, e4, r⟩ := F.slots i x _ ht hr
  exact F.load ht e2 (h a vs n e1 e3 e4 r) hd.2

end

/-! own lists, changed -/
noncomputable def appS (i : Nat) (f : Rho → Option D) : Rho → Option (Out × Rho) := fun ρ => match ρ[i]? with | some (.own xs) => (f ρ).bind fun d => if xs.length < 10000000 then some (.next, ρ.set i (.own (xs ++ [d]))) else none | _ => none
section
variable {J : Jd}
theorem inter_false {env : Env} (h : env.scope.kind = .function) : interactive env = false := by unfold interactive; rw [h]; rfl
theorem s1_append {x : Str} {p apos cpos pos : Pos} {e : PySem.Expr} {f : Rho → Option D} (i : Nat) (he : SE J e f) (ht : J.tab[i]? = some (some x) := by rfl) (hd : (x == ("__debug__" : Str) || x == ("__classdict__" : Str)) = false := by rfl)
    (hst : isStarred e = false := by rfl) (hp : apos.endLine = cpos.line := by rfl) : S1 J (.Expr (.Call (.Attribute (.Name x p) "append" apos) [e] [] cpos) pos) (appS i f) := fun A env P O vm s ρ out ρ' hA F h => by
  unfold appS at h
  split at h
  · rename_i xs hr
    rw [Option.bind_eq_some_iff] at h
    obtain ⟨d, hd', h⟩ := h
    split at h
    · rename_i hz
      cases h
      have hk : env.scope.kind = .function := by rw [F.scope]; exact F.kind
      have hsz := szl
      have hst' : [e].any isStarred = false := by simp [hst]
      rw [exec_Expr env _ _ (inter_false hk) rfl]
      refine W.bind (W.standAt ?_)
      rw [method_split rfl hst' (by show 1 < 29; decide) hp]
      refine W.bind (W.bind (load_own F ht hr hd fun a vs n e1 ho hvz ra => W.bind (W.standAt (W.bind (W.holding (W.of_any (getMethod_list_append ho rfl rfl ?_)))))))
      have hb := backTo_plain cpos env (es := [e]) hst'
      have hes : SEs J [e] (consF f nilF) := ses_cons he ses_nil hst
      refine callWith_ok hb.1 (by rw [hb.2]; show 1 ≤ 30; decide) (W.mono (hes A env P O vm s ρ [d] cpos hA F (by simp [consF, nilF, hd'])) fun us s₁ ⟨X1, r1⟩ => ⟨.inr (fun a e => by cases e), ?_⟩)
      rw [RdAll] at r1
      obtain ⟨v, l', rfl, r1, r2⟩ := r1
      rw [RdAll] at r2
      subst r2
      have hl := ra.length
      rw [Array.length_toList] at hl
      have F1 := F.ext X1
      refine W.of_any (wpAny_list_append_plain (hsz := hvz) ⟨n, X1.keep _ _ ho⟩ fun h' hp' hs' => ?_)
      obtain ⟨n', ho'⟩ := hp'
      obtain ⟨F2, T2⟩ := F1.mutate (s' := { s₁ with heap := h' }) (ds := xs ++ [d]) ht hr e1 rfl rfl hs' ho' (by rw [Array.size_push]; omega) (by rw [Array.toList_push]; exact (ra.keep X1.keep).append (RdAll.cons r1 RdAll.nil))
      rw [dropValue_plain (by intro a e; cases e)]
      exact W.pure ⟨rfl, O, vm, F2, X1.tr.trans T2⟩
    · cases h
  · cases h
end
end Mine

end
section
open PySem PySem.W PySem.Calls PyProof.Rows
set_option Elab.async false
set_option maxRecDepth 100000
namespace Mine
open PySem.Builtin.Re
open Sem (wp)

/-! the parts of a text between a sign -/
noncomputable def splitC (c : Nat) : List Nat → List (List Nat)
  | [] => [[]]
  | x :: r => if x = c then [] :: splitC c r else match splitC c r with
    | h :: t => (x :: h) :: t
    | [] => [[x]]
theorem splitC_free {c : Nat} : ∀ {p : List Nat}, c ∉ p → splitC c p = [p]
  | [], _ => rfl
  | x :: r, h => by
    rw [List.mem_cons, not_or] at h
    rw [splitC, if_neg (Ne.symm h.1), splitC_free h.2]
theorem splitC_app {c : Nat} {r : List Nat} : ∀ {p : List Nat}, c ∉ p → splitC c (p ++ c :: r) = p :: splitC c r
  | [], _ => by rw [List.nil_append, splitC, if_pos rfl]
  | x :: p, h => by
    rw [List.mem_cons, not_or] at h
    rw [List.cons_append, splitC, if_neg (Ne.symm h.1), splitC_app h.2]
theorem splitC_len (c : Nat) : ∀ l : List Nat, (splitC c l).length ≤ l.length + 1
  | [] => by simp [splitC]
  | x :: r => by
    have := splitC_len c r
    rw [splitC]
    split
    · simp; omega
    · cases h : splitC c r with
      | nil => simp
      | cons a t => rw [h] at this; simp at this ⊢; omega
theorem splitC_mem (c : Nat) : ∀ (l : List Nat), ∀ p ∈ splitC c l, (∀ x ∈ p, x ∈ l) ∧ p.length ≤ l.length
  | [], p, h => by simp [splitC] at h; subst h; exact ⟨fun x hx => hx, Nat.le_refl _⟩
  | x :: r, p, h => by
    have ih := splitC_mem c r
    rw [splitC] at h
    split at h
    · rcases List.mem_cons.mp h with rfl | h
      · exact ⟨fun x hx => by simp at hx, by simp⟩
      · exact ⟨fun y hy => List.mem_cons_of_mem _ ((ih p h).1 y hy), by have := (ih p h).2; simp; omega⟩
    · cases hs : splitC c r with
      | nil => rw [hs] at h; simp at h; subst h; exact ⟨fun y hy => by simp at hy; simp [hy], by simp⟩
      | cons a t =>
        rw [hs] at h ih
        rcases List.mem_cons.mp h with rfl | h
        · have := ih a (List.mem_cons_self ..)
          refine ⟨fun y hy => ?_, by simp; exact this.2⟩
          rcases List.mem_cons.mp hy with rfl | hy
          · simp
          · exact List.mem_cons_of_mem _ (this.1 y hy)
        · have := ih p (List.mem_cons_of_mem _ h)
          exact ⟨fun y hy => List.mem_cons_of_mem _ (this.1 y hy), by have := this.2; simp; omega⟩

theorem at_sign (l : List Nat) (c i : Nat) : StrLaws.At ⟨l.toArray⟩ ⟨#[c]⟩ (⟨l.toArray⟩ : Str).length i ↔ l[i]? = some c := by
  have := StrLaws.subAt_one ⟨l.toArray⟩ c i
  rw [show (⟨l.toArray⟩ : Str).cps.toList = l from rfl] at this
  exact this
theorem sub_at (l : List Nat) (a b : Nat) : Builtin.Str.strSub ⟨l.toArray⟩ a b = ⟨((l.drop a).take (b - a)).toArray⟩ := by
  apply Str.ext'
  apply Array.toList_inj.mp
  rw [StrLaws.strSub_toList]
theorem free_in {l : List Nat} {c a b : Nat} (h : ∀ k, a ≤ k → k < b → l[k]? ≠ some c) : c ∉ (l.drop a).take (b - a) := by
  intro hm
  obtain ⟨j, hj⟩ := List.getElem?_of_mem hm
  have hlt : j < b - a := by
    have h1 : j < ((l.drop a).take (b - a)).length := (List.getElem?_eq_some_iff.mp hj).1
    simp at h1; omega
  rw [List.getElem?_take_of_lt hlt, List.getElem?_drop] at hj
  exact h (a + j) (by omega) (by omega) hj
theorem parts_split {l : List Nat} {c : Nat} : ∀ (cuts : List Nat) (a f : Nat), StrLaws.ChainG ⟨l.toArray⟩ ⟨#[c]⟩ (⟨l.toArray⟩ : Str).length a cuts f → (∀ k, f ≤ k → ¬ StrLaws.At ⟨l.toArray⟩ ⟨#[c]⟩ (⟨l.toArray⟩ : Str).length k) →
    StrLaws.partsFrom ⟨l.toArray⟩ 1 a cuts = (splitC c (l.drop a)).map fun p => ⟨p.toArray⟩
  | [], a, f, h, hn => by
    have e : f = a := h
    subst e
    have hfree : c ∉ l.drop f := by
      intro hm
      obtain ⟨j, hj⟩ := List.getElem?_of_mem hm
      rw [List.getElem?_drop] at hj
      exact hn (f + j) (by omega) ((at_sign l c _).mpr hj)
    rw [StrLaws.partsFrom, splitC_free hfree, sub_at, str_len]
    rw [List.take_of_length_le (by rw [List.length_drop]; exact Nat.le_refl _)]; rfl
  | d :: r, a, f, h, hn => by
    obtain ⟨h1, h2, h3, h4⟩ := h
    have hd := (at_sign l c d).mp h2
    have ih := parts_split r (d + 1) f h4 hn
    obtain ⟨hdl, hdc⟩ := List.getElem?_eq_some_iff.mp hd
    have e : l.drop a = (l.drop a).take (d - a) ++ c :: l.drop (d + 1) := by
      have e1 : l.drop a = (l.drop a).take (d - a) ++ (l.drop a).drop (d - a) := (List.take_append_drop _ _).symm
      rw [List.drop_drop, show a + (d - a) = d by omega, List.drop_eq_getElem_cons hdl, hdc] at e1
      exact e1
    rw [StrLaws.partsFrom, e, splitC_app (free_in fun k k1 k2 hk => h3 k k1 k2 ((at_sign l c k).mpr hk)), List.map_cons, sub_at, ih]
theorem split_is (l : List Nat) (c : Nat) : Txt.split ⟨l.toArray⟩ ⟨#[c]⟩ = (splitC c l).map fun p => ⟨p.toArray⟩ := by
  obtain ⟨f, hc, hn⟩ := StrLaws.occ_tight ⟨l.toArray⟩ ⟨#[c]⟩ (Nat.le_refl 1)
  have hp := parts_split _ 0 f hc hn
  rw [List.drop_zero] at hp
  unfold Txt.split
  split
  · rename_i hk
    have hfree : c ∉ l := by
      rw [Bool.or_eq_true, decide_eq_true_eq, decide_eq_true_eq] at hk
      rcases hk with hk | hk
      · rw [str_len] at hk
        have : l = [] := List.length_eq_zero_iff.mp (by show l.length = 0; have : (⟨#[c]⟩ : Str).length = 1 := rfl; omega)
        rw [this]; simp
      · simpa using StrLaws.kind_free ⟨l.toArray⟩ c hk
    rw [splitC_free hfree]; rfl
  · split
    · rename_i he
      rw [List.isEmpty_iff] at he
      rw [he] at hp
      have : StrLaws.partsFrom ⟨l.toArray⟩ 1 0 [] = [⟨l.toArray⟩] := by
        rw [StrLaws.partsFrom, sub_at, str_len]; simp
      rw [← hp, this]
    · rw [StrLaws.partsBetween_eq]; exact hp

/-! a new list from a call -/
noncomputable def ConF (cx : Cx) (k : Nat) (fv : Value) (F : List D → Option (List D)) : Prop :=
  ∀ (A : Around) (V : Avd) (s : Shared) (ds : List D) (vs : List Value) (r : List D), Room A k → (∀ p, V p → p < s.heap.objs.size) → Base cx s.heap → RdAll cx s.heap V ds vs → F ds = some r →
    W cx.prog cx.w A (PySem.call fv vs) (fun v s' => Ext s s' ∧ ∃ a us n, v = .ref a ∧ s.heap.objs.size ≤ a ∧ s'.heap.get? a = some { cls := .type "list", data := .seq us n } ∧ us.size ≤ sizeLine ∧
      RdAll cx s'.heap (fun b => V b ∨ b = a) r us.toList) s
noncomputable def methL (p : D → Bool) (F : List D → Option (List D)) (f : Rho → Option D) (g : Rho → Option (List D)) : Rho → Option (List D) := fun ρ => (f ρ).bind fun a => (g ρ).bind fun as => if p a then F (a :: as) else none
theorem x_methF {J : Jd} {o : PySem.Expr} {name : Str} {id : String} {apos pos : Pos} {es : List PySem.Expr} {f : Rho → Option D} {g : Rho → Option (List D)} {p : D → Bool} {F : List D → Option (List D)} (hg : GetOk name id p) (hc : ConF J.cx 0 (.builtin id) F) (ho : SE J o f) (hes : SEs J es g)
    (hs : notSuperCall o = true := by rfl) (hst : es.any isStarred = false := by rfl) (hlen' : Nat.ble (es.length + 1) 29 = true := by rfl) (hp : apos.endLine = pos.line := by rfl) :
    SEF J (.Call (.Attribute o name apos) es [] pos) (methL p F f g) := fun A env P O vm s ρ d hA Fr h => by
  have hlen := le_of_ble hlen'
  unfold methL at h
  rw [Option.bind_eq_some_iff] at h
  obtain ⟨a, ha, h⟩ := h
  rw [Option.bind_eq_some_iff] at h
  obtain ⟨as, has, h⟩ := h
  split at h
  · rename_i hpa
    rw [method_split hs hst hlen hp]
    refine W.bind (W.mono (ho A env P O vm s ρ a hA Fr ha) fun v s₁ ⟨X1, r1⟩ => W.bind (W.standAt (W.bind (W.holding (W.of_any (hg J.cx A (Av env P O) s₁ a v _ _ hpa r1 ?_))))))
    have hb := backTo_plain pos env hst
    refine callWith_ok hb.1 (by rw [hb.2]; omega) (W.mono (hes A env P O vm s₁ ρ as pos hA (Fr.ext X1) has) fun vs s₂ ⟨X2, r2⟩ => ⟨.inr (by intro a e; cases e), ?_⟩)
    have X := X1.trans X2
    exact W.mono (hc A (Av env P O) s₂ (a :: as) (v :: vs) d (hA.le (Nat.zero_le _)) (fun q hq => (Fr.ext X).avLt hq) (Fr.ext X).baseOf (RdAll.cons (r1.keep X2.keep) r2) h) fun v s₃ ⟨X3, b, us, n, e1, e2, e3, e4, e5⟩ => ⟨X.trans X3, b, us, n, e1, Nat.le_trans X.size e2, e3, e4, e5⟩
  · cases h

theorem rd_strs {cx : Cx} {h : Heap} {V : Avd} : ∀ {ls : List (List Nat)} {l : List (Str × Tok)}, l.map (·.1) = ls.map (fun p => (⟨p.toArray⟩ : Str)) → (∀ p ∈ ls, (∀ c ∈ p, c < 0x110000) ∧ p.length ≤ sizeLine) → RdAll cx h V (ls.map D.str) (strValues l)
  | [], [], _, _ => RdAll.nil
  | [], _ :: _, e, _ => by simp at e
  | _ :: _, [], e, _ => by simp at e
  | p :: ls, (x, t) :: l, e, hp => by
    simp only [List.map_cons, List.cons.injEq] at e
    obtain ⟨rfl, e⟩ := e
    exact RdAll.cons (rd_str (hp p (List.mem_cons_self ..)).1 (hp p (List.mem_cons_self ..)).2) (rd_strs e fun q hq => hp q (List.mem_cons_of_mem _ hq))
noncomputable def splitF : List D → Option (List D)
  | [.str l, .str [c]] => if l.length ≤ 10000000 then some ((splitC c l).map .str) else none
  | _ => none
theorem split_raw {prog : Program} {w : World} {A : Around} {E : Value → Shared → Prop} {s : Shared} {x y : Str} {t u : Tok} {Q : Value → Shared → Prop} (hy : (y.length == 0) = false)
    (hq : ∀ l k, l.map (·.1) = Txt.split x y → Q (.ref s.heap.objs.size) { s with toks := k, heap := s.heap.push { cls := .type "list", data := .seq (strValues l).toArray } })
    (hsz : x.length ≤ sizeLine) (hsz2 : (Builtin.Str.partsBetween x (Builtin.Str.occurrences x y 0 x.length (x.length + 1)) y.length).length ≤ sizeLine) :
    wpAny (model prog w) A (PySem.call (.builtin "str.split") [.str x t, .str y u]) Q E s := by
  cases h1 : (decide (x.length < y.length) || decide (Builtin.Str.strKind x < Builtin.Str.strKind y))
  · cases hf : (Builtin.Str.occurrences x y 0 x.length (x.length + 1)).isEmpty
    · refine call_meets F.slot_str_split (typeIs_str _ _ _) F.entry_str_split (F.args_str_split_2 _ _) (meets_str_split_sep x y t u h1 hy hf hsz hsz2) ?_
      rw [strsFrom_eq]
      exact hq (numbered s.toks _) _ ((numbered_texts _ _).trans ((if_neg (ne_true_of_eq_false h1)).trans (if_neg (ne_true_of_eq_false hf))).symm)
    · exact call_meets F.slot_str_split (typeIs_str _ _ _) F.entry_str_split (F.args_str_split_2 _ _) (meets_str_split_not_found x y t u h1 hy hf)
        (hq [(x, t)] s.toks ((if_neg (ne_true_of_eq_false h1)).trans (if_pos hf)).symm)
  · exact call_meets F.slot_str_split (typeIs_str _ _ _) F.entry_str_split (F.args_str_split_2 _ _) (meets_str_split_cannot_occur x y t u h1)
      (hq [(x, t)] s.toks (if_pos h1).symm)
theorem con_split {cx : Cx} {k : Nat} : ConF cx k (.builtin "str.split") splitF := fun A V s ds vs r hA hV hb ra h => by
  unfold splitF at h
  split at h
  · rename_i l c
    split at h
    · rename_i hz
      cases h
      have hsz := szl
      rw [RdAll] at ra; obtain ⟨v, l1, rfl, ra, rb⟩ := ra
      rw [RdAll] at rb; obtain ⟨v2, l2, rfl, rb, rc⟩ := rb
      rw [RdAll] at rc; subst rc
      rw [Rd] at ra; obtain ⟨t1, rfl, hc1, hl1⟩ := ra
      rw [Rd] at rb; obtain ⟨t2, rfl, _, _⟩ := rb
      have hy : ((⟨[c].toArray⟩ : Str).length == 0) = false := rfl
      have hpl := splitC_len c l
      have hparts : (Builtin.Str.partsBetween ⟨l.toArray⟩ (Builtin.Str.occurrences ⟨l.toArray⟩ ⟨[c].toArray⟩ 0 (⟨l.toArray⟩ : Str).length ((⟨l.toArray⟩ : Str).length + 1)) (⟨[c].toArray⟩ : Str).length).length ≤ sizeLine := by
        obtain ⟨f, hc, hn⟩ := StrLaws.occ_tight ⟨l.toArray⟩ ⟨#[c]⟩ (Nat.le_refl 1)
        have hp := parts_split _ 0 f hc hn
        rw [List.drop_zero] at hp
        rw [StrLaws.partsBetween_eq]
        show (StrLaws.partsFrom ⟨l.toArray⟩ 1 0 _).length ≤ _
        rw [show (⟨[c].toArray⟩ : Str) = ⟨#[c]⟩ from rfl, hp, List.length_map]; omega
      refine W.of_any (split_raw hy (fun ll k hll => ⟨Ext.push _ _, _, (strValues ll).toArray, 0, rfl, Nat.le_refl _, Heap.get?_push_size _ rfl, ?_, ?_⟩) (by rw [str_len]; exact hl1) hparts)
      · rw [show (⟨[c].toArray⟩ : Str) = ⟨#[c]⟩ from rfl, split_is] at hll
        have := congrArg List.length hll
        simp only [List.length_map] at this
        have e2 : (strValues ll).toArray.size = ll.length := by simp [strValues]
        rw [e2, this]; omega
      · rw [show (⟨[c].toArray⟩ : Str) = ⟨#[c]⟩ from rfl, split_is] at hll
        exact rd_strs hll fun p hp => ⟨fun x hx => hc1 x ((splitC_mem c l p hp).1 x hx), Nat.le_trans (splitC_mem c l p hp).2 hl1⟩
    · cases h
  · cases h

/-! a match's places -/
end Mine

end
section
open PySem PySem.W PySem.Calls PyProof.Rows
set_option Elab.async false
set_option maxRecDepth 100000
namespace Mine

noncomputable def usedS (i : Nat) (f : Rho → Option (List D)) : Rho → Option (Out × Rho) := fun ρ => (f ρ).map fun ys => (.next, ρ.set i (.val (.list ys)))
noncomputable def listL (f : Rho → Option (List D)) : Rho → Option (List D) := fun ρ => (f ρ).bind fun ds => if ds.length ≤ 1000 then some ds else none
section
variable {J : Jd}
theorem x_listF {es : List PySem.Expr} {pos : Pos} {f : Rho → Option (List D)} (hes : SEs J es f) : SEF J (.List es pos) (listL f) := sef_list hes
theorem x_used {scope : Scope} {elt tgt iter : PySem.Expr} {ifs : List PySem.Expr} {pos py spos : Pos} {y : Str} {g : D → Rho → Option Rho} {t : Rho → Option Bool} {fe : Rho → Option D} {f : Rho → Option (List D)} (vars : List Str) (i : Nat) (cs : CompSc J scope vars) (hi : SI J tgt iter f) (ht : SAL (Jc J scope vars) tgt g) (hts : TsOk (Jc J scope vars) ifs t) (he : SE (Jc J scope vars) elt fe)
    (hk : J.sc.kind = .function := by rfl) (hty : J.tab[i]? = some (some y) := by rfl) (hly : J.sc.names.lookup y = some .local := by rfl) (hb : (py.line == pos.line && !(scope.names.any fun (n, k) => n == y && (k == .local || k == .cell))) = true := by rfl) :
    S1 J (.Assign [.Name y py] (.ListComp elt [⟨tgt, iter, ifs, 0⟩] scope pos) spos) (usedS i (compF vars f g t (emE fe))) := used_comp cs turn_one hi ht hts (em_last he) (fun env e => by
      unfold swapsWith
      have h1 : env.blockKind = .function := by unfold Env.blockKind; rw [e, hk]; rfl
      have h2 : env.kindOf y = some .local := by show env.scope.names.lookup y = _; rw [e]; exact hly
      show (pure _ : Sem Bool) = _
      rw [h1, h2]
      rw [Bool.and_eq_true] at hb
      have hp : (Expr.ListComp elt [⟨tgt, iter, ifs, 0⟩] scope pos).pos = pos := rfl
      rw [hp, hb.1, hb.2]; rfl) hty (fun e => by rw [hly] at e; cases e)
end
end Mine

end
section
open PySem PySem.W PySem.Calls PyProof.Rows
set_option Elab.async false
set_option maxRecDepth 100000
namespace Mine

/-! a text ahead of and behind a sign -/
noncomputable def partC (c : Nat) : List Nat → List Nat × List Nat × List Nat
  | [] => ([], [], [])
  | x :: r => if x = c then ([], [c], r) else (x :: (partC c r).1, (partC c r).2.1, (partC c r).2.2)
theorem partC_free {c : Nat} : ∀ {l : List Nat}, c ∉ l → partC c l = (l, [], [])
  | [], _ => rfl
  | x :: r, h => by
    rw [List.mem_cons, not_or] at h
    rw [partC, if_neg (Ne.symm h.1), partC_free h.2]
theorem partC_at {c : Nat} {b : List Nat} : ∀ {a : List Nat}, c ∉ a → partC c (a ++ c :: b) = (a, [c], b)
  | [], _ => by rw [List.nil_append, partC, if_pos rfl]
  | x :: r, h => by
    rw [List.mem_cons, not_or] at h
    rw [List.cons_append, partC, if_neg (Ne.symm h.1), partC_at h.2]
noncomputable def rpartC (c : Nat) : List Nat → List Nat × List Nat × List Nat
  | [] => ([], [], [])
  | x :: r => if c ∈ r then (x :: (rpartC c r).1, (rpartC c r).2.1, (rpartC c r).2.2) else if x = c then ([], [c], r) else ([], [], x :: r)
theorem rpartC_free {c : Nat} : ∀ {l : List Nat}, c ∉ l → rpartC c l = ([], [], l)
  | [], _ => rfl
  | x :: r, h => by
    rw [List.mem_cons, not_or] at h
    rw [rpartC, if_neg h.2, if_neg (Ne.symm h.1)]
theorem rpartC_at {c : Nat} {b : List Nat} (hb : c ∉ b) : ∀ {a : List Nat}, rpartC c (a ++ c :: b) = (a, [c], b)
  | [] => by rw [List.nil_append, rpartC, if_neg hb, if_pos rfl]
  | x :: r => by rw [List.cons_append, rpartC, if_pos (by simp), rpartC_at hb]

theorem two_of {l : List Nat} {c i : Nat} (h : l[i]? = some c) : l = l.take i ++ c :: l.drop (i + 1) := by
  obtain ⟨hi, e⟩ := List.getElem?_eq_some_iff.mp h
  conv => lhs; rw [← List.take_append_drop i l, List.drop_eq_getElem_cons hi, e]
noncomputable def partF : List D → Option D
  | [.str l, .str [c]] => some (.tup [.str (partC c l).1, .str (partC c l).2.1, .str (partC c l).2.2])
  | _ => none
noncomputable def rpartF : List D → Option D
  | [.str l, .str [c]] => some (.tup [.str (rpartC c l).1, .str (rpartC c l).2.1, .str (rpartC c l).2.2])
  | _ => none
theorem rd_t3 {cx : Cx} {s : Shared} {V : Avd} {a b c : List Nat} {t u w : Tok} (hV : ∀ p, V p → p < s.heap.objs.size) (h : ∀ x, x ∈ a ∨ x ∈ b ∨ x ∈ c → x < 0x110000) (hz : a.length ≤ sizeLine ∧ b.length ≤ sizeLine ∧ c.length ≤ sizeLine) :
    Rd cx (s.heap.push { cls := .type "tuple", data := .seq [.str ⟨a.toArray⟩ t, .str ⟨b.toArray⟩ u, .str ⟨c.toArray⟩ w].toArray }) V (.tup [.str a, .str b, .str c]) (.ref s.heap.objs.size) := by
  rw [Rd]
  refine ⟨_, _, 0, rfl, Heap.get?_push_size _ rfl, fun hp => Nat.lt_irrefl _ (hV _ hp), by show 3 ≤ sizeLine; decide, ?_⟩
  exact RdAll.cons (rd_str (fun x hx => h x (.inl hx)) hz.1) (RdAll.cons (rd_str (fun x hx => h x (.inr (.inl hx))) hz.2.1) (RdAll.cons (rd_str (fun x hx => h x (.inr (.inr hx))) hz.2.2) RdAll.nil))
theorem occ_first (l : List Nat) (c : Nat) : (∀ i r, Builtin.Str.occurrences ⟨l.toArray⟩ ⟨#[c]⟩ 0 (⟨l.toArray⟩ : Str).length 1 = i :: r → l[i]? = some c ∧ c ∉ l.take i) ∧ (Builtin.Str.occurrences ⟨l.toArray⟩ ⟨#[c]⟩ 0 (⟨l.toArray⟩ : Str).length 1 = [] → c ∉ l) := by
  have e := find_whole ⟨l.toArray⟩ ⟨#[c]⟩
  have hf : Txt.find ⟨l.toArray⟩ ⟨#[c]⟩ = match Builtin.Str.occurrences ⟨l.toArray⟩ ⟨#[c]⟩ 0 (⟨l.toArray⟩ : Str).length 1 with | i :: _ => (i : Int) | [] => -1 := rfl
  rw [hf] at e
  constructor
  · intro i r h
    rw [h] at e
    rcases e with ⟨h0, _⟩ | ⟨j, h0, hj, hn⟩
    · have h0' : (i : Int) = -1 := h0
      omega
    · have h0' : (i : Int) = (j : Int) := h0
      have : j = i := by omega
      subst this
      refine ⟨(at_sign l c j).mp hj, fun hm => ?_⟩
      obtain ⟨k, hk⟩ := List.getElem?_of_mem hm
      have hlt : k < j := by
        have := (List.getElem?_eq_some_iff.mp hk).1
        simp at this; omega
      rw [List.getElem?_take_of_lt hlt] at hk
      exact hn k hlt ((at_sign l c k).mpr hk)
  · intro h hm
    rw [h] at e
    rcases e with ⟨_, hn⟩ | ⟨j, h0, _, _⟩
    · obtain ⟨k, hk⟩ := List.getElem?_of_mem hm
      exact hn k ((at_sign l c k).mpr hk)
    · have h0' : (-1 : Int) = (j : Int) := h0
      omega
theorem con_part {cx : Cx} {k : Nat} : Con cx k (.builtin "str.partition") partF := fun A V s ds vs r hA hV hb ra h => by
  unfold partF at h
  split at h
  · rename_i l c
    cases h
    rw [RdAll] at ra; obtain ⟨v, l1, rfl, ra, rb⟩ := ra
    rw [RdAll] at rb; obtain ⟨v2, l2, rfl, rb, rc⟩ := rb
    rw [RdAll] at rc; subst rc
    rw [Rd] at ra; obtain ⟨t1, rfl, hc1, hl1⟩ := ra
    rw [Rd] at rb; obtain ⟨t2, rfl, hc2, hl2⟩ := rb
    have hy : ((⟨[c].toArray⟩ : Str).length == 0) = false := rfl
    refine W.of_any (call_meets F.slot_str_partition (typeIs_str _ _ _) F.entry_str_partition (F.args_str_partition_2 _ _) (meets_str_partition _ _ t1 t2 hy (by rw [str_len]; exact hl1)) ?_)
    obtain ⟨o1, o2⟩ := occ_first l c
    rw [show (⟨[c].toArray⟩ : Str) = ⟨#[c]⟩ from rfl]
    cases ho : Builtin.Str.occurrences ⟨l.toArray⟩ ⟨#[c]⟩ 0 (⟨l.toArray⟩ : Str).length 1 with
    | nil =>
      rw [partC_free (o2 ho)]
      refine ⟨Ext.push _ _, ?_⟩
      exact rd_t3 (a := l) (b := []) (c := []) hV (fun x hx => hx.elim (hc1 x) fun hx => hx.elim (fun h => nomatch h) fun h => nomatch h) ⟨hl1, by simp, by simp⟩
    | cons i r =>
      obtain ⟨q1, q2⟩ := o1 i r ho
      have e := two_of q1
      have ep : partC c l = (l.take i, [c], l.drop (i + 1)) := by
        conv => lhs; rw [e]
        exact partC_at q2
      rw [ep]
      refine ⟨Ext.push _ _, ?_⟩
      dsimp only
      rw [sub_at, sub_at, List.drop_zero, Nat.sub_zero, show i + (⟨#[c]⟩ : Str).length = i + 1 from rfl, str_len, List.take_of_length_le (l := l.drop (i + 1)) (by rw [List.length_drop]; exact Nat.le_refl _)]
      exact rd_t3 (a := l.take i) (b := [c]) (c := l.drop (i + 1)) hV (fun x hx => hx.elim (fun h => hc1 x (List.mem_of_mem_take h)) fun hx => hx.elim (hc2 x) fun h => hc1 x (List.mem_of_mem_drop h)) ⟨by rw [List.length_take]; omega, hl2, by rw [List.length_drop]; omega⟩
  · cases h
theorem con_rpart {cx : Cx} {k : Nat} : Con cx k (.builtin "str.rpartition") rpartF := fun A V s ds vs r hA hV hb ra h => by
  unfold rpartF at h
  split at h
  · rename_i l c
    cases h
    rw [RdAll] at ra; obtain ⟨v, l1, rfl, ra, rb⟩ := ra
    rw [RdAll] at rb; obtain ⟨v2, l2, rfl, rb, rc⟩ := rb
    rw [RdAll] at rc; subst rc
    rw [Rd] at ra; obtain ⟨t1, rfl, hc1, hl1⟩ := ra
    rw [Rd] at rb; obtain ⟨t2, rfl, hc2, hl2⟩ := rb
    have hy : ((⟨[c].toArray⟩ : Str).length == 0) = false := rfl
    refine W.of_any (call_meets F.slot_str_rpartition (typeIs_str _ _ _) F.entry_str_rpartition (F.args_str_rpartition_2 _ _) (meets_str_rpartition _ _ t1 t2 hy (by rw [str_len]; exact hl1)) ?_)
    rw [show (⟨[c].toArray⟩ : Str) = ⟨#[c]⟩ from rfl]
    rcases StrLaws.last_spec ⟨l.toArray⟩ ⟨#[c]⟩ with ⟨ho, hn⟩ | ⟨i, ho, hi, hn⟩
    · rw [ho]
      have hf : c ∉ l := fun hm => by
        obtain ⟨k, hk⟩ := List.getElem?_of_mem hm
        exact hn k ((at_sign l c k).mpr hk)
      rw [rpartC_free hf]
      refine ⟨Ext.push _ _, ?_⟩
      exact rd_t3 (a := []) (b := []) (c := l) hV (fun x hx => hx.elim (fun h => nomatch h) fun hx => hx.elim (fun h => nomatch h) (hc1 x)) ⟨by simp, by simp, hl1⟩
    · rw [ho]
      have q1 := (at_sign l c i).mp hi
      have q2 : c ∉ l.drop (i + 1) := fun hm => by
        obtain ⟨k, hk⟩ := List.getElem?_of_mem hm
        rw [List.getElem?_drop] at hk
        exact hn (i + 1 + k) (by omega) ((at_sign l c _).mpr hk)
      have e := two_of q1
      have ep : rpartC c l = (l.take i, [c], l.drop (i + 1)) := by
        conv => lhs; rw [e]
        exact rpartC_at q2
      rw [ep]
      refine ⟨Ext.push _ _, ?_⟩
      dsimp only
      rw [sub_at, sub_at, List.drop_zero, Nat.sub_zero, show i + (⟨#[c]⟩ : Str).length = i + 1 from rfl, str_len, List.take_of_length_le (l := l.drop (i + 1)) (by rw [List.length_drop]; exact Nat.le_refl _)]
      exact rd_t3 (a := l.take i) (b := [c]) (c := l.drop (i + 1)) hV (fun x hx => hx.elim (fun h => hc1 x (List.mem_of_mem_take h)) fun hx => hx.elim (hc2 x) fun h => hc1 x (List.mem_of_mem_drop h)) ⟨by rw [List.length_take]; omega, hl2, by rw [List.length_drop]; omega⟩
  · cases h

/-! an own list's item, changed -/
section
variable {J : Jd}
end
end Mine

end
section
open PySem PySem.W PySem.Calls PyProof.Rows
set_option Elab.async false
set_option maxRecDepth 100000
namespace Mine

/-! enumerate(list) -/
noncomputable def asEnum : D → Option (List D)
  | .list ds => some (ds.mapIdx fun i d => .tup [.int (i : Nat), d])
  | _ => none
theorem wk_enum {cx : Cx} {A : Around} {elts : List PySem.Expr} {x1 : Nat} {pos : Pos} {e it l : Addr} {N : Nat} {ds : List D} {U : Avd} {vs : Array Value} {n : Nat} (hh : A.handled = none) (hei : e ≠ it) (hNe : ¬ U e ∧ e < N) (hNi : ¬ U it ∧ it < N) (hNl : ¬ U l ∧ l < N) (hle : l ≠ e) (hli : l ≠ it) (hlen : vs.size = ds.length) :
    Wk cx A (.Tuple elts x1 pos) e [e, it] N (ds.mapIdx fun i d => .tup [.int (i : Nat), d]) U (fun i h => (∃ old, IsEnum h e it (i : Int) old) ∧ h.IsListIter it l i ∧ h.get? l = some { cls := .type "list", data := .seq vs n } ∧ RdAll cx h (Vinf U [e, it] N) ds vs.toList) where
  frame := fun i h h' ⟨⟨old, h1⟩, ⟨o2, h2, h2'⟩, h3, h4⟩ hk => ⟨⟨old, hk _ _ hNe.1 hNe.2 h1⟩, ⟨o2, hk _ _ hNi.1 hNi.2 h2, h2'⟩, hk _ _ hNl.1 hNl.2 h3, h4.mono (fun a o ha e => hk a o (fun h => ha (.inl h)) (Nat.lt_of_not_le fun h => ha (.inr (.inr h))) e) fun _ h => .inl h⟩
  item := fun i d s V Q hd ⟨⟨old, h1⟩, h2, h3, h4⟩ hb hV hQ => by
    rw [List.getElem?_mapIdx, Option.map_eq_some_iff] at hd
    obtain ⟨d', hd, rfl⟩ := hd
    obtain ⟨v, hv, r⟩ := h4.get hd
    have hv' : vs[i]? = some v := by rw [← Array.getElem?_toList]; exact hv
    refine W.of_any (wpAny_pyNext_enum_item h1 h2 ⟨_, h3, rfl, n, rfl⟩ hv' hei fun h' he' hit' ht' hsz hk => ⟨_, rfl, ?_⟩)
    refine W.of_any (wpAny_letOwnedTupleGo_enum he' fun h'' he'' hs'' => ?_)
    have hlt : e < s.heap.objs.size := Heap.lt_size h1
    have hke : ∀ b o, b ∉ [e, it] → s.heap.get? b = some o → h''.get? b = some o := fun b o hb e' => hs''.extBut b o (fun x => hb (by simp [x])) (hk b o (fun x => hb (by simp [x])) (fun x => hb (by simp [x])) e')
    have hT : h''.get? s.heap.objs.size = some { cls := .type "tuple", data := .seq #[.int i s.toks, v] } := hs''.extBut _ _ (Nat.ne_of_gt hlt) ht'
    have hrd : RdAll cx h'' (Vinf U [e, it] N) ds vs.toList := h4.mono (fun a o ha e' => hke a o (fun hm => ha (.inr (.inl hm))) e') fun _ h => .inl h
    have hz'' : h''.objs.size = s.heap.objs.size + 1 := by rw [hs''.1]; exact hsz
    refine hQ _ _ ⟨rfl, rfl, by show _ ≤ h''.objs.size; rw [hz'']; exact Nat.le_succ _, hke⟩ ?_ ⟨⟨v, he''⟩, hit'.extBut hs''.extBut (Ne.symm hei), hke _ _ (by simp [hle, hli]) h3, hrd⟩
    rw [Rd]
    refine ⟨s.heap.objs.size, #[.int i s.toks, v], 0, rfl, hT, fun hva => Nat.lt_irrefl _ (hV _ hva).2, by show 2 ≤ sizeLine; decide, ?_⟩
    obtain ⟨v2, hv2, r2⟩ := hrd.get hd
    rw [hv] at hv2; cases hv2
    exact RdAll.cons (by rw [Rd]; exact ⟨_, rfl⟩) (RdAll.cons (r2.weak fun a ha => (hV a ha).1) RdAll.nil)
  done := fun s Q ⟨⟨old, h1⟩, h2, h3, h4⟩ hb hQ => by
    rw [List.length_mapIdx] at h1 h2
    refine W.of_anyS (wpAny_pyNext_enum_end hh h1 h2 ⟨_, h3, rfl, n, rfl⟩ (Array.getElem?_eq_none (by omega)) fun h' hk hsz => ⟨rfl, hQ _ ⟨rfl, rfl, hsz, fun a o ha e' => hk a o (fun x => ha (by simp [x])) e'⟩⟩)
  self := fun i s ⟨⟨old, h1⟩, _⟩ => W.of_any (wpAny_pyIter_enum h1 ⟨rfl, rfl⟩)

theorem si_enum {J : Jd} {elts : List PySem.Expr} {x1 : Nat} {tpos : Pos} {e : PySem.Expr} {fn : Str} {p pos : Pos} {f : Rho → Option D} (he : SE J e f)
    (hv : (J.cx.mg fn).or (J.cx.mb fn) = some (.type "enumerate")) (hl : J.sc.names.lookup fn = some .globalImplicit := by rfl) (hst : isStarred e = false := by rfl) (hdb : (fn == ("__debug__" : Str)) = false := by rfl) :
    SI J (.Tuple elts x1 tpos) (.Call (.Name fn p) [e] [] pos) (itE asEnum f) := fun A env P O vm s ρ ds hA F h => by
  unfold itE at h
  rw [Option.bind_eq_some_iff] at h
  obtain ⟨d, hd, h⟩ := h
  unfold asEnum at h
  split at h
  · rename_i xs
    cases h
    show W _ _ A (do callWith pos (← eval (.Name fn p) env) [] (backTo pos (starEach [e] env)) []) _ s
    rw [eval_Name env fn p hdb]
    refine W.bind (W.bind (W.standAt (F.glob_ hl hv ?_)))
    have hb := backTo_plain pos env (es := [e]) (by simp [hst])
    have hes : SEs J [e] (consF f nilF) := ses_cons he ses_nil hst
    refine callWith_ok hb.1 (by rw [hb.2]; show 1 ≤ 30; decide) (W.mono (hes A env P O vm s ρ [.list xs] pos hA F (by simp [consF, nilF, hd])) fun vs s₁ ⟨X1, r1⟩ => ⟨.inr (fun a e => by cases e), ?_⟩)
    rw [RdAll] at r1
    obtain ⟨v, l', rfl, r1, r2⟩ := r1
    rw [RdAll] at r2
    subst r2
    rw [Rd] at r1
    obtain ⟨l, us, n, rfl, ho, hna, hz, hr⟩ := r1
    have hll := hr.length
    rw [Array.length_toList] at hll
    have hlt := Heap.lt_size ho
    have F1 := F.ext X1
    refine W.of_any (call_enumerate_list ⟨_, ho, rfl, n, rfl⟩ fun h' he' hit' hsz hk => ⟨rfl, ?_⟩)
    refine W.of_any (wpAny_pyIter_enum he' ?_)
    have X2 : Ext s₁ { s₁ with heap := h' } := ⟨rfl, rfl, by show _ ≤ h'.objs.size; rw [hsz]; exact Nat.le_add_right _ _, hk⟩
    have n1 : s₁.heap.objs.size ≠ s₁.heap.objs.size + 1 := Nat.ne_of_lt (Nat.lt_succ_self _)
    have hN0 : s₁.heap.objs.size < h'.objs.size := by rw [hsz]; exact Nat.lt_add_of_pos_right (by decide)
    have hN1 : s₁.heap.objs.size + 1 < h'.objs.size := by rw [hsz]; exact Nat.lt_succ_self _
    refine ⟨X1.trans X2, by rw [List.length_mapIdx, ← hll]; exact hz, s₁.heap.objs.size + 1, [s₁.heap.objs.size + 1, s₁.heap.objs.size], _, rfl,
      wk_enum (l := l) (vs := us) (n := n) hA.1 (Ne.symm n1) ⟨F1.new (Nat.le_succ _), hN1⟩ ⟨F1.new (Nat.le_refl _), hN0⟩ ⟨hna, Nat.lt_trans hlt hN0⟩ (Nat.ne_of_lt (Nat.lt_succ_of_lt hlt)) (Nat.ne_of_lt hlt) hll,
      ⟨⟨.none, he'⟩, hit', hk _ _ ho, ?_⟩, ?_⟩
    · refine hr.mono (fun a o _ e => hk a o e) fun a ha => ?_
      rcases ha with ha | ha | ha
      · exact .inl ha
      · simp at ha
        rcases ha with ha | ha
        · rw [ha]; exact .inr (get_none (Nat.le_succ _))
        · rw [ha]; exact .inr (get_none (Nat.le_refl _))
      · exact .inr (get_none (Nat.le_trans (Nat.le_of_lt hN0) ha))
    · intro b hb'
      simp at hb'
      rcases hb' with hb' | hb'
      · rw [hb']; exact ⟨Nat.le_succ_of_le X1.size, hN1⟩
      · rw [hb']; exact ⟨X1.size, hN0⟩
  · cases h
end Mine

end
section
open PySem PySem.W PySem.Calls PyProof.Rows
set_option Elab.async false
set_option maxRecDepth 100000
namespace Mine

/-! a text, repeated -/
noncomputable def opMul : D → D → Option D
  | .str l, .bool b => some (.str (if b then l else []))
  | _, _ => none
theorem rmul_bool (b : Bool) (x : Str) (t : Tok) : Gives (Builtin.«int.__rmul__» ⟨[.bool b, .str x t], []⟩) (.val (Value.notImplemented)) :=
  .of_wp fun M A E s Q h => by obtain ⟨hp, g, d, tk, os⟩ := s; wp_walk; exact ⟨_, rfl, h⟩
theorem mul_bool (x : Str) (t : Tok) (b : Bool) : Gives (Builtin.«str.__mul__» ⟨[.str x t, .bool b], []⟩) (if b then .val (.str x t) else .str Str.empty) := by
  cases b
  · exact .rule (.of_eq rfl)
  · exact .rule (.of_eq rfl)
theorem typeIs_b (s : Shared) (b : Bool) : s.TypeIs (.bool b) "bool" := by rfl
theorem bin_mul : BinOk .Mult opMul := fun cx A V s a b x y r hu hV ra rb h => by
  unfold opMul at h
  split at h
  · rename_i l b
    cases h
    rw [Rd] at ra
    rw [Rd] at rb
    obtain ⟨t, rfl, h1, h2⟩ := ra
    subst rb
    refine W.of_any (wpAny_binaryOp_repeat (T := "str") (U := "bool") (by decide) (fun s' => typeIs_str s' _ t) (fun s' => typeIs_b s' b) noFill_str_mul F.fills_bool_mul F.slot_bool_rmul repeat_str F.slot_bool_index.lookup
      (call_gives F.slot_bool_rmul (typeIs_b s b) F.entry_int_rmul (F.args_int_rmul_2 _ _) (rmul_bool b _ t) ⟨rfl, call_gives F.slot_str_mul (typeIs_str s _ t) F.entry_str_mul (F.args_str_mul_2 _ _) (mul_bool _ t b) ?_⟩))
    cases b with
    | true => exact ⟨Ext.refl _, rd_str h1 h2⟩
    | false => exact ⟨by decide, Ext.toks _, rd_str (l := []) (fun c hc => nomatch hc) (by simp)⟩
  · cases h

/-! a text, replaced -/
theorem sub_mem {x : Str} {a b c : Nat} (h : c ∈ (Builtin.Str.strSub x a b).cps.toList) : c ∈ x.cps.toList := by
  rw [StrLaws.strSub_toList] at h
  exact List.mem_of_mem_drop (List.mem_of_mem_take h)
theorem glued_mem {z : Str} {c : Nat} : ∀ (ps : List Str) (acc : Array Nat), c ∈ (ps.foldl (fun acc p => acc ++ z.cps ++ p.cps) acc).toList → c ∈ acc.toList ∨ c ∈ z.cps.toList ∨ ∃ p ∈ ps, c ∈ p.cps.toList
  | [], acc, h => .inl h
  | p :: ps, acc, h => by
    rw [List.foldl_cons] at h
    rcases glued_mem ps _ h with h | h | ⟨q, hq, h⟩
    · simp only [Array.toList_append, List.mem_append] at h
      rcases h with (h | h) | h
      · exact .inl h
      · exact .inr (.inl h)
      · exact .inr (.inr ⟨p, List.mem_cons_self .., h⟩)
    · exact .inr (.inl h)
    · exact .inr (.inr ⟨q, List.mem_cons_of_mem _ hq, h⟩)
noncomputable def replD (l y z : List Nat) : List Nat := (Txt.replace ⟨l.toArray⟩ ⟨y.toArray⟩ ⟨z.toArray⟩).cps.toList
theorem parts_mem {x : Str} {cuts : List Nat} {w c : Nat} {p : Str} (h : p ∈ Builtin.Str.partsBetween x cuts w) (hc : c ∈ p.cps.toList) : c ∈ x.cps.toList := by
  unfold Builtin.Str.partsBetween at h
  rw [List.mem_map] at h
  obtain ⟨⟨i, j⟩, _, rfl⟩ := h
  exact sub_mem hc
theorem replD_mem {l y z : List Nat} {c : Nat} (h : c ∈ replD l y z) : c ∈ l ∨ c ∈ z := by
  unfold replD Txt.replace at h
  split at h
  · exact .inl h
  · unfold Builtin.Str.glued at h
    rcases glued_mem _ _ h with h | h | ⟨p, hp, h⟩
    · cases hps : Builtin.Str.partsBetween ⟨l.toArray⟩ (Builtin.Str.occurrences ⟨l.toArray⟩ ⟨y.toArray⟩ 0 (⟨l.toArray⟩ : Str).length ((⟨l.toArray⟩ : Str).length + 1)) (⟨y.toArray⟩ : Str).length with
      | nil => rw [hps] at h; simp [Str.empty] at h
      | cons p ps =>
        rw [hps] at h
        exact .inl (parts_mem (p := p) (by rw [hps]; exact List.mem_cons_self ..) h)
    · exact .inr h
    · exact .inl (parts_mem (List.mem_of_mem_drop hp) h)
theorem str_eta (x : Str) : x = ⟨x.cps.toList.toArray⟩ := by cases x; rfl
noncomputable def replE (y z : List Nat) (f : Rho → Option D) : Rho → Option D := fun ρ => (f ρ).bind fun a => match a with
  | .str l => if l.length ≤ 100000 ∧ (replD l y z).length ≤ sizeLine then some (.str (replD l y z)) else none
  | _ => none
section
variable {J : Jd}
theorem se_repl {o : PySem.Expr} {apos pos p1 p2 : Pos} {x1 x2 : Str} {k1 k2 : Nat} {f : Rho → Option D} (y z : List Nat) (ho : SE J o f) (e1 : x1 = ⟨y.toArray⟩ := by rfl) (e2 : x2 = ⟨z.toArray⟩ := by rfl)
    (hz : (z.all (· < 0x110000) && decide (z.length ≤ 100) && !decide (y = z) && decide (y.length ≤ 100)) = true := by rfl) (hs : notSuperCall o = true := by rfl) (hp : apos.endLine = pos.line := by rfl) :
    SE J (.Call (.Attribute o "replace" apos) [.Constant (.str x1) k1 p1, .Constant (.str x2) k2 p2] [] pos) (replE y z f) := fun A env P O vm s ρ d hA Fr h => by
  subst e1 e2
  simp only [Bool.and_eq_true, decide_eq_true_eq, Bool.not_eq_true', decide_eq_false_iff_not] at hz
  obtain ⟨⟨⟨hz1, hz2⟩, hz3⟩, hz4⟩ := hz
  unfold replE at h
  rw [Option.bind_eq_some_iff] at h
  obtain ⟨a, ha, h⟩ := h
  split at h
  · rename_i l
    split at h
    · rename_i hl
      cases h
      have hsz := szl
      rw [method_split hs rfl (by show 2 < 29; decide) hp]
      refine W.bind (W.mono (ho A env P O vm s ρ _ hA Fr ha) fun v s₁ ⟨X1, r1⟩ => W.bind (W.standAt (W.bind (W.holding ?_))))
      rw [Rd] at r1
      obtain ⟨t, rfl, hc1, hl1⟩ := r1
      refine W.of_any (GM.replace ?_)
      refine callWith_ok rfl (by show 2 ≤ 30; decide) ?_
      show W _ _ A (do
        let v ← eval (.Constant (.str ⟨y.toArray⟩) k1 p1) env
        let rest ← holding [v] (do
          let v2 ← eval (.Constant (.str ⟨z.toArray⟩) k2 p2) env
          let rest ← holding [v2] (pure [])
          pure (v2 :: rest))
        pure (v :: rest)) _ s₁
      refine W.tok fun ht => W.bind (W.of_any (wpAny_mkText (W.bind (W.holding (W.bind (W.of_any (wpAny_mkText (W.bind (W.holding (W.pure (W.pure (W.pure ⟨.inr (fun a e => by cases e), ?_⟩)))))))))) ))
      refine W.of_any (SC.replace (x := ⟨l.toArray⟩) (by show s₁.toks ≠ 0; omega) (by show s₁.toks + 1 ≠ 0; omega) (by show s₁.toks ≠ s₁.toks + 1; omega) ?_ ?_ fun t' k => ⟨X1.trans ((Ext.toks _).trans (Ext.toks _)), ?_⟩)
      · rw [beq_eq_false_iff_ne]
        intro e
        apply hz3
        have := congrArg (fun s : Str => s.cps.toList) e
        simpa using this
      · rw [str_len, str_len]
        have : (l.length + 1) * z.length ≤ (100000 + 1) * 100 := Nat.mul_le_mul (by omega) hz2
        omega
      · rw [str_eta (Txt.replace _ _ _)]
        exact rd_str (l := replD l y z) (fun c hc => (replD_mem hc).elim (hc1 c) fun hc => of_decide_eq_true (List.all_eq_true.mp hz1 c hc)) hl.2
    · cases h
  · cases h
end

/-! every second sign -/
noncomputable def opStep (lo hi : Option Int) (st : Int) : D → Option D
  | .str l => some (.str ((Builtin.Str.strSliceIndices lo hi st l.length).filterMap (l[·]?)))
  | _ => none
noncomputable def stepE (f : Rho → Option D) (lo hi : Rho → Option (Option Int)) (st : Int) : Rho → Option D := fun ρ => (f ρ).bind fun a => (lo ρ).bind fun i => (hi ρ).bind fun j => opStep i j st a
theorem slice_len (lo hi : Option Int) (n : Nat) : (Builtin.Str.strSliceIndices lo hi 2 n).length ≤ n := by
  unfold Builtin.Str.strSliceIndices sliceRange
  rw [List.length_map, List.length_range]
  cases lo <;> cases hi <;> simp only [show ((2 : Int) > 0) = True by simp, if_true] <;> (repeat' split) <;> omega
theorem se_step {J : Jd} {value : PySem.Expr} {l u : Option PySem.Expr} {p pos p1 : Pos} {k1 : Nat} {f : Rho → Option D} {lo hi : Rho → Option (Option Int)} (hv : SE J value f) (hl : SP J l lo) (hu : SP J u hi) :
    SE J (.Subscript value (.Slice l u (some (.Constant (.int 2) k1 p1)) p) pos) (stepE f lo hi 2) := fun A env P O vm s ρ d hA Fr h => by
  unfold stepE at h
  rw [Option.bind_eq_some_iff] at h
  obtain ⟨a, ha, h⟩ := h
  rw [Option.bind_eq_some_iff] at h
  obtain ⟨i, hi', h⟩ := h
  rw [Option.bind_eq_some_iff] at h
  obtain ⟨j, hj, h⟩ := h
  unfold opStep at h
  split at h
  · rename_i l'
    cases h
    rw [subscript_split]
    refine W.bind (W.mono (hv A env P O vm s ρ _ hA Fr ha) fun x s₁ ⟨X1, r1⟩ => W.bind (W.holding ?_))
    show W _ _ A (do let l' ← valueOrNone (evalOpt l env); let u' ← holding [l'] (valueOrNone (evalOpt u env)); let st ← holding [l', u'] (valueOrNone (evalOpt (some (.Constant (.int 2) k1 p1)) env)); newFields "slice" [l', u', st]) _ s₁
    refine W.bind (W.mono (hl A env P O vm s₁ ρ i hA (Fr.ext X1) hi') fun vl s₂ ⟨X2, p2⟩ => W.bind (W.holding (W.mono (hu A env P O vm s₂ ρ j hA (Fr.ext (X1.trans X2)) hj) fun vu s₃ ⟨X3, p3⟩ => W.bind (W.holding ?_))))
    have F3 := Fr.ext (X1.trans (X2.trans X3))
    refine W.mono (sp_some (J := J) (se_int (i := 2) (k := k1) (pos := p1)) A env P O vm s₃ ρ (some 2) hA F3 rfl) fun vs s₄ ⟨X4, p4⟩ => ?_
    refine W.of_any (wpAny_newObj_type ?_ (by show (#[vl, vu, vs] : Array Value).size ≤ _; have := szl; simp; omega))
    refine W.bind (W.standAt ?_)
    rw [Rd] at r1
    obtain ⟨t, rfl, h1, h2⟩ := r1
    obtain ⟨q1, rfl, e1⟩ := partV_value p2
    obtain ⟨q2, rfl, e2⟩ := partV_value p3
    obtain ⟨q3, rfl, e3⟩ := partV_value p4
    have X := X1.trans (X2.trans (X3.trans (X4.trans (Ext.push (s := s₄) { cls := .type "slice", data := .fields #[partValue q1, partValue q2, partValue q3] } s₄.toks))))
    refine W.of_any (tail_any (ops := [.str ⟨l'.toArray⟩ t, .ref s₄.heap.objs.size]) (typeIs_str _ _ t) slot_str_getitem.lookup (wpAny_getItem_str_slice (l := q1) (u := q2) (st := q3) ⟨_, Heap.get?_push_size _ rfl, rfl, rfl⟩ (by rw [e3]; rfl) ?_) rfl)
    have hp : slicePicked ⟨l'.toArray⟩ q1 q2 q3 = Builtin.Str.strSliceIndices i j 2 l'.length := by
      unfold slicePicked; rw [e1, e2, e3, str_len]; rfl
    unfold sliceMade
    rw [hp, e3]
    have hle : ((Builtin.Str.strSliceIndices i j 2 l'.length).filterMap (l'[·]?)).length ≤ sizeLine := Nat.le_trans (List.length_filterMap_le _ _) (Nat.le_trans (slice_len _ _ _) h2)
    have hget : ((Builtin.Str.strSliceIndices i j 2 l'.length).filterMap ((⟨l'.toArray⟩ : Str).cps[·]?)) = (Builtin.Str.strSliceIndices i j 2 l'.length).filterMap (l'[·]?) := by simp
    rw [if_neg (by simp), hget]
    refine ⟨by rw [str_len]; exact hle, X.trans (Ext.toks _), rd_str (fun c hc => ?_) hle⟩
    rw [List.mem_filterMap] at hc
    obtain ⟨k, _, hk⟩ := hc
    exact h1 c (List.mem_of_getElem? hk)
  · cases h
end Mine

end
section
open PySem PySem.W PySem.Calls PyProof.Rows
set_option Elab.async false
set_option maxRecDepth 100000
set_option linter.unusedSimpArgs false
namespace Mine

/-! closeAt of longer texts -/
theorem closeAt_none_app {r : List Nat} : ∀ {m : List Nat}, closeAt m = none → (10 ∈ m ∨ 93 ∈ m) → closeAt (m ++ r) = none
  | [], _, h => by simp at h
  | c :: m, h, hm => by
    rw [closeAt] at h
    rw [List.cons_append, closeAt]
    by_cases h1 : c = 93
    · rw [if_pos h1] at h; cases h
    · rw [if_neg h1] at h ⊢
      by_cases h2 : c = 10
      · rw [if_pos h2]
      · rw [if_neg h2] at h ⊢
        rw [Option.map_eq_none_iff] at h
        rw [closeAt_none_app h (by simpa [Ne.symm h1, Ne.symm h2] using hm)]; rfl
theorem closeAt_free : ∀ {m : List Nat}, 93 ∉ m → closeAt m = none
  | [], _ => rfl
  | c :: m, h => by
    rw [List.mem_cons, not_or] at h
    rw [closeAt, if_neg (Ne.symm h.1), closeAt_free h.2]
    split <;> rfl
theorem closeAt_at {r : List Nat} : ∀ {m : List Nat}, (∀ c ∈ m, c ≠ 93 ∧ c ≠ 10) → closeAt (m ++ 93 :: r) = some m.length
  | [], _ => by simp [closeAt]
  | c :: m, h => by
    have h1 := h c (List.mem_cons_self ..)
    rw [List.cons_append, closeAt, if_neg h1.1, if_neg h1.2, closeAt_at fun c hc => h c (List.mem_cons_of_mem _ hc)]; rfl
theorem closeAt_parts : ∀ {m : List Nat} {k : Nat}, closeAt m = some k → ∃ q, m.take (k + 1) = q ++ [93] ∧ q.length = k ∧ ∀ c ∈ q, c ≠ 93 ∧ c ≠ 10
  | [], _, h => by simp [closeAt] at h
  | c :: m, k, h => by
    rw [closeAt] at h
    by_cases h1 : c = 93
    · rw [if_pos h1] at h; cases h; exact ⟨[], by simp [h1], rfl, by simp⟩
    · rw [if_neg h1] at h
      by_cases h2 : c = 10
      · rw [if_pos h2] at h; cases h
      · rw [if_neg h2, Option.map_eq_some_iff] at h
        obtain ⟨j, hj, rfl⟩ := h
        obtain ⟨q, e1, e2, e3⟩ := closeAt_parts hj
        exact ⟨c :: q, by rw [List.take_succ_cons, e1]; rfl, by simp [e2], fun d hd => by
          rcases List.mem_cons.mp hd with rfl | hd
          · exact ⟨h1, h2⟩
          · exact e3 d hd⟩

/-! the pieces have signs, and not too many -/
theorem parse_ne : ∀ (f : Nat) (r : List Nat), ∀ x ∈ parse f r, x.1 ≠ []
  | 0, _, x, h => by simp [parse] at h
  | _ + 1, [], x, h => by simp [parse] at h
  | f + 1, c :: r, x, h => by
    unfold parse at h
    split at h
    · rcases List.mem_cons.mp h with rfl | h
      · simp
      · exact parse_ne f _ x h
    · split at h
      · rcases List.mem_cons.mp h with rfl | h
        · simp
        · exact parse_ne f _ x h
      · split at h
        · exact parse_ne f _ x h
        · simp at h; rw [h]; simp
theorem parse_size : ∀ (f : Nat) (r : List Nat), ((parse f r).map fun x => x.1.length).sum ≤ r.length
  | 0, _ => by simp [parse]
  | _ + 1, [] => by simp [parse]
  | f + 1, c :: r => by
    unfold parse
    split
    · have h1 := parse_size f (r.dropWhile (· != 91))
      have h2 := tw_len (p := (· != 91)) r
      simp only [List.map_cons, List.sum_cons, List.length_cons]; omega
    · split
      · rename_i k hk
        have h1 := parse_size f (r.drop (k + 1))
        have h2 := closeAt_lt r k hk
        rw [List.length_drop] at h1
        simp only [List.map_cons, List.sum_cons, List.length_cons, List.length_take]; omega
      · split
        · have := parse_size f r
          simp only [List.length_cons]; omega
        · simp


/-! a text's runs, each [ left out -/
theorem first_cut (m : List Nat) : (91 ∉ m) ∨ ∃ a r, m = a ++ 91 :: r ∧ 91 ∉ a := by
  induction m with
  | nil => exact .inl (by simp)
  | cons c m ih =>
    by_cases hc : c = 91
    · subst hc; exact .inr ⟨[], m, rfl, by simp⟩
    · rcases ih with h | ⟨a, r, h1, h2⟩
      · exact .inl (by simp [Ne.symm hc, h])
      · exact .inr ⟨c :: a, r, by rw [h1]; rfl, by simp [Ne.symm hc, h2]⟩
theorem tw_run {a t : List Nat} (ha : 91 ∉ a) (ht : t = [] ∨ ∃ t', t = 91 :: t') : (a ++ t).takeWhile (· != 91) = a ∧ (a ++ t).dropWhile (· != 91) = t := by
  have h1 : ∀ x ∈ a, (x != 91) = true := fun x hx => by simp; rintro rfl; exact ha hx
  rw [List.takeWhile_append_of_pos h1, List.dropWhile_append_of_pos h1]
  rcases ht with rfl | ⟨t', rfl⟩ <;> simp
theorem toks_run1 {a t : List Nat} (hne : a ≠ []) (ha : 91 ∉ a) (ht : t = [] ∨ ∃ t', t = 91 :: t') : toks (a ++ t) = (a, 1) :: toks t := by
  cases a with
  | nil => exact absurd rfl hne
  | cons c a =>
    rw [List.mem_cons, not_or] at ha
    have h := tw_run ha.2 ht
    rw [List.cons_append, toks_run (Ne.symm ha.1), h.1, h.2]
/-! a text's last piece -/
noncomputable def LastOk (p : List Nat) (g : Nat) : Prop := (g = 1 ∧ p ≠ [] ∧ 91 ∉ p) ∨ (g = 2 ∧ ∃ q, p = 91 :: (q ++ [93]) ∧ ∀ c ∈ q, c ≠ 93 ∧ c ≠ 10) ∨ (g = 3 ∧ ∃ q, p = 91 :: q ∧ 93 ∉ q)
/-! a ] behind an open end -/
theorem splitC_ne (c : Nat) : ∀ l : List Nat, splitC c l ≠ []
  | [] => by simp [splitC]
  | x :: r => by
    rw [splitC]
    split
    · simp
    · split <;> simp
theorem rpart_cases (c : Nat) (q : List Nat) : (c ∉ q ∧ rpartC c q = ([], [], q)) ∨ ∃ a b, q = a ++ c :: b ∧ c ∉ b ∧ rpartC c q = (a, [c], b) := by
  induction q with
  | nil => exact .inl ⟨by simp, rfl⟩
  | cons x r ih =>
    rcases ih with ⟨h1, h2⟩ | ⟨a, b, h1, h2, h3⟩
    · by_cases hx : x = c
      · subst hx; exact .inr ⟨[], r, rfl, h1, by rw [rpartC, if_neg h1, if_pos rfl]⟩
      · exact .inl ⟨by simp [Ne.symm hx, h1], by rw [rpartC, if_neg h1, if_neg hx]⟩
    · have hm : c ∈ r := by rw [h1]; simp
      exact .inr ⟨x :: a, b, by rw [h1]; rfl, h2, by rw [rpartC, if_pos hm, h3]⟩
theorem part_cases (c : Nat) (q : List Nat) : (c ∉ q ∧ partC c q = (q, [], [])) ∨ ∃ a b, q = a ++ c :: b ∧ c ∉ a ∧ partC c q = (a, [c], b) := by
  induction q with
  | nil => exact .inl ⟨by simp, rfl⟩
  | cons x r ih =>
    by_cases hx : x = c
    · subst hx; exact .inr ⟨[], r, rfl, by simp, by rw [partC, if_pos rfl]⟩
    · rcases ih with ⟨h1, h2⟩ | ⟨a, b, h1, h2, h3⟩
      · exact .inl ⟨by simp [Ne.symm hx, h1], by rw [partC, if_neg hx, h2]⟩
      · exact .inr ⟨x :: a, b, by rw [h1]; rfl, by simp [Ne.symm hx, h2], by rw [partC, if_neg hx, h3]⟩
end Mine

end
section
open PySem PySem.W PySem.Calls PyProof.Rows
set_option Elab.async false
set_option maxRecDepth 100000
set_option linter.unusedSimpArgs false
namespace Mine

/-! pieces with the runs side by side made one -/
noncomputable def glue (p : List Nat) : List (List Nat × Nat) → List (List Nat × Nat)
  | [] => if p = [] then [] else [(p, 1)]
  | (r, g) :: N => if p = [] then (r, g) :: N else if g = 1 then (p ++ r, 1) :: N else (p, 1) :: (r, g) :: N
noncomputable def norm : List (List Nat × Nat) → List (List Nat × Nat)
  | [] => []
  | (p, g) :: ts => if g = 1 then glue p (norm ts) else (p, g) :: norm ts
theorem glue_nil (N : List (List Nat × Nat)) : glue [] N = N := by
  cases N with
  | nil => rfl
  | cons x N => rfl
theorem glue_glue (a b : List Nat) (N : List (List Nat × Nat)) : glue a (glue b N) = glue (a ++ b) N := by
  by_cases ha : a = []
  · subst ha; rw [glue_nil, List.nil_append]
  by_cases hb : b = []
  · subst hb; rw [glue_nil, List.append_nil]
  have hab : a ++ b ≠ [] := by simp [ha]
  cases N with
  | nil => simp [glue, ha, hb, hab]
  | cons x N =>
    obtain ⟨r, g⟩ := x
    by_cases hg : g = 1
    · simp [glue, ha, hb, hab, hg]
    · simp [glue, ha, hb, hab, hg]
theorem glue_set {p r : List Nat} {g : Nat} {N : List (List Nat × Nat)} (hg : g ≠ 1) : glue p ((r, g) :: N) = (if p = [] then [] else [(p, 1)]) ++ (r, g) :: N := by
  by_cases hp : p = []
  · simp [glue, hp]
  · simp [glue, hp, hg]
theorem norm_run1 {a : List Nat} {N : List (List Nat × Nat)} : norm ((a, 1) :: N) = glue a (norm N) := by rw [norm, if_pos rfl]
theorem norm_run {a t : List Nat} (ha : 91 ∉ a) : norm (toks (a ++ t)) = glue a (norm (toks t)) := by
  by_cases hne : a = []
  · subst hne; rw [glue_nil, List.nil_append]
  rcases first_cut t with h | ⟨b, r, rfl, h2⟩
  · by_cases ht : t = []
    · subst ht; rw [toks_run1 hne ha (.inl rfl), norm_run1]
    · have e1 := toks_run1 (a := a ++ t) (t := []) (by simp [hne]) (by simp [ha, h]) (.inl rfl)
      have e2 := toks_run1 (a := t) (t := []) ht h (.inl rfl)
      rw [List.append_nil] at e1 e2
      rw [e1, e2, norm_run1, norm_run1, glue_glue]
  · by_cases hb : b = []
    · subst hb; rw [List.nil_append, toks_run1 hne ha (.inr ⟨_, rfl⟩), norm_run1]
    · have e1 := toks_run1 (a := a ++ b) (t := 91 :: r) (by simp [hne]) (by simp [ha, h2]) (.inr ⟨_, rfl⟩)
      have e2 := toks_run1 (a := b) (t := 91 :: r) hb h2 (.inr ⟨_, rfl⟩)
      rw [List.append_assoc] at e1
      rw [e1, e2, norm_run1, norm_run1, glue_glue]
noncomputable def noOpen (a : List Nat) : List Nat := a.filter fun c => c != 91
theorem norm_skip {t : List Nat} : ∀ {a : List Nat}, (∀ m1 m2, a = m1 ++ 91 :: m2 → closeAt (m2 ++ t) = none ∧ 93 ∈ m2 ++ t) → norm (toks (a ++ t)) = glue (noOpen a) (norm (toks t))
  | [], _ => by rw [noOpen, List.filter_nil, glue_nil, List.nil_append]
  | c :: a, h => by
    have ih := norm_skip (t := t) (a := a) fun m1 m2 e => h (c :: m1) m2 (by rw [e]; rfl)
    by_cases hc : c = 91
    · subst hc
      obtain ⟨k1, k2⟩ := h [] a rfl
      rw [List.cons_append, toks_skip k1 k2, ih]
      simp [noOpen]
    · have := norm_run (a := [c]) (t := a ++ t) (by simp [Ne.symm hc])
      rw [List.cons_append, show c :: (a ++ t) = [c] ++ (a ++ t) from rfl, this, ih, glue_glue]
      simp [noOpen, hc]

/-! one part, ended by a ] -/
noncomputable def pEnd (q : List Nat) : List Nat := (rpartC 10 q).1 ++ (rpartC 10 q).2.1
noncomputable def pLine (q : List Nat) : List Nat := (rpartC 10 q).2.2
theorem norm_close {q rest : List Nat} (hq : 93 ∉ q) : norm (toks (q ++ 93 :: rest)) =
    glue (noOpen (pEnd q) ++ (partC 91 (pLine q)).1) (if (partC 91 (pLine q)).2.1 = [] then glue [93] (norm (toks rest)) else ((partC 91 (pLine q)).2.1 ++ (partC 91 (pLine q)).2.2 ++ [93], 2) :: norm (toks rest)) := by
  have hq' : ∃ a line, q = a ++ line ∧ 10 ∉ line ∧ (a = [] ∨ ∃ b, a = b ++ [10]) ∧ pEnd q = a ∧ pLine q = line := by
    unfold pEnd pLine
    rcases rpart_cases 10 q with ⟨h1, h2⟩ | ⟨a, b, h1, h2, h3⟩
    · exact ⟨[], q, rfl, h1, .inl rfl, by rw [h2]; rfl, by rw [h2]⟩
    · exact ⟨a ++ [10], b, by rw [h1]; simp, h2, .inr ⟨a, rfl⟩, by rw [h3], by rw [h3]⟩
  obtain ⟨a, line, hql, hline, ha, e1, e2⟩ := hq'
  rw [e1, e2]
  subst hql
  rw [List.mem_append, not_or] at hq
  have hskA : ∀ t m1 m2, 93 ∈ t → a = m1 ++ 91 :: m2 → closeAt (m2 ++ t) = none ∧ 93 ∈ m2 ++ t := fun t m1 m2 ht he => by
    have h93 : 93 ∉ m2 := fun h => hq.1 (by rw [he]; simp [h])
    have h10 : 10 ∈ m2 := by
      rcases ha with h | ⟨b, h⟩
      · rw [h] at he; simp at he
      · rw [h] at he
        have := congrArg List.getLast? he
        rw [List.getLast?_append, List.getLast?_append] at this
        cases m2 with
        | nil => simp at this
        | cons y m2 =>
          have h9 : (y :: m2).getLast? = some 10 := by simpa using this.symm
          exact List.mem_of_getLast? h9
    exact ⟨closeAt_none_app (closeAt_free h93) (.inl h10), by simp [ht]⟩
  rw [List.append_assoc, norm_skip (fun m1 m2 e => hskA (line ++ 93 :: rest) m1 m2 (by simp) e), ← glue_glue]
  congr 1
  rcases part_cases 91 line with ⟨h1, h2⟩ | ⟨o, ins, h1, h2, h3⟩
  · rw [h2]
    simp only [if_true]
    rw [show line ++ 93 :: rest = (line ++ [93]) ++ rest by simp, norm_run (by simp [h1]), glue_glue]
  · rw [h3]
    simp only [List.cons_ne_nil, if_false]
    rw [h1, List.append_assoc, norm_run h2]
    congr 1
    have hk : closeAt (ins ++ 93 :: rest) = some ins.length := closeAt_at fun c hc => ⟨fun e => hq.2 (by rw [h1]; simp [← e, hc]), fun e => hline (by rw [h1]; simp [← e, hc])⟩
    rw [List.cons_append, toks_set hk, norm, if_neg (by decide)]
    have t1 : (ins ++ 93 :: rest).take (ins.length + 1) = ins ++ [93] := by rw [show ins ++ 93 :: rest = (ins ++ [93]) ++ rest by simp, show ins.length + 1 = (ins ++ [93]).length by simp]; exact List.take_left
    have t2 : (ins ++ 93 :: rest).drop (ins.length + 1) = rest := by rw [show ins ++ 93 :: rest = (ins ++ [93]) ++ rest by simp, show ins.length + 1 = (ins ++ [93]).length by simp]; exact List.drop_left
    rw [t1, t2]; rfl
/-! the last part -/
theorem norm_last {q : List Nat} (hq : 93 ∉ q) : norm (toks q) = glue (partC 91 q).1 (if (partC 91 q).2.1 = [] then [] else [((partC 91 q).2.1 ++ (partC 91 q).2.2, 3)]) := by
  rcases part_cases 91 q with ⟨h1, h2⟩ | ⟨o, ins, h1, h2, h3⟩
  · rw [h2]
    have := norm_run (a := q) (t := []) h1
    rw [List.append_nil] at this
    rw [this]; rfl
  · rw [h3]
    simp only [List.cons_ne_nil, if_false]
    conv => lhs; rw [h1]
    rw [norm_run h2]
    have hi : 93 ∉ ins := fun h => hq (by rw [h1]; simp [h])
    rw [toks_open (closeAt_free hi) hi]; rfl

/-! normal lists of pieces -/
noncomputable def okT : List (List Nat × Nat) → Prop
  | [] => True
  | (p, g) :: ts => LastOk p g ∧ (g = 3 → ts = []) ∧ okT ts
theorem parse_ok : ∀ (f : Nat) (r : List Nat), r.length < f → okT (parse f r)
  | 0, _, h => absurd h (Nat.not_lt_zero _)
  | f + 1, [], _ => trivial
  | f + 1, c :: r, h => by
    simp only [List.length_cons] at h
    unfold parse
    split
    · rename_i hc
      refine ⟨.inl ⟨rfl, by simp, ?_⟩, fun e => absurd e (by decide), parse_ok f _ (by have := tw_len (p := (· != 91)) r; omega)⟩
      intro hm
      rcases List.mem_cons.mp hm with e | hm
      · exact hc e.symm
      · have : ∀ x ∈ r.takeWhile (· != 91), (x != 91) = true := fun x hx => by
          have := List.all_takeWhile (p := (· != 91)) (l := r)
          exact List.all_eq_true.mp this x hx
        simpa using this 91 hm
    · rename_i hc
      have hc : c = 91 := by simpa using hc
      split
      · rename_i k hk
        obtain ⟨q, e1, e2, e3⟩ := closeAt_parts hk
        exact ⟨.inr (.inl ⟨rfl, q, by rw [e1], e3⟩), fun e => absurd e (by decide), parse_ok f _ (by rw [List.length_drop]; omega)⟩
      · split
        · exact parse_ok f r (by omega)
        · rename_i hm
          exact ⟨.inr (.inr ⟨rfl, r, rfl, hm⟩), fun _ => rfl, trivial⟩
theorem toks_okT (l : List Nat) : okT (toks l) := parse_ok _ _ (Nat.lt_succ_self _)
noncomputable def notRun : List (List Nat × Nat) → Prop
  | [] => True
  | (_, g) :: _ => g ≠ 1
noncomputable def Nrm : List (List Nat × Nat) → Prop
  | [] => True
  | (p, g) :: N => LastOk p g ∧ (g = 1 → notRun N) ∧ (g = 3 → N = []) ∧ Nrm N
theorem nrm_glue {p : List Nat} {N : List (List Nat × Nat)} (hp : 91 ∉ p) (h : Nrm N) : Nrm (glue p N) := by
  by_cases hne : p = []
  · subst hne; rw [glue_nil]; exact h
  cases N with
  | nil => simp only [glue, hne, if_false]; exact ⟨.inl ⟨rfl, hne, hp⟩, fun _ => trivial, fun e => absurd e (by decide), trivial⟩
  | cons x N =>
    obtain ⟨r, g⟩ := x
    obtain ⟨h1, h2, h3, h4⟩ := h
    by_cases hg : g = 1
    · subst hg
      simp only [glue, hne, if_false, if_true]
      refine ⟨.inl ⟨rfl, by simp [hne], ?_⟩, h2, fun e => absurd e (by decide), h4⟩
      rcases h1 with ⟨_, _, h1⟩ | ⟨e, _⟩ | ⟨e, _⟩
      · simp [hp, h1]
      · cases e
      · cases e
    · simp only [glue, hne, if_false, hg]
      exact ⟨.inl ⟨rfl, hne, hp⟩, fun _ => hg, fun e => absurd e (by decide), h1, h2, h3, h4⟩
theorem norm_nil {ts : List (List Nat × Nat)} (h : ts = []) : norm ts = [] := by rw [h]; rfl
theorem nrm_norm : ∀ {ts : List (List Nat × Nat)}, okT ts → Nrm (norm ts)
  | [], _ => trivial
  | (p, g) :: ts, ⟨h1, h2, h3⟩ => by
    have ih := nrm_norm h3
    by_cases hg : g = 1
    · subst hg
      rw [norm, if_pos rfl]
      refine nrm_glue ?_ ih
      rcases h1 with ⟨_, _, h1⟩ | ⟨e, _⟩ | ⟨e, _⟩
      · exact h1
      · cases e
      · cases e
    · rw [norm, if_neg hg]
      exact ⟨h1, fun e => absurd e hg, fun e => norm_nil (h2 e), ih⟩
theorem head_of {N : List (List Nat × Nat)} (h : Nrm N) (hn : notRun N) : (N.flatMap (·.1)) = [] ∨ ∃ t', (N.flatMap (·.1)) = 91 :: t' := by
  cases N with
  | nil => exact .inl rfl
  | cons x N =>
    obtain ⟨p, g⟩ := x
    have hg : g ≠ 1 := hn
    rcases h.1 with ⟨e, _⟩ | ⟨_, q, e, _⟩ | ⟨_, q, e, _⟩
    · exact absurd e hg
    · exact .inr ⟨_, by rw [List.flatMap_cons, e]; rfl⟩
    · exact .inr ⟨_, by rw [List.flatMap_cons, e]; rfl⟩
theorem toks_nrm : ∀ {N : List (List Nat × Nat)}, Nrm N → toks (N.flatMap (·.1)) = N
  | [], _ => rfl
  | (p, g) :: N, ⟨h1, h2, h3, h4⟩ => by
    have ih := toks_nrm h4
    rw [List.flatMap_cons]
    rcases h1 with ⟨rfl, h5, h6⟩ | ⟨rfl, q, rfl, hq⟩ | ⟨rfl, q, rfl, hq⟩
    · rw [toks_run1 h5 h6 (head_of h4 (h2 rfl)), ih]
    · have hk : closeAt (q ++ 93 :: N.flatMap (·.1)) = some q.length := closeAt_at hq
      show toks (91 :: (q ++ [93]) ++ N.flatMap (·.1)) = _
      rw [show 91 :: (q ++ [93]) ++ N.flatMap (·.1) = 91 :: (q ++ 93 :: N.flatMap (·.1)) by simp, toks_set hk]
      have t1 : (q ++ 93 :: N.flatMap (·.1)).take (q.length + 1) = q ++ [93] := by rw [show q ++ 93 :: N.flatMap (·.1) = (q ++ [93]) ++ N.flatMap (·.1) by simp, show q.length + 1 = (q ++ [93]).length by simp]; exact List.take_left
      have t2 : (q ++ 93 :: N.flatMap (·.1)).drop (q.length + 1) = N.flatMap (·.1) := by rw [show q ++ 93 :: N.flatMap (·.1) = (q ++ [93]) ++ N.flatMap (·.1) by simp, show q.length + 1 = (q ++ [93]).length by simp]; exact List.drop_left
      rw [t1, t2, ih]
    · have hN := h3 rfl
      subst hN
      rw [List.flatMap_nil, List.append_nil]
      exact toks_open (closeAt_free hq) hq

/-! the marks -/
noncomputable def markP (g : Nat) (p : List Nat) : List Nat :=
  if g = 2 then 91 :: (((p.drop 1).dropLast.flatMap fun c => [115, c]) ++ [93]) else if g = 3 then 91 :: ((p.drop 1).flatMap fun c => [116, c]) else p.flatMap fun c => [c, 114]
noncomputable def markT (x : List Nat × Nat) : List Nat × Nat := (markP x.2 x.1, x.2)
theorem mem_pairs {k : Nat} {q : List Nat} {c : Nat} : c ∈ (q.flatMap fun c => [k, c]) → c = k ∨ c ∈ q := fun h => by
  obtain ⟨d, hd, h⟩ := List.mem_flatMap.mp h
  simp at h
  rcases h with rfl | rfl
  · exact .inl rfl
  · exact .inr hd
theorem mark_ok {p : List Nat} {g : Nat} (h : LastOk p g) : LastOk (markP g p) g := by
  rcases h with ⟨rfl, h1, h2⟩ | ⟨rfl, q, rfl, hq⟩ | ⟨rfl, q, rfl, hq⟩
  · refine .inl ⟨rfl, ?_, fun hm => ?_⟩
    · cases p with
      | nil => exact absurd rfl h1
      | cons c p => simp [markP]
    · have hm : 91 ∈ p.flatMap fun c => [c, 114] := hm
      obtain ⟨d, hd, h⟩ := List.mem_flatMap.mp hm
      simp at h
      exact h2 (h ▸ hd)
  · refine .inr (.inl ⟨rfl, q.flatMap fun c => [115, c], ?_, fun c hc => ?_⟩)
    · simp [markP]
    · rcases mem_pairs hc with rfl | hc
      · decide
      · exact hq c hc
  · refine .inr (.inr ⟨rfl, q.flatMap fun c => [116, c], by simp [markP], fun hc => ?_⟩)
    rcases mem_pairs hc with hc | hc
    · exact absurd hc (by decide)
    · exact hq hc
theorem nrm_mark : ∀ {N : List (List Nat × Nat)}, Nrm N → Nrm (N.map markT)
  | [], _ => trivial
  | (p, g) :: N, ⟨h1, h2, h3, h4⟩ => ⟨mark_ok h1, fun e => by
      have := h2 e
      cases N with
      | nil => trivial
      | cons x N => exact this, fun e => by rw [h3 e]; rfl, nrm_mark h4⟩
theorem mark_app (a b : List Nat) : markP 1 (a ++ b) = markP 1 a ++ markP 1 b := by simp [markP]
theorem mark_glue (p : List Nat) (N : List (List Nat × Nat)) : (glue p N).flatMap (fun x => markP x.2 x.1) = markP 1 p ++ N.flatMap fun x => markP x.2 x.1 := by
  by_cases hp : p = []
  · subst hp; rw [glue_nil]; simp [markP]
  cases N with
  | nil => simp [glue, hp]
  | cons x N =>
    obtain ⟨r, g⟩ := x
    by_cases hg : g = 1
    · subst hg; simp [glue, hp, mark_app]
    · simp [glue, hp, hg]
theorem mark_norm : ∀ ts : List (List Nat × Nat), (norm ts).flatMap (fun x => markP x.2 x.1) = ts.flatMap fun x => markP x.2 x.1
  | [] => rfl
  | (p, g) :: ts => by
    have ih := mark_norm ts
    by_cases hg : g = 1
    · subst hg; rw [norm, if_pos rfl, mark_glue, ih, List.flatMap_cons]
    · rw [norm, if_neg hg, List.flatMap_cons, List.flatMap_cons, ih]
/-! every second sign -/
noncomputable def alt : List Nat → List Nat
  | [] => []
  | [a] => [a]
  | a :: _ :: r => a :: alt r
theorem alt_eq : ∀ (l : List Nat), ((List.range ((l.length + 1) / 2)).map fun k => 2 * k).filterMap (l[·]?) = alt l
  | [] => rfl
  | [a] => by simp [alt, List.range_succ]
  | a :: b :: r => by
    have ih := alt_eq r
    have e : ((a :: b :: r).length + 1) / 2 = (r.length + 1) / 2 + 1 := by simp only [List.length_cons]; omega
    rw [e, List.range_succ_eq_map, List.map_cons, List.filterMap_cons]
    simp only [Nat.mul_zero, List.getElem?_cons_zero, alt, List.map_map, List.filterMap_map] at ih ⊢
    rw [← ih]
    congr 1
theorem step_none (l : List Nat) : (Builtin.Str.strSliceIndices none none 2 l.length).filterMap (l[·]?) = alt l := by
  rw [← alt_eq l]
  congr 1
  unfold Builtin.Str.strSliceIndices sliceRange
  simp only [show ((2 : Int) > 0) = True by simp, if_true]
  have e : (if (0 : Int) < (l.length : Int) then ((l.length : Int) - 0 + 2 - 1) / 2 else 0).toNat = (l.length + 1) / 2 := by split <;> omega
  rw [e]
  refine List.map_congr_left fun k _ => ?_
  omega
theorem step_one (l : List Nat) : (Builtin.Str.strSliceIndices (some 1) none 2 l.length).filterMap (l[·]?) = alt (l.drop 1) := by
  rw [← alt_eq (l.drop 1)]
  cases l with
  | nil => rfl
  | cons a r =>
    have e0 : Builtin.Str.strSliceIndices (some 1) none 2 (a :: r).length = (List.range ((r.length + 1) / 2)).map fun k => 2 * k + 1 := by
      unfold Builtin.Str.strSliceIndices sliceRange
      simp only [show ((2 : Int) > 0) = True by simp, if_true, List.length_cons]
      have e1 : max (0 : Int) (min (if (1 : Int) < 0 then 1 + ((r.length + 1 : Nat) : Int) else 1) ((r.length + 1 : Nat) : Int)) = 1 := by
        rw [if_neg (by decide)]; omega
      rw [e1]
      have e : (if (1 : Int) < ((r.length + 1 : Nat) : Int) then (((r.length + 1 : Nat) : Int) - 1 + 2 - 1) / 2 else 0).toNat = (r.length + 1) / 2 := by split <;> omega
      rw [e]
      refine List.map_congr_left fun k _ => ?_
      omega
    rw [e0, List.drop_succ_cons, List.drop_zero, List.filterMap_map, List.filterMap_map]
    rfl
theorem alt_first {k : Nat} : ∀ q : List Nat, alt (q.flatMap fun c => [c, k]) = q
  | [] => rfl
  | c :: q => congrArg (c :: ·) (alt_first q)
theorem alt_snd {k : Nat} : ∀ q : List Nat, alt ((q.flatMap fun c => [k, c]).drop 1) = q
  | [] => rfl
  | [c] => rfl
  | c :: d :: q => by
    have ih := alt_snd (k := k) (d :: q)
    rw [List.flatMap_cons] at ih ⊢
    show c :: alt _ = _
    exact congrArg _ ih
end Mine

end
section
open PySem PySem.W PySem.Calls PyProof.Rows
set_option Elab.async false
set_option maxRecDepth 100000
set_option maxHeartbeats 4000000
namespace Mine

noncomputable def p_law_sign : Rho → Option (Out × Rho) := seqS (setS (nameA 1) (binE opMod (vE 0) (cE (.int 16)))) (seqS (ifS (cmpB opLt (vE 1) (cE (.int 12))) (seqS (retS (itemE (cE (.str [91, 91, 91, 91, 93, 93, 93, 93, 10, 10, 97, 42])) (vE 1))) (skS)) (skS)) (seqS (setS (nameA 2) (binE opMod (binE opDiv (vE 0) (cE (.int 16))) (cE (.int 1112064)))) (seqS (retS (callE chrF (consF (ifE (cmpB opLt (vE 2) (cE (.int 55296))) (vE 2) (binE opAdd (vE 2) (cE (.int 2048)))) (nilF)))) (skS))))
noncomputable def p_law_read : Rho → Option (Out × Rho) := seqS (ownS 1 (listL (nilF))) (seqS (forS (itE asPieces (vE 0)) (nameA 2) (seqS (setS (nameA 3) (methE isMatD groupF (vE 2) (consF (cE (.int 0)) (nilF)))) (seqS (setS (nameA 4) (methE isMatD groupF (vE 2) (consF (cE (.str [115, 101, 116])) (nilF)))) (seqS (ifS (cmpB opIsNot (vE 4) (cE .none)) (seqS (appS 1 (tupE (consF (cE (.str [115, 101, 116])) (consF (vE 4) (nilF))))) (skS)) (seqS (appS 1 (tupE (consF (ifE (cmpB opEq (itemE (vE 3) (cE (.int 0))) (cE (.str [91]))) (cE (.str [111, 112, 101, 110])) (cE (.str [114, 117, 110]))) (consF (vE 3) (nilF))))) (skS))) (skS))))) (frzS 1 (seqS (retS (vE 1)) (skS))))
noncomputable def p_law_mark : Rho → Option (Out × Rho) := seqS (ifS (cmpB opEq (vE 0) (cE (.str [115, 101, 116]))) (seqS (retS (binE opAdd (binE opAdd (cE (.str [91])) (methE isStrD joinF (cE (.str [])) (consF (listF (compF ["sign"] (itE asChars (cutE (vE 1) (intP (cE (.int 1))) (intP (negE (cE (.int 1)))))) (nameA 2) (tt) (emE (binE opAdd (cE (.str [115])) (vE 2))))) (nilF)))) (cE (.str [93])))) (skS)) (skS)) (seqS (ifS (cmpB opEq (vE 0) (cE (.str [111, 112, 101, 110]))) (seqS (retS (binE opAdd (cE (.str [91])) (methE isStrD joinF (cE (.str [])) (consF (listF (compF ["sign"] (itE asChars (cutE (vE 1) (intP (cE (.int 1))) (noP))) (nameA 2) (tt) (emE (binE opAdd (cE (.str [116])) (vE 2))))) (nilF))))) (skS)) (skS)) (seqS (retS (methE isStrD joinF (cE (.str [])) (consF (listF (compF ["sign"] (itE asChars (vE 1)) (nameA 2) (tt) (emE (binE opAdd (vE 2) (cE (.str [114])))))) (nilF)))) (skS)))
noncomputable def p_law_unmark : Rho → Option (Out × Rho) := seqS (ifS (cmpB opEq (vE 0) (cE (.str [115, 101, 116]))) (seqS (retS (binE opAdd (binE opAdd (cE (.str [91])) (stepE (cutE (vE 1) (intP (cE (.int 1))) (intP (negE (cE (.int 1))))) (intP (cE (.int 1))) (noP) 2)) (cE (.str [93])))) (skS)) (skS)) (seqS (ifS (cmpB opEq (vE 0) (cE (.str [111, 112, 101, 110]))) (seqS (retS (binE opAdd (cE (.str [91])) (stepE (cutE (vE 1) (intP (cE (.int 1))) (noP)) (intP (cE (.int 1))) (noP) 2))) (skS)) (skS)) (seqS (retS (stepE (vE 1) (noP) (noP) 2)) (skS)))
noncomputable def p_law_by_parts : Rho → Option (Out × Rho) := seqS (ownS 1 (listL (nilF))) (seqS (setS (nameA 2) (cE (.str []))) (seqS (setS (nameA 3) (listF (methL isStrD splitF (vE 0) (consF (cE (.str [93])) (nilF))))) (seqS (forS (itE asEnum (vE 3)) (tupA [4, 5]) (seqS (setS (nameA 6) (asD (cmpB opLt (binE opAdd (vE 4) (cE (.int 1))) (callE lenF (consF (vE 3) (nilF)))))) (seqS (setS (tupA [7, 8, 9]) (ifE (truB (vE 6)) (methE isStrD rpartF (vE 5) (consF (cE (.str [10])) (nilF))) (tupE (consF (cE (.str [])) (consF (cE (.str [])) (consF (vE 5) (nilF))))))) (seqS (setS (tupA [10, 11, 12]) (methE isStrD partF (vE 9) (consF (cE (.str [91])) (nilF)))) (seqS (augS 2 opIAdd (callE (runF 2 0 p_law_mark) (consF (cE (.str [114, 117, 110])) (consF (binE opAdd (replE [91] [] (binE opAdd (vE 7) (vE 8))) (vE 10)) (nilF))))) (seqS (ifS (truB (vE 11)) (seqS (ifS (truB (vE 2)) (seqS (appS 1 (tupE (consF (cE (.str [114, 117, 110])) (consF (vE 2) (nilF))))) (seqS (setS (nameA 2) (cE (.str []))) (skS))) (skS)) (seqS (setS (nameA 13) (ifE (truB (vE 6)) (cE (.str [115, 101, 116])) (cE (.str [111, 112, 101, 110])))) (seqS (appS 1 (tupE (consF (vE 13) (consF (callE (runF 2 0 p_law_mark) (consF (vE 13) (consF (binE opAdd (binE opAdd (vE 11) (vE 12)) (binE opMul (cE (.str [93])) (vE 6))) (nilF)))) (nilF))))) (skS)))) (seqS (ifS (truB (vE 6)) (seqS (augS 2 opIAdd (cE (.str [93, 114]))) (skS)) (skS)) (skS))) (skS))))))) (seqS (ifS (truB (vE 2)) (seqS (appS 1 (tupE (consF (cE (.str [114, 117, 110])) (consF (vE 2) (nilF))))) (skS)) (skS)) (frzS 1 (seqS (retS (vE 1)) (skS)))))))
noncomputable def plaw : Rho → Option (Out × Rho) := seqS (setS (nameA 1) (methE isStrD joinF (cE (.str [])) (consF (listF (compF ["number"] (itE asList (vE 0)) (nameA 6) (tt) (emE (callE (runF 1 2 p_law_sign) (consF (vE 6) (nilF)))))) (nilF)))) (seqS (forS (itE asTup (tupE (consF (vE 1) (consF (binE opAdd (binE opAdd (cE (.str [97, 91, 10, 98, 91, 99])) (vE 1)) (cE (.str [93, 100, 91, 101]))) (nilF))))) (nameA 2) (seqS (setS (nameA 3) (callE (runF 1 13 p_law_by_parts) (consF (vE 2) (nilF)))) (seqS (setS (nameA 4) (methE isStrD joinF (cE (.str [])) (consF (listF (compF ["kind", "piece"] (itE asList (callE (runF 1 4 p_law_read) (consF (vE 2) (nilF)))) (tupA [6, 7]) (tt) (emE (callE (runF 2 0 p_law_mark) (consF (vE 6) (consF (vE 7) (nilF))))))) (nilF)))) (seqS (ifS (cmpB opNe (vE 4) (methE isStrD joinF (cE (.str [])) (consF (listF (compF ["_", "piece"] (itE asList (vE 3)) (tupA [6, 7]) (tt) (emE (vE 7)))) (nilF)))) (seqS (retS (cE (.bool false))) (skS)) (skS)) (seqS (ifS (cmpB opNe (callE (runF 1 4 p_law_read) (consF (vE 4) (nilF))) (vE 3)) (seqS (retS (cE (.bool false))) (skS)) (skS)) (seqS (usedS 5 (compF ["kind", "piece"] (itE asList (vE 3)) (tupA [6, 7]) (tt) (emE (tupE (consF (vE 6) (consF (callE (runF 2 0 p_law_unmark) (consF (vE 6) (consF (vE 7) (nilF)))) (nilF))))))) (seqS (ifS (cmpB opNe (callE (runF 1 4 p_law_read) (consF (methE isStrD joinF (cE (.str [])) (consF (listF (compF ["_", "piece"] (itE asList (vE 5)) (tupA [6, 7]) (tt) (emE (vE 7)))) (nilF))) (nilF))) (vE 5)) (seqS (retS (cE (.bool false))) (skS)) (skS)) (skS)))))))) (seqS (retS (cE (.bool true))) (skS)))
end Mine

end
section
open PySem PySem.W PySem.Calls PyProof.Rows
set_option Elab.async false
set_option maxRecDepth 100000
set_option linter.unusedSimpArgs false
namespace Mine

theorem appS_of {i : Nat} {f : Rho → Option D} {ρ ρ' : Rho} {xs : List D} {d : D} (h1 : ρ[i]? = some (.own xs)) (h2 : f ρ = some d) (h3 : xs.length < 10000000) (h4 : ρ.set i (.own (xs ++ [d])) = ρ') : appS i f ρ = some (.next, ρ') := by
  rw [appS, h1]; simp only [h2, Option.bind_some]; rw [if_pos h3, h4]
theorem ownS_of {i : Nat} {f : Rho → Option (List D)} {ρ ρ' : Rho} {xs : List D} (h1 : f ρ = some xs) (h2 : ρ.set i (.own xs) = ρ') : ownS i f ρ = some (.next, ρ') := by
  rw [ownS, h1, ← h2]; rfl
theorem tup2_of {ρ : Rho} {a b : D} {f g : Rho → Option D} (h1 : f ρ = some a) (h2 : g ρ = some b) : tupE (consF f (consF g nilF)) ρ = some (.tup [a, b]) := by simp [tupE, consF, nilF, h1, h2]
theorem meth1_of {ρ : Rho} {a b r : D} {p : D → Bool} {F : List D → Option D} {f g : Rho → Option D} (h1 : f ρ = some a) (h2 : g ρ = some b) (hp : p a = true) (h : F [a, b] = some r) : methE p F f (consF g nilF) ρ = some r := by simp [methE, consF, nilF, h1, h2, hp, h]
theorem ifE_t {t : Rho → Option Bool} {f g : Rho → Option D} {ρ : Rho} (h : t ρ = some true) : ifE t f g ρ = f ρ := by rw [ifE, h]; rfl
theorem ifE_f {t : Rho → Option Bool} {f g : Rho → Option D} {ρ : Rho} (h : t ρ = some false) : ifE t f g ρ = g ρ := by rw [ifE, h]; rfl

noncomputable def kname (g : Nat) : List Nat := if g = 2 then [115, 101, 116] else if g = 3 then [111, 112, 101, 110] else [114, 117, 110]
noncomputable def kpD (x : List Nat × Nat) : D := .tup [.str (kname x.2), .str x.1]

/-! read -/
noncomputable def bR : Rho → Option (Out × Rho) := seqS (setS (nameA 3) (methE isMatD groupF (vE 2) (consF (cE (.int 0)) (nilF)))) (seqS (setS (nameA 4) (methE isMatD groupF (vE 2) (consF (cE (.str [115, 101, 116])) (nilF)))) (seqS (ifS (cmpB opIsNot (vE 4) (cE .none)) (seqS (appS 1 (tupE (consF (cE (.str [115, 101, 116])) (consF (vE 4) (nilF))))) (skS)) (seqS (appS 1 (tupE (consF (ifE (cmpB opEq (itemE (vE 3) (cE (.int 0))) (cE (.str [91]))) (cE (.str [111, 112, 101, 110])) (cE (.str [114, 117, 110]))) (consF (vE 3) (nilF))))) (skS))) (skS)))
theorem loopR {l : List Nat} : ∀ (ms : List D) (ps : List (List Nat × Nat)), ReadAs l ms ps → okT ps → ∀ (T : List D) (A2 A3 A4 : Slot), T.length + ps.length < 10000000 → ∃ B2 B3 B4, loopS (nameA 2) bR ms [.val (.str l), .own T, A2, A3, A4] = some (.next, [.val (.str l), .own (T ++ ps.map kpD), B2, B3, B4]) := by
  intro ms ps h
  induction h with
  | nil => intro _ T A2 A3 A4 _; exact ⟨A2, A3, A4, by simp [loopS]⟩
  | @cons b e g p ms ps hp r ih =>
    intro hok T A2 A3 A4 hz
    obtain ⟨h1, _, h3⟩ := hok
    simp only [List.length_cons] at hz
    have hg0 := group_whole (g := g) hp
    have hg2 := group_set (g := g) hp
    have fin : ∀ (A4' : Slot) , bR [.val (.str l), .own T, .val (.mat l b e g), A3, A4] = some (.next, [.val (.str l), .own (T ++ [kpD (p, g)]), .val (.mat l b e g), .val (.str p), A4']) → ∃ B2 B3 B4, loopS (nameA 2) bR (.mat l b e g :: ms) [.val (.str l), .own T, A2, A3, A4] = some (.next, [.val (.str l), .own (T ++ ((p, g) :: ps).map kpD), B2, B3, B4]) := fun A4' hb => by
      obtain ⟨B2, B3, B4, ih⟩ := ih h3 (T ++ [kpD (p, g)]) (.val (.mat l b e g)) (.val (.str p)) A4' (by simp; omega)
      refine ⟨B2, B3, B4, (loopS_next (ρ1 := [.val (.str l), .own T, .val (.mat l b e g), A3, A4]) rfl hb).trans (ih.trans ?_)⟩
      simp
    rcases h1 with ⟨rfl, hne, h91⟩ | ⟨rfl, q, rfl, hq⟩ | ⟨rfl, q, rfl, hq⟩
    · obtain ⟨c, p', rfl⟩ : ∃ c p', p = c :: p' := by cases p with | nil => exact absurd rfl hne | cons c p' => exact ⟨c, p', rfl⟩
      have hc : c ≠ 91 := fun e => h91 (by simp [e])
      have hi : opItem (.str (c :: p')) (.int 0) = some (.str [c]) := item_str (c :: p') 0 (by simp)
      rw [if_neg (by decide)] at hg2
      refine fin (.val .none) ?_
      refine (seqS_next (setS_of (meth1_of rfl rfl rfl hg0) rfl)).trans ?_
      refine (seqS_next (setS_of (meth1_of rfl rfl rfl hg2) rfl)).trans ?_
      refine (seqS_next ((ifS_f rfl).trans ((seqS_next (appS_of (d := kpD (c :: p', 1)) rfl (tup2_of ((ifE_f (cmpB_of (binE_of rfl rfl hi) rfl (by rw [eq_str]; simp [hc]))).trans rfl) rfl) (by omega) rfl)).trans rfl))).trans ?_
      rfl
    · rw [if_pos rfl] at hg2
      refine fin (.val (.str (91 :: (q ++ [93])))) ?_
      refine (seqS_next (setS_of (meth1_of rfl rfl rfl hg0) rfl)).trans ?_
      refine (seqS_next (setS_of (meth1_of rfl rfl rfl hg2) rfl)).trans ?_
      refine (seqS_next ((ifS_t rfl).trans ((seqS_next (appS_of (d := kpD (91 :: (q ++ [93]), 2)) rfl (tup2_of rfl rfl) (by omega) rfl)).trans rfl))).trans ?_
      rfl
    · have hi : opItem (.str (91 :: q)) (.int 0) = some (.str [91]) := item_str (91 :: q) 0 (by simp)
      rw [if_neg (by decide)] at hg2
      refine fin (.val .none) ?_
      refine (seqS_next (setS_of (meth1_of rfl rfl rfl hg0) rfl)).trans ?_
      refine (seqS_next (setS_of (meth1_of rfl rfl rfl hg2) rfl)).trans ?_
      refine (seqS_next ((ifS_f rfl).trans ((seqS_next (appS_of (d := kpD (91 :: q, 3)) rfl (tup2_of ((ifE_t (cmpB_of (binE_of rfl rfl hi) rfl (by rw [eq_str]; rfl))).trans rfl) rfl) (by omega) rfl)).trans rfl))).trans ?_
      rfl
theorem toks_len (l : List Nat) : (toks l).length ≤ l.length := by
  have h := parse_size (l.length + 1) l
  have h2 : ∀ ts : List (List Nat × Nat), (∀ x ∈ ts, x.1 ≠ []) → ts.length ≤ (ts.map fun x => x.1.length).sum := by
    intro ts
    induction ts with
    | nil => intro _; simp
    | cons x ts ih =>
      intro hx
      have := ih fun y hy => hx y (List.mem_cons_of_mem _ hy)
      have h0 : 0 < x.1.length := List.length_pos_iff.mpr (hx x (List.mem_cons_self ..))
      simp; omega
  exact Nat.le_trans (h2 _ (parse_ne _ _)) h
theorem read_ok {l : List Nat} (hl : l.length ≤ 100000) : runF 1 4 p_law_read [.str l] = some (.list ((toks l).map kpD)) := by
  have htl := toks_len l
  obtain ⟨B2, B3, B4, h⟩ := loopR (matsOf l) (toks l) (readAs_mats l) (toks_okT l) [] .unb .unb .unb (by simp; omega)
  rw [List.nil_append] at h
  refine runF_ret rfl (Ret.next (ownS_of rfl rfl) ?_)
  refine Ret.next ((forS_of rfl).trans h) ?_
  refine Ret.frz rfl rfl ?_
  exact Ret.stop (Ret.of rfl)

/-! mark -/
theorem pairs_len {h : Nat → List Nat} (hh : ∀ c, (h c).length = 2) : ∀ q : List Nat, (q.flatMap h).length = 2 * q.length
  | [] => rfl
  | c :: q => by rw [List.flatMap_cons, List.length_append, hh, pairs_len hh q, List.length_cons]; omega
theorem joinPairs {it : Rho → Option (List D)} {e : Rho → Option D} {ρ : Rho} {q : List Nat} {h : Nat → List Nat} (hi : ρ.length = 2) (hit : it ρ = some (q.map fun c => .str [c])) (hh : ∀ c, (h c).length = 2) (he : ∀ c, e ((rhoC ["sign"] ρ).set 2 (.val (.str [c]))) = some (.str (h c))) (hq : q.length ≤ 1000000) :
    methE isStrD joinF (cE (.str [])) (consF (listF (compF ["sign"] it (nameA 2) tt (emE e))) nilF) ρ = some (.str (q.flatMap h)) := by
  have hcomp : compF ["sign"] it (nameA 2) tt (emE e) ρ = some ((q.map h).map D.str) := by
    rw [comp1 (ds := q.map fun c => .str [c]) (fun d => match d with | .str [c] => .str (h c) | _ => .none) (fun _ => true) rfl hit (fun _ _ => rfl) ?_ (by simp; omega)]
    · simp [List.filter_eq_self.mpr]
    · intro d hd _
      obtain ⟨c, _, rfl⟩ := List.mem_map.mp hd
      exact he c
  have hpl := pairs_len hh q
  have hjf : (q.map h).flatten = q.flatMap h := by rw [List.flatMap_def]
  simp only [methE, cE, consF, listF, nilF, hcomp, Option.bind_some, Option.map_some, isStrD, if_true]
  rw [join_strs (by rw [hjf]; omega), hjf]
theorem cut_in {l : List Nat} : cut l (some 1) (some (-1)) = (l.drop 1).dropLast := by
  unfold cut
  simp only [Option.elim]
  have h1 : clipAt l.length 1 = min 1 l.length := clip_nat l.length 1
  have h2 : clipAt l.length (-1) = l.length - 1 := by unfold clipAt; split <;> omega
  rw [h1, h2, List.dropLast_eq_take, List.length_drop]
  cases l with
  | nil => rfl
  | cons c r => simp
theorem cutIn_of {ρ : Rho} {f : Rho → Option D} {l : List Nat} (h : f ρ = some (.str l)) : cutE f (intP (cE (.int 1))) (intP (negE (cE (.int 1)))) ρ = some (.str ((l.drop 1).dropLast)) := by
  simp [cutE, intP, cE, negE, h, opCut, cut_in]
theorem cutFrom_of {ρ : Rho} {f : Rho → Option D} {l : List Nat} (h : f ρ = some (.str l)) : cutE f (intP (cE (.int 1))) noP ρ = some (.str (l.drop 1)) := by
  have : cut l (some 1) none = l.drop 1 := cut_from l 1
  simp [cutE, intP, noP, cE, h, opCut, this]
theorem mark_len (g : Nat) (p : List Nat) : (markP g p).length ≤ 2 * p.length + 2 := by
  have h1 := pairs_len (h := fun c => [115, c]) (fun _ => rfl) (p.drop 1).dropLast
  have h2 := pairs_len (h := fun c => [116, c]) (fun _ => rfl) (p.drop 1)
  have h3 := pairs_len (h := fun c => [c, 114]) (fun _ => rfl) p
  rw [List.length_dropLast, List.length_drop] at h1
  rw [List.length_drop] at h2
  unfold markP
  split
  · simp only [List.length_cons, List.length_append, List.length_nil]; omega
  · split
    · simp only [List.length_cons]; omega
    · omega
theorem markD {g : Nat} {p : List Nat} (hg : g = 1 ∨ g = 2 ∨ g = 3) (hp : p.length ≤ 100000) : runF 2 0 p_law_mark [.str (kname g), .str p] = some (.str (markP g p)) := by
  have eqn : ∀ (k : List Nat), opEq (.str (kname g)) (.str k) = some (decide (kname g = k)) := fun k => eq_str _ _
  rcases hg with rfl | rfl | rfl
  · refine runF_ret rfl (Ret.next (ρ1 := [.val (.str (kname 1)), .val (.str p)]) ((ifS_f (cmpB_of rfl rfl (eqn _))).trans rfl) ?_)
    refine Ret.next (ρ1 := [.val (.str (kname 1)), .val (.str p)]) ((ifS_f (cmpB_of rfl rfl (eqn _))).trans rfl) ?_
    refine Ret.stop (Ret.of ?_)
    exact joinPairs (q := p) (h := fun c => [c, 114]) rfl rfl (fun _ => rfl) (fun c => binE_of rfl rfl (add_strs (a := [c]) (b := [114]) (by simp))) (by omega)
  · refine runF_ret rfl (Ret.stop (Ret.t (cmpB_of rfl rfl (eqn _)) (Ret.stop (Ret.of ?_))))
    have hj := joinPairs (ρ := [.val (.str (kname 2)), .val (.str p)]) (it := itE asChars (cutE (vE 1) (intP (cE (.int 1))) (intP (negE (cE (.int 1)))))) (e := binE opAdd (cE (.str [115])) (vE 2)) (q := (p.drop 1).dropLast) (h := fun c => [115, c]) rfl (by rw [itE, cutIn_of rfl]; rfl) (fun _ => rfl) (fun c => binE_of rfl rfl (add_strs (a := [115]) (b := [c]) (by simp))) (by rw [List.length_dropLast, List.length_drop]; omega)
    have hl := pairs_len (h := fun c => [115, c]) (fun _ => rfl) (p.drop 1).dropLast
    rw [List.length_dropLast, List.length_drop] at hl
    refine (binE_of (binE_of rfl hj (add_strs (by rw [hl]; simp; omega))) rfl (add_strs (by rw [List.length_append, hl]; simp; omega))).trans ?_
    simp [markP]
  · refine runF_ret rfl (Ret.next (ρ1 := [.val (.str (kname 3)), .val (.str p)]) ((ifS_f (cmpB_of rfl rfl (eqn _))).trans rfl) ?_)
    refine Ret.stop (Ret.t (cmpB_of rfl rfl (eqn _)) (Ret.stop (Ret.of ?_)))
    have hj := joinPairs (ρ := [.val (.str (kname 3)), .val (.str p)]) (it := itE asChars (cutE (vE 1) (intP (cE (.int 1))) noP)) (e := binE opAdd (cE (.str [116])) (vE 2)) (q := p.drop 1) (h := fun c => [116, c]) rfl (by rw [itE, cutFrom_of rfl]; rfl) (fun _ => rfl) (fun c => binE_of rfl rfl (add_strs (a := [116]) (b := [c]) (by simp))) (by rw [List.length_drop]; omega)
    have hl := pairs_len (h := fun c => [116, c]) (fun _ => rfl) (p.drop 1)
    rw [List.length_drop] at hl
    refine (binE_of rfl hj (add_strs (by rw [hl]; simp; omega))).trans ?_
    simp [markP]
theorem unmarkD {g : Nat} {p : List Nat} (h : LastOk p g) (hp : p.length ≤ 100000) : runF 2 0 p_law_unmark [.str (kname g), .str (markP g p)] = some (.str p) := by
  have eqn : ∀ (k : List Nat), opEq (.str (kname g)) (.str k) = some (decide (kname g = k)) := fun k => eq_str _ _
  rcases h with ⟨rfl, h1, h2⟩ | ⟨rfl, q, rfl, hq⟩ | ⟨rfl, q, rfl, hq⟩
  · refine runF_ret rfl (Ret.next (ρ1 := [.val (.str (kname 1)), .val (.str (markP 1 p))]) ((ifS_f (cmpB_of rfl rfl (eqn _))).trans rfl) ?_)
    refine Ret.next (ρ1 := [.val (.str (kname 1)), .val (.str (markP 1 p))]) ((ifS_f (cmpB_of rfl rfl (eqn _))).trans rfl) ?_
    refine Ret.stop (Ret.of ?_)
    show opStep none none 2 (.str (markP 1 p)) = _
    rw [opStep, step_none]
    show some (D.str (alt (p.flatMap fun c => [c, 114]))) = _
    rw [alt_first]
  · refine runF_ret rfl (Ret.stop (Ret.t (cmpB_of rfl rfl (eqn _)) (Ret.stop (Ret.of ?_))))
    have e1 : (markP 2 (91 :: (q ++ [93])) |>.drop 1).dropLast = q.flatMap fun c => [115, c] := by simp [markP]
    have hs : stepE (cutE (vE 1) (intP (cE (.int 1))) (intP (negE (cE (.int 1))))) (intP (cE (.int 1))) noP 2 [.val (.str (kname 2)), .val (.str (markP 2 (91 :: (q ++ [93]))))] = some (.str q) := by
      rw [stepE, cutIn_of rfl, Option.bind_some]
      show opStep (some 1) none 2 (.str _) = _
      rw [opStep, step_one, e1, alt_snd]
    simp only [List.length_cons, List.length_append, List.length_nil] at hp
    refine (binE_of (binE_of rfl hs (add_strs (by simp; omega))) rfl (add_strs (by simp; omega))).trans ?_
    simp
  · refine runF_ret rfl (Ret.next (ρ1 := [.val (.str (kname 3)), .val (.str (markP 3 (91 :: q)))]) ((ifS_f (cmpB_of rfl rfl (eqn _))).trans rfl) ?_)
    refine Ret.stop (Ret.t (cmpB_of rfl rfl (eqn _)) (Ret.stop (Ret.of ?_)))
    have e1 : (markP 3 (91 :: q)).drop 1 = q.flatMap fun c => [116, c] := by simp [markP]
    have hs : stepE (cutE (vE 1) (intP (cE (.int 1))) noP) (intP (cE (.int 1))) noP 2 [.val (.str (kname 3)), .val (.str (markP 3 (91 :: q)))] = some (.str q) := by
      rw [stepE, cutFrom_of rfl, Option.bind_some]
      show opStep (some 1) none 2 (.str _) = _
      rw [opStep, step_one, e1, alt_snd]
    simp only [List.length_cons] at hp
    exact (binE_of rfl hs (add_strs (by simp; omega))).trans rfl

/-! a sign taken out -/
theorem splitC_flat (c : Nat) : ∀ l : List Nat, (splitC c l).flatten = l.filter fun x => x != c
  | [] => rfl
  | x :: r => by
    have ih := splitC_flat c r
    rw [splitC]
    by_cases hx : x = c
    · rw [if_pos hx, List.flatten_cons, ih]; simp [hx]
    · rw [if_neg hx]
      cases hs : splitC c r with
      | nil => exact absurd hs (splitC_ne c r)
      | cons h t =>
        rw [hs] at ih
        simp [hx] at ih ⊢
        exact ih
theorem repl_open (l : List Nat) : replD l [91] [] = noOpen l := by
  unfold replD noOpen
  obtain ⟨f, hc, hn⟩ := StrLaws.occ_tight ⟨l.toArray⟩ ⟨#[91]⟩ (Nat.le_refl 1)
  have hp := parts_split _ 0 f hc hn
  rw [List.drop_zero] at hp
  unfold Txt.replace
  rw [show (⟨[91].toArray⟩ : Str) = ⟨#[91]⟩ from rfl, show (⟨([] : List Nat).toArray⟩ : Str) = ⟨#[]⟩ from rfl]
  have hfl : (Builtin.Str.glued ⟨#[]⟩ ((splitC 91 l).map fun p => (⟨p.toArray⟩ : Str))).cps.toList = l.filter fun c => c != 91 := by
    rw [glued_nil, ← splitC_flat]
  split
  · rename_i he
    have he : (Builtin.Str.occurrences ⟨l.toArray⟩ ⟨#[91]⟩ 0 (⟨l.toArray⟩ : Str).length ((⟨l.toArray⟩ : Str).length + 1)) = [] := by
      have he2 : Builtin.Str.occurrences ⟨l.toArray⟩ ⟨#[91]⟩ 0 (⟨l.toArray⟩ : Str).length ((⟨l.toArray⟩ : Str).length + 1) = [] ∨ ((⟨#[91]⟩ : Str).length = 0 ∧ (⟨#[]⟩ : Str).length = 0) := by simpa using he
      rcases he2 with h | ⟨h, _⟩
      · exact h
      · exact absurd h (by decide)
    rw [he] at hp
    have : StrLaws.partsFrom ⟨l.toArray⟩ 1 0 [] = [⟨l.toArray⟩] := by
      rw [StrLaws.partsFrom, sub_at, str_len]; simp
    rw [← hp, this] at hfl
    rw [← hfl]
    rfl
  · rw [StrLaws.partsBetween_eq]
    show (Builtin.Str.glued ⟨#[]⟩ (StrLaws.partsFrom ⟨l.toArray⟩ 1 0 _)).cps.toList = _
    rw [hp]; exact hfl
theorem replO_of {ρ : Rho} {f : Rho → Option D} {l : List Nat} (h : f ρ = some (.str l)) (hl : l.length ≤ 100000) : replE [91] [] f ρ = some (.str (noOpen l)) := by
  have hsz : sizeLine = 16777216 := rfl
  have : (noOpen l).length ≤ l.length := List.length_filter_le _ _
  rw [replE, h, Option.bind_some]
  dsimp only
  rw [repl_open, if_pos ⟨hl, by omega⟩]
end Mine

end
section
open PySem PySem.W PySem.Calls PyProof.Rows
set_option Elab.async false
set_option maxRecDepth 100000
set_option linter.unusedSimpArgs false
namespace Mine

theorem sign_ok (x : Int) : ∃ c, runF 1 2 p_law_sign [.int x] = some (.str [c]) := by
  have h1 : 0 ≤ x.fmod 16 := Int.fmod_nonneg_of_pos _ (by decide)
  have h2 : x.fmod 16 < 16 := Int.fmod_lt_of_pos _ (by decide)
  by_cases hx : x.fmod 16 < 12
  · obtain ⟨k, hk⟩ : ∃ k : Nat, x.fmod 16 = k := ⟨_, (Int.toNat_of_nonneg h1).symm⟩
    have hk' : k < 12 := by omega
    refine ⟨([91, 91, 91, 91, 93, 93, 93, 93, 10, 10, 97, 42] : List Nat)[k], ?_⟩
    have e := item_str [91, 91, 91, 91, 93, 93, 93, 93, 10, 10, 97, 42] k hk'
    simp [runF, p_law_sign, seqS, setS, nameA, ifS, cmpB, opLt, binE, opMod, vE, cE, retS, itemE, skS, hk, show ((k : Int) < 12) by omega, e]
  · have h3 : 0 ≤ (x.fdiv 16).fmod 1112064 := Int.fmod_nonneg_of_pos _ (by decide)
    have h4 : (x.fdiv 16).fmod 1112064 < 1112064 := Int.fmod_lt_of_pos _ (by decide)
    by_cases h5 : (x.fdiv 16).fmod 1112064 < 55296
    · refine ⟨((x.fdiv 16).fmod 1112064).toNat, ?_⟩
      have e : chrF [.int ((x.fdiv 16).fmod 1112064)] = some (.str [((x.fdiv 16).fmod 1112064).toNat]) := if_pos ⟨h3, by omega⟩
      simp [runF, p_law_sign, seqS, setS, nameA, ifS, cmpB, opLt, binE, opMod, opDiv, opAdd, ifE, vE, cE, retS, itemE, skS, hx, callE, consF, nilF, e, h5]
    · refine ⟨((x.fdiv 16).fmod 1112064 + 2048).toNat, ?_⟩
      have e : chrF [.int ((x.fdiv 16).fmod 1112064 + 2048)] = some (.str [((x.fdiv 16).fmod 1112064 + 2048).toNat]) := if_pos ⟨by omega, by omega⟩
      simp [runF, p_law_sign, seqS, setS, nameA, ifS, cmpB, opLt, binE, opMod, opDiv, opAdd, ifE, vE, cE, retS, itemE, skS, hx, callE, consF, nilF, e, h5]
theorem depth_le {n : Nat} : ∀ ds : List D, (∀ d ∈ ds, (toPy d).depth ≤ n) → PyData.depthAll (toPys ds) ≤ n
  | [], _ => by simp [toPys, PyData.depthAll]
  | d :: ds, h => by
    rw [toPys, PyData.depthAll]
    have := h d (List.mem_cons_self ..)
    have := depth_le ds fun d' h' => h d' (List.mem_cons_of_mem _ h')
    omega
theorem pures_of : ∀ ds : List D, (∀ d ∈ ds, pureD d = true) → pureDs ds = true
  | [], _ => rfl
  | d :: ds, h => by rw [pureDs, h d (List.mem_cons_self ..), pures_of ds fun d' h' => h d' (List.mem_cons_of_mem _ h')]; rfl
/-! the parts, numbered -/
noncomputable def eFrom (i : Nat) : List (List Nat) → List D
  | [] => []
  | q :: qs => .tup [.int (i : Nat), .str q] :: eFrom (i + 1) qs
theorem eFrom_eq : ∀ (qs : List (List Nat)) (k : Nat), (qs.map D.str).mapIdx (fun i d => D.tup [.int ((i + k : Nat) : Int), d]) = eFrom k qs
  | [], _ => rfl
  | q :: qs, k => by
    rw [List.map_cons, List.mapIdx_cons, eFrom]
    have := eFrom_eq qs (k + 1)
    rw [← this]
    have e : (fun (i : Nat) (d : D) => D.tup [.int ((i + 1 + k : Nat) : Int), d]) = fun i d => D.tup [.int ((i + (k + 1) : Nat) : Int), d] := by
      funext i d; rw [show i + 1 + k = i + (k + 1) by omega]
    rw [e, Nat.zero_add]
noncomputable def bP : Rho → Option (Out × Rho) := seqS (setS (nameA 6) (asD (cmpB opLt (binE opAdd (vE 4) (cE (.int 1))) (callE lenF (consF (vE 3) (nilF)))))) (seqS (setS (tupA [7, 8, 9]) (ifE (truB (vE 6)) (methE isStrD rpartF (vE 5) (consF (cE (.str [10])) (nilF))) (tupE (consF (cE (.str [])) (consF (cE (.str [])) (consF (vE 5) (nilF))))))) (seqS (setS (tupA [10, 11, 12]) (methE isStrD partF (vE 9) (consF (cE (.str [91])) (nilF)))) (seqS (augS 2 opIAdd (callE (runF 2 0 p_law_mark) (consF (cE (.str [114, 117, 110])) (consF (binE opAdd (replE [91] [] (binE opAdd (vE 7) (vE 8))) (vE 10)) (nilF))))) (seqS (ifS (truB (vE 11)) (seqS (ifS (truB (vE 2)) (seqS (appS 1 (tupE (consF (cE (.str [114, 117, 110])) (consF (vE 2) (nilF))))) (seqS (setS (nameA 2) (cE (.str []))) (skS))) (skS)) (seqS (setS (nameA 13) (ifE (truB (vE 6)) (cE (.str [115, 101, 116])) (cE (.str [111, 112, 101, 110])))) (seqS (appS 1 (tupE (consF (vE 13) (consF (callE (runF 2 0 p_law_mark) (consF (vE 13) (consF (binE opAdd (binE opAdd (vE 11) (vE 12)) (binE opMul (cE (.str [93])) (vE 6))) (nilF)))) (nilF))))) (skS)))) (seqS (ifS (truB (vE 6)) (seqS (augS 2 opIAdd (cE (.str [93, 114]))) (skS)) (skS)) (skS))) (skS)))))
noncomputable def flush (r : List Nat) : List (List Nat × Nat) := if r = [] then [] else [(r, 1)]
noncomputable def rowM (R : List (List Nat × Nat)) : List D := R.map fun x => kpD (markT x)
theorem rowM_app (A B : List (List Nat × Nat)) : rowM (A ++ B) = rowM A ++ rowM B := by simp [rowM]
theorem truth_mark (r : List Nat) : truth (.str (markP 1 r)) = some (decide (r ≠ [])) := by
  cases r with
  | nil => rfl
  | cons c r => rfl

/-- one part -/
theorem turnP {s0 A4 A6 A7 A8 A9 A10 A11 A12 A13 : Slot} {R : List (List Nat × Nat)} {run q : List Nat} {P : List D} {i : Nat} {cl : Bool} (hcl : decide (i + 1 < P.length) = cl) (hr : run.length + q.length ≤ 10000) (hR : R.length < 100000) :
    ∃ B7 B8 B9 B10 B11 B12 B13, bP [s0, .own (rowM R), .val (.str (markP 1 run)), .val (.list P), .val (.int (i : Nat)), .val (.str q), A6, A7, A8, A9, A10, A11, A12, A13] =
      some (.next, [s0, .own (rowM (R ++ (if (partC 91 (if cl then pLine q else q)).2.1 = [] then [] else flush (run ++ (noOpen (if cl then pEnd q else []) ++ (partC 91 (if cl then pLine q else q)).1)) ++ [((partC 91 (if cl then pLine q else q)).2.1 ++ (partC 91 (if cl then pLine q else q)).2.2 ++ (if cl then [93] else []), if cl then 2 else 3)]))),
        .val (.str (markP 1 (if (partC 91 (if cl then pLine q else q)).2.1 = [] then run ++ (noOpen (if cl then pEnd q else []) ++ (partC 91 (if cl then pLine q else q)).1) ++ (if cl then [93] else []) else []))), .val (.list P), .val (.int (i : Nat)), .val (.str q), .val (.bool cl), B7, B8, B9, B10, B11, B12, B13]) := by
  -- closed
  have hclosed : asD (cmpB opLt (binE opAdd (vE 4) (cE (.int 1))) (callE lenF (consF (vE 3) nilF))) [s0, .own (rowM R), .val (.str (markP 1 run)), .val (.list P), .val (.int (i : Nat)), .val (.str q), A6, A7, A8, A9, A10, A11, A12, A13] = some (.bool cl) := by
    rw [asD, cmpB_of (binE_of rfl rfl rfl) (call1_of rfl rfl) (x := cl) ?_]
    · rfl
    · show some (decide ((i : Int) + 1 < (P.length : Int))) = _
      rw [← hcl]; congr 1; rw [decide_eq_decide]; omega
  -- ended, mark, line
  obtain ⟨en, mk, ln, hp3, henmk, hln, hlen⟩ : ∃ en mk ln : List Nat, ifE (truB (vE 6)) (methE isStrD rpartF (vE 5) (consF (cE (.str [10])) nilF)) (tupE (consF (cE (.str [])) (consF (cE (.str [])) (consF (vE 5) nilF)))) [s0, .own (rowM R), .val (.str (markP 1 run)), .val (.list P), .val (.int (i : Nat)), .val (.str q), .val (.bool cl), A7, A8, A9, A10, A11, A12, A13] = some (.tup [.str en, .str mk, .str ln]) ∧
      en ++ mk = (if cl then pEnd q else []) ∧ ln = (if cl then pLine q else q) ∧ en.length + mk.length + ln.length = q.length := by
    cases cl with
    | true =>
      refine ⟨(rpartC 10 q).1, (rpartC 10 q).2.1, (rpartC 10 q).2.2, (ifE_t rfl).trans (meth1_of rfl rfl rfl rfl), rfl, rfl, ?_⟩
      rcases rpart_cases 10 q with ⟨_, e⟩ | ⟨a, b, e0, _, e⟩
      · rw [e]; simp
      · have := congrArg List.length e0
        rw [e]; simp at this ⊢; omega
    | false => exact ⟨[], [], q, (ifE_f rfl).trans (tup3_of rfl rfl rfl), rfl, rfl, by simp⟩
  rw [← henmk, ← hln]
  -- outside, opener, inside
  have hlo : (partC 91 ln).1.length + (partC 91 ln).2.1.length + (partC 91 ln).2.2.length = ln.length ∧ ((partC 91 ln).2.1 = [] ∨ (partC 91 ln).2.1 = [91]) := by
    rcases part_cases 91 ln with ⟨_, e⟩ | ⟨a, b, e0, _, e⟩
    · rw [e]; simp
    · have := congrArg List.length e0
      rw [e]; simp at this ⊢; omega
  have hpart : partF [.str ln, .str [91]] = some (.tup [.str (partC 91 ln).1, .str (partC 91 ln).2.1, .str (partC 91 ln).2.2]) := rfl
  generalize partC 91 ln = pa at *
  obtain ⟨o, op, ins⟩ := pa
  dsimp only at hlo hpart ⊢
  have hno : (noOpen (en ++ mk)).length ≤ en.length + mk.length := by
    have := List.length_filter_le (fun c => c != 91) (en ++ mk)
    rw [List.length_append] at this; exact this
  generalize hA : noOpen (en ++ mk) ++ o = a
  have hal : a.length ≤ q.length := by rw [← hA, List.length_append]; omega
  have hml := mark_len 1 run
  have hmla := mark_len 1 a
  -- run += mark
  have hrun : augS 2 opIAdd (callE (runF 2 0 p_law_mark) (consF (cE (.str [114, 117, 110])) (consF (binE opAdd (replE [91] [] (binE opAdd (vE 7) (vE 8))) (vE 10)) nilF))) [s0, .own (rowM R), .val (.str (markP 1 run)), .val (.list P), .val (.int (i : Nat)), .val (.str q), .val (.bool cl), .val (.str en), .val (.str mk), .val (.str ln), .val (.str o), .val (.str op), .val (.str ins), A13] =
      some (.next, [s0, .own (rowM R), .val (.str (markP 1 (run ++ a))), .val (.list P), .val (.int (i : Nat)), .val (.str q), .val (.bool cl), .val (.str en), .val (.str mk), .val (.str ln), .val (.str o), .val (.str op), .val (.str ins), A13]) := by
    have h1 : binE opAdd (replE [91] [] (binE opAdd (vE 7) (vE 8))) (vE 10) [s0, .own (rowM R), .val (.str (markP 1 run)), .val (.list P), .val (.int (i : Nat)), .val (.str q), .val (.bool cl), .val (.str en), .val (.str mk), .val (.str ln), .val (.str o), .val (.str op), .val (.str ins), A13] = some (.str a) := by
      rw [← hA]
      exact binE_of (replO_of (binE_of rfl rfl (add_strs (by omega))) (by rw [List.length_append]; omega)) rfl (add_strs (by omega))
    refine augS_of rfl (call2_of rfl h1 (markD (g := 1) (.inl rfl) (by omega))) (c := .str (markP 1 (run ++ a))) ?_ rfl
    rw [iadd_strs (by omega), mark_app]
  refine ⟨.val (.str en), .val (.str mk), .val (.str ln), .val (.str o), .val (.str op), .val (.str ins), if op = [] then A13 else .val (.str (kname (if cl then 2 else 3))), ?_⟩
  refine (seqS_next (setS_of hclosed rfl)).trans ?_
  refine (seqS_next (setS_of hp3 rfl)).trans ?_
  refine (seqS_next (setS_of (meth1_of rfl rfl rfl hpart) rfl)).trans ?_
  refine (seqS_next hrun).trans ?_
  rcases hlo with ⟨hlo, rfl | rfl⟩
  · -- no [ in the line
    simp only [if_true, List.append_nil]
    cases cl with
    | true =>
      refine (seqS_next ((ifS_f rfl).trans ((seqS_next ((ifS_t rfl).trans ((seqS_next (augS_of rfl rfl (iadd_strs (b := [93, 114]) (by rw [mark_app]; simp; omega)) rfl)).trans rfl))).trans rfl))).trans ?_
      simp [skS, markP]
    | false =>
      refine (seqS_next ((ifS_f rfl).trans ((seqS_next ((ifS_f rfl).trans rfl)).trans rfl))).trans ?_
      simp [skS]
  · -- a set or an open end
    simp only [List.cons_ne_nil, if_false]
    have hop : ∀ (R2 : List D) (r2 : Slot), R2.length < 1000000 → seqS (setS (nameA 13) (ifE (truB (vE 6)) (cE (.str [115, 101, 116])) (cE (.str [111, 112, 101, 110])))) (seqS (appS 1 (tupE (consF (vE 13) (consF (callE (runF 2 0 p_law_mark) (consF (vE 13) (consF (binE opAdd (binE opAdd (vE 11) (vE 12)) (binE opMul (cE (.str [93])) (vE 6))) nilF))) nilF)))) skS)
        [s0, .own R2, r2, .val (.list P), .val (.int (i : Nat)), .val (.str q), .val (.bool cl), .val (.str en), .val (.str mk), .val (.str ln), .val (.str o), .val (.str [91]), .val (.str ins), A13] =
        some (.next, [s0, .own (R2 ++ [kpD (markT ([91] ++ ins ++ (if cl then [93] else []), if cl then 2 else 3))]), r2, .val (.list P), .val (.int (i : Nat)), .val (.str q), .val (.bool cl), .val (.str en), .val (.str mk), .val (.str ln), .val (.str o), .val (.str [91]), .val (.str ins), .val (.str (kname (if cl then 2 else 3)))]) := fun R2 r2 hR2 => by
      have hk : ifE (truB (vE 6)) (cE (.str [115, 101, 116])) (cE (.str [111, 112, 101, 110])) [s0, .own R2, r2, .val (.list P), .val (.int (i : Nat)), .val (.str q), .val (.bool cl), .val (.str en), .val (.str mk), .val (.str ln), .val (.str o), .val (.str [91]), .val (.str ins), A13] = some (.str (kname (if cl then 2 else 3))) := by
        cases cl with
        | true => exact (ifE_t rfl).trans rfl
        | false => exact (ifE_f rfl).trans rfl
      refine (seqS_next (setS_of hk rfl)).trans ?_
      have hcl2 : (if cl then [93] else ([] : List Nat)).length ≤ 1 := by cases cl <;> simp
      refine (seqS_next (appS_of (d := kpD (markT ([91] ++ ins ++ (if cl then [93] else []), if cl then 2 else 3))) rfl (tup2_of rfl (call2_of rfl (binE_of (binE_of rfl rfl (add_strs (by simp at hlo ⊢; omega))) (binE_of rfl rfl rfl) (add_strs (by simp at hlo hcl2 ⊢; omega))) (markD (by cases cl <;> simp) (by simp at hlo hcl2 ⊢; omega)))) (by omega) rfl)).trans ?_
      rfl
    have hRl : (rowM R).length = R.length := by simp [rowM]
    by_cases hne : run ++ a = []
    · have ht : truB (vE 2) [s0, .own (rowM R), .val (.str (markP 1 (run ++ a))), .val (.list P), .val (.int (i : Nat)), .val (.str q), .val (.bool cl), .val (.str en), .val (.str mk), .val (.str ln), .val (.str o), .val (.str [91]), .val (.str ins), A13] = some false := by
        show truth (.str (markP 1 (run ++ a))) = _
        rw [truth_mark, hne]; rfl
      refine (seqS_next ((ifS_t rfl).trans ((seqS_next ((ifS_f ht).trans rfl)).trans (hop _ _ (by omega))))).trans ?_
      rw [hne, flush, if_pos rfl, rowM_app]
      rfl
    · have ht : truB (vE 2) [s0, .own (rowM R), .val (.str (markP 1 (run ++ a))), .val (.list P), .val (.int (i : Nat)), .val (.str q), .val (.bool cl), .val (.str en), .val (.str mk), .val (.str ln), .val (.str o), .val (.str [91]), .val (.str ins), A13] = some true := by
        show truth (.str (markP 1 (run ++ a))) = _
        rw [truth_mark, decide_eq_true hne]
      refine (seqS_next ((ifS_t rfl).trans ((seqS_next ((ifS_t ht).trans ((seqS_next (appS_of (d := kpD (markT (run ++ a, 1))) rfl (tup2_of rfl rfl) (by omega) rfl)).trans ((seqS_next (setS_of (d := .str []) rfl rfl)).trans rfl)))).trans (hop _ _ (by simp; omega))))).trans ?_
      rw [flush, if_neg hne, rowM_app, rowM_app]
      simp [rowM, skS, markP]
end Mine

end
section
open PySem PySem.W PySem.Calls PyProof.Rows
set_option Elab.async false
set_option maxRecDepth 100000
set_option linter.unusedSimpArgs false
namespace Mine

theorem flush_glue (r : List Nat) : glue r [] = flush r := rfl
theorem loopP_free {s0 : Slot} {P : List D} : ∀ (l : List Nat), 93 ∉ l → ∀ (i : Nat) (R : List (List Nat × Nat)) (run : List Nat) (A4 A5 A6 A7 A8 A9 A10 A11 A12 A13 : Slot), i + (splitC 93 l).length = P.length → run.length + l.length ≤ 5000 → R.length + 2 * (splitC 93 l).length < 50000 →
    ∃ (R' : List (List Nat × Nat)) (run' : List Nat) (B4 B5 B6 B7 B8 B9 B10 B11 B12 B13 : Slot), loopS (tupA [4, 5]) bP (eFrom i (splitC 93 l)) [s0, .own (rowM R), .val (.str (markP 1 run)), .val (.list P), A4, A5, A6, A7, A8, A9, A10, A11, A12, A13] =
      some (.next, [s0, .own (rowM R'), .val (.str (markP 1 run')), .val (.list P), B4, B5, B6, B7, B8, B9, B10, B11, B12, B13]) ∧ R' ++ flush run' = R ++ glue run (norm (toks l)) ∧ R'.length ≤ R.length + 2 * (splitC 93 l).length := by
  intro l h1 i R run A4 A5 A6 A7 A8 A9 A10 A11 A12 A13 hi hr hR
  rw [splitC_free h1] at hi hR ⊢
  simp only [List.length_cons, List.length_nil] at hi hR ⊢
  obtain ⟨B7, B8, B9, B10, B11, B12, B13, h⟩ := turnP (s0 := s0) (A4 := A4) (A6 := A6) (A7 := A7) (A8 := A8) (A9 := A9) (A10 := A10) (A11 := A11) (A12 := A12) (A13 := A13) (R := R) (run := run) (q := l) (P := P) (i := i) (cl := false) (decide_eq_false (by omega)) (by omega) (by omega)
  refine ⟨_, _, _, _, _, _, _, _, _, _, _, _, (loopS_next (ρ1 := [s0, .own (rowM R), .val (.str (markP 1 run)), .val (.list P), .val (.int (i : Nat)), .val (.str l), A6, A7, A8, A9, A10, A11, A12, A13]) rfl h).trans rfl, ?_, ?_⟩
  · rw [norm_last h1]
    simp only [Bool.false_eq_true, if_false, noOpen, List.filter_nil, List.nil_append, List.append_nil]
    by_cases hop : (partC 91 l).2.1 = []
    · simp only [hop, if_true, List.append_nil]
      rw [glue_glue, flush_glue]
    · simp only [hop, if_false]
      rw [glue_glue, glue_set (by decide)]
      simp [flush]
  · rw [List.length_append]
    simp only [Bool.false_eq_true, if_false]
    have hfl : ∀ r, (flush r).length ≤ 1 := fun r => by unfold flush; split <;> simp
    split
    · simp
    · have := hfl (run ++ (noOpen [] ++ (partC 91 l).1))
      simp only [List.length_append, List.length_cons, List.length_nil]
      omega
theorem loopP {s0 : Slot} {P : List D} : ∀ (m : Nat) (l : List Nat), l.length ≤ m → ∀ (i : Nat) (R : List (List Nat × Nat)) (run : List Nat) (A4 A5 A6 A7 A8 A9 A10 A11 A12 A13 : Slot), i + (splitC 93 l).length = P.length → run.length + l.length ≤ 5000 → R.length + 2 * (splitC 93 l).length < 50000 →
    ∃ (R' : List (List Nat × Nat)) (run' : List Nat) (B4 B5 B6 B7 B8 B9 B10 B11 B12 B13 : Slot), loopS (tupA [4, 5]) bP (eFrom i (splitC 93 l)) [s0, .own (rowM R), .val (.str (markP 1 run)), .val (.list P), A4, A5, A6, A7, A8, A9, A10, A11, A12, A13] =
      some (.next, [s0, .own (rowM R'), .val (.str (markP 1 run')), .val (.list P), B4, B5, B6, B7, B8, B9, B10, B11, B12, B13]) ∧ R' ++ flush run' = R ++ glue run (norm (toks l)) ∧ R'.length ≤ R.length + 2 * (splitC 93 l).length := by
  intro m
  induction m with
  | zero =>
    intro l hl
    have : l = [] := List.length_eq_zero_iff.mp (by omega)
    subst this
    exact loopP_free [] (by simp)
  | succ m ih =>
    intro l hl i R run A4 A5 A6 A7 A8 A9 A10 A11 A12 A13 hi hr hR
    rcases part_cases 93 l with ⟨h1, _⟩ | ⟨q, l', hlq, h2, _⟩
    · exact loopP_free l h1 i R run A4 A5 A6 A7 A8 A9 A10 A11 A12 A13 hi hr hR
    · have hsp : splitC 93 l = q :: splitC 93 l' := by rw [hlq]; exact splitC_app h2
      have hne := splitC_ne 93 l'
      have hpos : 0 < (splitC 93 l').length := List.length_pos_iff.mpr hne
      have hll : l.length = q.length + 1 + l'.length := by rw [hlq]; simp; omega
      rw [hsp] at hi hR ⊢
      simp only [List.length_cons] at hi hR ⊢
      obtain ⟨B7, B8, B9, B10, B11, B12, B13, h⟩ := turnP (s0 := s0) (A4 := A4) (A6 := A6) (A7 := A7) (A8 := A8) (A9 := A9) (A10 := A10) (A11 := A11) (A12 := A12) (A13 := A13) (R := R) (run := run) (q := q) (P := P) (i := i) (cl := true) (decide_eq_true (by omega)) (by omega) (by omega)
      simp only [if_true] at h
      have hlo : (noOpen (pEnd q)).length + (partC 91 (pLine q)).1.length ≤ q.length := by
        have e1 : (pEnd q).length + (pLine q).length = q.length := by
          unfold pEnd pLine
          rcases rpart_cases 10 q with ⟨_, e⟩ | ⟨a, b, e0, _, e⟩
          · rw [e]; simp
          · have := congrArg List.length e0
            rw [e]; simp at this ⊢; omega
        have e2 : (partC 91 (pLine q)).1.length ≤ (pLine q).length := by
          rcases part_cases 91 (pLine q) with ⟨_, e⟩ | ⟨a, b, e0, _, e⟩
          · rw [e]; simp
          · have := congrArg List.length e0
            rw [e]; simp at this ⊢; omega
        have e3 : (noOpen (pEnd q)).length ≤ (pEnd q).length := List.length_filter_le _ _
        omega
      have hnc := norm_close (q := q) (rest := l') h2
      rw [← hlq] at hnc
      generalize hR2 : R ++ (if (partC 91 (pLine q)).2.1 = [] then [] else flush (run ++ (noOpen (pEnd q) ++ (partC 91 (pLine q)).1)) ++ [((partC 91 (pLine q)).2.1 ++ (partC 91 (pLine q)).2.2 ++ [93], 2)]) = R2 at h
      generalize hrun2 : (if (partC 91 (pLine q)).2.1 = [] then run ++ (noOpen (pEnd q) ++ (partC 91 (pLine q)).1) ++ [93] else []) = run2 at h
      have hR2l : R2.length ≤ R.length + 2 := by
        rw [← hR2, List.length_append]
        split
        · simp
        · rw [List.length_append]; unfold flush; split <;> simp
      have hrun2l : run2.length ≤ run.length + q.length + 1 := by
        rw [← hrun2]
        split
        · simp only [List.length_append, List.length_cons, List.length_nil]; omega
        · simp
      obtain ⟨R', run', C4, C5, C6, C7, C8, C9, C10, C11, C12, C13, h', e', l'e⟩ := ih l' (by omega) (i + 1) R2 run2 (.val (.int (i : Nat))) (.val (.str q)) (.val (.bool true)) B7 B8 B9 B10 B11 B12 B13 (by omega) (by omega) (by omega)
      refine ⟨R', run', C4, C5, C6, C7, C8, C9, C10, C11, C12, C13, (loopS_next (ρ1 := [s0, .own (rowM R), .val (.str (markP 1 run)), .val (.list P), .val (.int (i : Nat)), .val (.str q), A6, A7, A8, A9, A10, A11, A12, A13]) rfl h).trans h', ?_, by omega⟩
      rw [e', hnc, ← hR2, ← hrun2, glue_glue]
      by_cases hop : (partC 91 (pLine q)).2.1 = []
      · simp only [hop, if_true, List.append_nil]
        rw [glue_glue]
      · simp only [hop, if_false]
        rw [glue_nil, glue_set (by decide)]
        simp [flush]
theorem parts_ok {l : List Nat} (hl : l.length ≤ 1000) : runF 1 13 p_law_by_parts [.str l] = some (.list (rowM (norm (toks l)))) := by
  have hsl := splitC_len 93 l
  obtain ⟨R', run', B4, B5, B6, B7, B8, B9, B10, B11, B12, B13, h, e, hR⟩ := loopP (s0 := .val (.str l)) (P := (splitC 93 l).map .str) l.length l (Nat.le_refl _) 0 [] [] .unb .unb .unb .unb .unb .unb .unb .unb .unb .unb (by simp) (by simp; omega) (by simp; omega)
  rw [List.nil_append, glue_nil] at e
  have henum : itE asEnum (vE 3) [.val (.str l), .own [], .val (.str []), .val (.list ((splitC 93 l).map .str)), .unb, .unb, .unb, .unb, .unb, .unb, .unb, .unb, .unb, .unb] = some (eFrom 0 (splitC 93 l)) := by
    show asEnum (.list _) = _
    rw [asEnum, ← eFrom_eq]; rfl
  refine runF_ret rfl (Ret.next (ownS_of rfl rfl) ?_)
  refine Ret.next (setS_of (d := .str []) rfl rfl) ?_
  refine Ret.next (setS_of (d := .list ((splitC 93 l).map .str)) ?_ rfl) ?_
  · rw [listF, methL]
    show (Option.map D.list (if true then splitF [.str l, .str [93]] else none)) = _
    rw [if_pos rfl, splitF, if_pos (by omega)]; rfl
  refine Ret.next ((forS_of henum).trans h) ?_
  have hRl : (rowM R').length = R'.length := by simp [rowM]
  simp only [List.length_nil] at hR
  by_cases hrun : run' = []
  · subst hrun
    refine Ret.next (ρ1 := [.val (.str l), .own (rowM R'), .val (.str (markP 1 [])), .val (.list ((splitC 93 l).map .str)), B4, B5, B6, B7, B8, B9, B10, B11, B12, B13]) ((ifS_f rfl).trans rfl) ?_
    refine Ret.frz rfl rfl (Ret.stop (Ret.of ?_))
    rw [← e]; simp [flush]; rfl
  · have ht : truB (vE 2) [.val (.str l), .own (rowM R'), .val (.str (markP 1 run')), .val (.list ((splitC 93 l).map .str)), B4, B5, B6, B7, B8, B9, B10, B11, B12, B13] = some true := by
      show truth (.str (markP 1 run')) = _
      rw [truth_mark, decide_eq_true hrun]
    refine Ret.next ((ifS_t ht).trans ((seqS_next (appS_of (d := kpD (markT (run', 1))) rfl (tup2_of rfl rfl) (by omega) rfl)).trans rfl)) ?_
    refine Ret.frz rfl rfl (Ret.stop (Ret.of ?_))
    rw [← e, rowM_app, flush, if_neg hrun]; rfl

/-! comprehensions by two names -/
theorem loopC_pair {α : Type} {i j : Nat} (hij : i ≠ j) {f : Rho → Option D} {ρ0 : Rho} {A B F : α → D} : ∀ (xs : List α) (ρ : Rho), (∀ u v, (ρ.set i u).set j v = (ρ0.set i u).set j v) → (∀ x ∈ xs, f ((ρ0.set i (.val (A x))).set j (.val (B x))) = some (F x)) →
    ∃ ρ', loopC (tupA [i, j]) tt (emE f) (xs.map fun x => .tup [A x, B x]) ρ = some (xs.map F, ρ')
  | [], ρ, _, _ => ⟨ρ, rfl⟩
  | x :: xs, ρ, h0, hf => by
    obtain ⟨ρ', ih⟩ := loopC_pair hij (f := f) (ρ0 := ρ0) (A := A) (B := B) (F := F) xs ((ρ0.set i (.val (A x))).set j (.val (B x))) (fun u v => by
      rw [List.set_comm (.val (B x)) u (Ne.symm hij), List.set_set, List.set_set]) (fun y hy => hf y (List.mem_cons_of_mem _ hy))
    refine ⟨ρ', ?_⟩
    rw [List.map_cons, loopC]
    show ((some ((ρ.set i (.val (A x))).set j (.val (B x)))).bind _) = _
    rw [Option.bind_some, h0, tt, Option.bind_some, if_pos rfl, emE, hf x (List.mem_cons_self ..)]
    simp [ih]
theorem comp2 {α : Type} {vars : List Str} {it : Rho → Option (List D)} {i j : Nat} {f : Rho → Option D} {ρ ρ0 : Rho} (xs : List α) (A B F : α → D) (hij : i ≠ j) (h0 : rhoC vars ρ = ρ0) (hit : it ρ = some (xs.map fun x => .tup [A x, B x]))
    (hf : ∀ x ∈ xs, f ((ρ0.set i (.val (A x))).set j (.val (B x))) = some (F x)) (hz : xs.length ≤ 10000000) : compF vars it (tupA [i, j]) tt (emE f) ρ = some (xs.map F) := by
  obtain ⟨ρ', hc⟩ := loopC_pair hij (f := f) (ρ0 := ρ0) (A := A) (B := B) (F := F) xs ρ0 (fun _ _ => rfl) hf
  have hsz : sizeLine = 16777216 := rfl
  rw [compF, hit, Option.bind_some, h0, hc, Option.bind_some, if_pos (by simp; omega)]
theorem joinC {vars : List Str} {it : Rho → Option (List D)} {g : D → Rho → Option Rho} {em : Rho → Option (List D × Rho)} {ρ : Rho} {ls : List (List Nat)} (h : compF vars it g tt em ρ = some (ls.map D.str)) (hz : ls.flatten.length ≤ 10000000) :
    methE isStrD joinF (cE (.str [])) (consF (listF (compF vars it g tt em)) nilF) ρ = some (.str ls.flatten) := by
  simp only [methE, cE, consF, listF, nilF, h, Option.bind_some, Option.map_some, isStrD, if_true]
  rw [join_strs hz]

/-! the law -/
theorem flat_glue (p : List Nat) (N : List (List Nat × Nat)) : (glue p N).flatMap (·.1) = p ++ N.flatMap (·.1) := by
  by_cases hp : p = []
  · subst hp; rw [glue_nil]; rfl
  cases N with
  | nil => simp [glue, hp]
  | cons x N =>
    obtain ⟨r, g⟩ := x
    by_cases hg : g = 1
    · subst hg; simp [glue, hp]
    · simp [glue, hp, hg]
theorem flat_norm : ∀ ts : List (List Nat × Nat), (norm ts).flatMap (·.1) = ts.flatMap (·.1)
  | [] => rfl
  | (p, g) :: ts => by
    have ih := flat_norm ts
    by_cases hg : g = 1
    · subst hg; rw [norm, if_pos rfl, flat_glue, ih, List.flatMap_cons]
    · rw [norm, if_neg hg, List.flatMap_cons, List.flatMap_cons, ih]
theorem flat_len : ∀ ts : List (List Nat × Nat), (ts.flatMap (·.1)).length = (ts.map fun x => x.1.length).sum
  | [] => rfl
  | x :: ts => by rw [List.flatMap_cons, List.length_append, flat_len ts]; rfl
theorem markflat_len : ∀ ts : List (List Nat × Nat), (ts.flatMap fun x => markP x.2 x.1).length ≤ 2 * (ts.map fun x => x.1.length).sum + 2 * ts.length
  | [] => by simp
  | x :: ts => by
    have := markflat_len ts
    have := mark_len x.2 x.1
    rw [List.flatMap_cons, List.length_append, List.map_cons, List.sum_cons, List.length_cons]; omega
theorem norm_len : ∀ ts : List (List Nat × Nat), (norm ts).length ≤ ts.length
  | [] => Nat.le_refl _
  | (p, g) :: ts => by
    have ih := norm_len ts
    rw [norm]
    split
    · have : ∀ N : List (List Nat × Nat), (glue p N).length ≤ N.length + 1 := fun N => by
        cases N with
        | nil => show (if p = [] then [] else [(p, 1)]).length ≤ 1; split <;> simp
        | cons x N =>
          obtain ⟨r, g⟩ := x
          show (if p = [] then (r, g) :: N else if g = 1 then (p ++ r, 1) :: N else (p, 1) :: (r, g) :: N).length ≤ _
          split
          · simp
          · split <;> simp
      have := this (norm ts)
      simp; omega
    · simp; omega
theorem nrm_all : ∀ {N : List (List Nat × Nat)}, Nrm N → ∀ x ∈ N, LastOk x.1 x.2
  | [], _, x, hx => by simp at hx
  | (p, g) :: N, ⟨h1, _, _, h4⟩, x, hx => by
    rcases List.mem_cons.mp hx with rfl | hx
    · exact h1
    · exact nrm_all h4 x hx
theorem flat_kps (ts : List (List Nat × Nat)) : flatD (.list (ts.map kpD)) = true := by
  refine flat_of ?_ ?_
  · rw [pureD]
    refine pures_of _ fun d hd => ?_
    obtain ⟨x, _, rfl⟩ := List.mem_map.mp hd
    simp [kpD, pureD, pureDs]
  · rw [toPy, PyData.depth]
    have := depth_le (n := 1) (ts.map kpD) fun d hd => by
      obtain ⟨x, _, rfl⟩ := List.mem_map.mp hd
      simp [kpD, toPy, toPys, PyData.depth, PyData.depthAll]
    omega
theorem kinds_of {x : List Nat × Nat} (h : LastOk x.1 x.2) : x.2 = 1 ∨ x.2 = 2 ∨ x.2 = 3 := by
  rcases h with ⟨h, _⟩ | ⟨h, _⟩ | ⟨h, _⟩ <;> simp [h]
theorem okT_all : ∀ {N : List (List Nat × Nat)}, okT N → ∀ x ∈ N, LastOk x.1 x.2
  | [], _, x, hx => by simp at hx
  | (p, g) :: N, ⟨h1, _, h4⟩, x, hx => by
    rcases List.mem_cons.mp hx with rfl | hx
    · exact h1
    · exact okT_all h4 x hx
theorem piece_le {ts : List (List Nat × Nat)} {x : List Nat × Nat} (h : x ∈ ts) : x.1.length ≤ (ts.map fun x => x.1.length).sum := by
  induction ts with
  | nil => simp at h
  | cons y ts ih =>
    rw [List.map_cons, List.sum_cons]
    rcases List.mem_cons.mp h with rfl | h
    · omega
    · have := ih h; omega

noncomputable def bodyL : Rho → Option (Out × Rho) := seqS (setS (nameA 3) (callE (runF 1 13 p_law_by_parts) (consF (vE 2) (nilF)))) (seqS (setS (nameA 4) (methE isStrD joinF (cE (.str [])) (consF (listF (compF ["kind", "piece"] (itE asList (callE (runF 1 4 p_law_read) (consF (vE 2) (nilF)))) (tupA [6, 7]) (tt) (emE (callE (runF 2 0 p_law_mark) (consF (vE 6) (consF (vE 7) (nilF))))))) (nilF)))) (seqS (ifS (cmpB opNe (vE 4) (methE isStrD joinF (cE (.str [])) (consF (listF (compF ["_", "piece"] (itE asList (vE 3)) (tupA [6, 7]) (tt) (emE (vE 7)))) (nilF)))) (seqS (retS (cE (.bool false))) (skS)) (skS)) (seqS (ifS (cmpB opNe (callE (runF 1 4 p_law_read) (consF (vE 4) (nilF))) (vE 3)) (seqS (retS (cE (.bool false))) (skS)) (skS)) (seqS (usedS 5 (compF ["kind", "piece"] (itE asList (vE 3)) (tupA [6, 7]) (tt) (emE (tupE (consF (vE 6) (consF (callE (runF 2 0 p_law_unmark) (consF (vE 6) (consF (vE 7) (nilF)))) (nilF))))))) (seqS (ifS (cmpB opNe (callE (runF 1 4 p_law_read) (consF (methE isStrD joinF (cE (.str [])) (consF (listF (compF ["_", "piece"] (itE asList (vE 5)) (tupA [6, 7]) (tt) (emE (vE 7)))) (nilF))) (nilF))) (vE 5)) (seqS (retS (cE (.bool false))) (skS)) (skS)) (skS))))))
theorem usedS_of {i : Nat} {f : Rho → Option (List D)} {ρ ρ' : Rho} {xs : List D} (h1 : f ρ = some xs) (h2 : ρ.set i (.val (.list xs)) = ρ') : usedS i f ρ = some (.next, ρ') := by
  rw [usedS, h1, ← h2]; rfl
theorem turnL {l : List Nat} {s0 s1 A3 A4 A5 : Slot} (hl : l.length ≤ 1000) : ∃ B3 B4 B5, bodyL [s0, s1, .val (.str l), A3, A4, A5] = some (.next, [s0, s1, .val (.str l), B3, B4, B5]) := by
  have hok := toks_okT l
  have htl := toks_len l
  have hps : ((toks l).map fun x => x.1.length).sum ≤ l.length := parse_size (l.length + 1) l
  have hN := nrm_norm hok
  have hNM := nrm_mark hN
  have hmf := markflat_len (toks l)
  have hnl := norm_len (toks l)
  have hmn := mark_norm (toks l)
  have hfn := flat_norm (toks l)
  have hfl := flat_len (toks l)
  have hpl : ∀ x ∈ norm (toks l), x.1.length ≤ 100000 := fun x hx => by
    have h1 : x.1.length ≤ ((norm (toks l)).map fun x => x.1.length).sum := piece_le hx
    rw [← flat_len, hfn, hfl] at h1
    omega
  have hparts := parts_ok (l := l) (by omega)
  have hread := read_ok (l := l) (by omega)
  generalize hNg : norm (toks l) = N at *
  have hall := nrm_all hN
  -- made
  have e1 : (((toks l).map fun x => markP x.2 x.1)).flatten = N.flatMap fun x => markP x.2 x.1 := by rw [hmn, List.flatMap_def]
  have e2 : ((N.map fun x => markP x.2 x.1)).flatten = N.flatMap fun x => markP x.2 x.1 := by rw [List.flatMap_def]
  have e3 : (N.map markT).flatMap (·.1) = N.flatMap fun x => markP x.2 x.1 := by rw [List.flatMap_map]; rfl
  have hml : (N.flatMap fun x => markP x.2 x.1).length ≤ 100000 := by rw [hmn]; omega
  generalize hM : (N.flatMap fun x => markP x.2 x.1) = M at *
  have hreadM := read_ok (l := M) (by omega)
  rw [← e3, toks_nrm hNM] at hreadM
  rw [e3] at hreadM
  have eRow : (N.map markT).map kpD = rowM N := by simp [rowM]
  rw [eRow] at hreadM
  have e4 : ((N.map fun x => x.1)).flatten = N.flatMap (·.1) := by rw [List.flatMap_def]
  have hreadB := read_ok (l := N.flatMap (·.1)) (by rw [hfn, hfl]; omega)
  rw [toks_nrm hN] at hreadB
  have hmade : methE isStrD joinF (cE (.str [])) (consF (listF (compF ["kind", "piece"] (itE asList (callE (runF 1 4 p_law_read) (consF (vE 2) nilF))) (tupA [6, 7]) tt (emE (callE (runF 2 0 p_law_mark) (consF (vE 6) (consF (vE 7) nilF)))))) nilF) [s0, s1, .val (.str l), .val (.list (rowM N)), A4, A5] = some (.str M) := by
    rw [← e1]
    refine joinC ?_ (by rw [e1]; omega)
    rw [comp2 (toks l) (fun x => .str (kname x.2)) (fun x => .str x.1) (fun x => .str (markP x.2 x.1)) (by decide) rfl (by rw [itE, call1_of rfl hread]; rfl) (fun x hx => ?_) (by omega)]
    · simp
    · exact call2_of rfl rfl (markD (kinds_of (okT_all hok x hx)) (by have := piece_le hx; omega))
  have hjoin1 : methE isStrD joinF (cE (.str [])) (consF (listF (compF ["_", "piece"] (itE asList (vE 3)) (tupA [6, 7]) tt (emE (vE 7)))) nilF) [s0, s1, .val (.str l), .val (.list (rowM N)), .val (.str M), A5] = some (.str M) := by
    rw [← e2]
    refine joinC ?_ (by rw [e2]; omega)
    rw [comp2 N (fun x => .str (kname x.2)) (fun x => .str (markP x.2 x.1)) (fun x => .str (markP x.2 x.1)) (by decide) rfl rfl (fun x hx => rfl) (by omega)]
    simp
  have hbare : compF ["kind", "piece"] (itE asList (vE 3)) (tupA [6, 7]) tt (emE (tupE (consF (vE 6) (consF (callE (runF 2 0 p_law_unmark) (consF (vE 6) (consF (vE 7) nilF))) nilF)))) [s0, s1, .val (.str l), .val (.list (rowM N)), .val (.str M), A5] = some (N.map kpD) :=
    comp2 N (fun x => .str (kname x.2)) (fun x => .str (markP x.2 x.1)) kpD (by decide) rfl rfl (fun x hx => tup2_of rfl (call2_of rfl rfl (unmarkD (hall x hx) (hpl x hx)))) (by omega)
  have hjoin2 : methE isStrD joinF (cE (.str [])) (consF (listF (compF ["_", "piece"] (itE asList (vE 5)) (tupA [6, 7]) tt (emE (vE 7)))) nilF) [s0, s1, .val (.str l), .val (.list (rowM N)), .val (.str M), .val (.list (N.map kpD))] = some (.str (N.flatMap (·.1))) := by
    rw [← e4]
    refine joinC ?_ (by rw [e4, hfn, hfl]; omega)
    rw [comp2 N (fun x => .str (kname x.2)) (fun x => .str x.1) (fun x => .str x.1) (by decide) rfl rfl (fun x hx => rfl) (by omega)]
    simp
  have hflatM : flatD (.list (rowM N)) = true := by rw [← eRow]; exact flat_kps _
  refine ⟨.val (.list (rowM N)), .val (.str M), .val (.list (N.map kpD)), ?_⟩
  refine (seqS_next (setS_of (call1_of rfl hparts) rfl)).trans ?_
  refine (seqS_next (setS_of hmade rfl)).trans ?_
  refine (seqS_next (ρ' := [s0, s1, .val (.str l), .val (.list (rowM N)), .val (.str M), A5]) ((ifS_f (cmpB_of rfl hjoin1 (ne_self (flat_str _)))).trans rfl)).trans ?_
  refine (seqS_next (ρ' := [s0, s1, .val (.str l), .val (.list (rowM N)), .val (.str M), A5]) ((ifS_f (cmpB_of (call1_of rfl hreadM) rfl (ne_self hflatM))).trans rfl)).trans ?_
  refine (seqS_next (usedS_of hbare rfl)).trans ?_
  refine (seqS_next (ρ' := [s0, s1, .val (.str l), .val (.list (rowM N)), .val (.str M), .val (.list (N.map kpD))]) ((ifS_f (cmpB_of (call1_of hjoin2 hreadB) rfl (ne_self (flat_kps _)))).trans rfl)).trans ?_
  rfl
theorem pure06 : ∀ ns : List Int, ns.length ≤ 63 → runF 1 5 plaw [.list (ns.map .int)] = some (.bool true) := by
  intro ns hn
  obtain ⟨S, hS⟩ : ∃ S : Int → Nat, ∀ x, runF 1 2 p_law_sign [.int x] = some (.str [S x]) := ⟨fun x => (sign_ok x).choose, fun x => (sign_ok x).choose_spec⟩
  have hm := made_ok hS (ns := ns) (by omega) (ρ := List.replicate 5 .unb) (i := 6) (x := "number") rfl
  have hl : (ns.map S).length ≤ 63 := by simpa using hn
  generalize ns.map S = l at *
  generalize D.list (ns.map .int) = s0 at *
  have hit : itE asTup (tupE (consF (vE 1) (consF (binE opAdd (binE opAdd (cE (.str [97, 91, 10, 98, 91, 99])) (vE 1)) (cE (.str [93, 100, 91, 101]))) nilF))) [.val s0, .val (.str l), .unb, .unb, .unb, .unb] = some [.str l, .str ([97, 91, 10, 98, 91, 99] ++ l ++ [93, 100, 91, 101])] := by
    rw [itE, tup2_of rfl (binE_of (binE_of rfl rfl (add_strs (by simp; omega))) rfl (add_strs (by simp; omega)))]; rfl
  obtain ⟨A3, A4, A5, t1⟩ := turnL (l := l) (s0 := .val s0) (s1 := .val (.str l)) (A3 := .unb) (A4 := .unb) (A5 := .unb) (by omega)
  obtain ⟨B3, B4, B5, t2⟩ := turnL (l := [97, 91, 10, 98, 91, 99] ++ l ++ [93, 100, 91, 101]) (s0 := .val s0) (s1 := .val (.str l)) (A3 := A3) (A4 := A4) (A5 := A5) (by simp; omega)
  refine runF_ret rfl (Ret.next (setS_of hm rfl) ?_)
  refine Ret.next (ρ1 := [.val s0, .val (.str l), .val (.str ([97, 91, 10, 98, 91, 99] ++ l ++ [93, 100, 91, 101])), B3, B4, B5]) ((forS_of hit).trans ?_) ?_
  · refine (loopS_next rfl t1).trans ?_
    refine (loopS_next rfl t2).trans ?_
    rfl
  · exact Ret.stop (Ret.of rfl)
end Mine

end
section
open PySem PySem.W PyProof.Rows
set_option Elab.async false
set_option maxRecDepth 100000
set_option maxHeartbeats 8000000
namespace MineTop
theorem PySem.W.holds_open {r : OpenRow} {q : PySem.Program} {loose : List PySem.Str} {Xt : Shared → Bool} {XP : (PySem.Str → Option PySem.Value) → Heap → Prop} {α : Type} {Yf : Shared → α} {Ya : World → α} {YP : World → Heap → Prop} {d : DefRec} {kwd : List (PySem.Str × PySem.Expr)} {N : Nat}
    (left : LeftO r.prog q loose Xt Yf Ya N) (hY : ∀ w s, Yf s = Ya w → YP w s.heap) (hYk : ∀ w h h', YP w h → (∀ b o, h.get? b = some o → h'.get? b = some o) → YP w h')
    (hX : ∀ s, Xt s = true → XP (s.heap.nsMap mainGlobals) s.heap) (hXk : ∀ mg h h', XP mg h → (∀ b o, h.get? b = some o → h'.get? b = some o) → XP mg h')
    (hdef : defOf q r.name = some (d, kwd)) (hp : r.prog.theDef r.name = some (d.params, d.body, d.scope)) (hk : kwWritten? d.params.kwonlyargs d.params.kw_defaults = some kwd) (hRf : ∀ s, Xt s = true → RecFacts r.records s.heap) (hwr : (!r.writes || r.records.isEmpty) = true)
    (k1 : r.wellSaid = true) (ok : (chainsOk q && opensWell r.prog && (frees r.toRowW && r.within.isEmpty)) = true) (hb : r.prog.bare) (hw : r.toRowW.promised)
    (call : Mine.WalkG q loose XP YP r.toRowW d kwd) : r.Holds := Mine.holdsG left hY hYk hX hXk hdef hp hk hRf hwr k1 ok hb hw call
open_top hd for PySem.Challenge.rw_dn0312_06
end MineTop

end
section
open PySem PySem.W PySem.Calls PyProof.Rows
set_option Elab.async false
set_option maxRecDepth 100000
set_option maxHeartbeats 4000000
namespace Mine

theorem code_vals : (theCode.map fun w => (rawInt (w : Nat) : Value)) = #[.int 14 0, .int 4 0, .int 0 0, .int 1 0, .int 4294967295 0, .int 7 0, .int 14 0, .int 17 0, .int 0 0, .int 24 0, .int 6 0, .int 1 0, .int 4294967295 0, .int 20 0, .int 91 0, .int 1 0, .int 17 0, .int 1 0, .int 15 0, .int 37 0, .int 17 0, .int 17 0, .int 2 0, .int 16 0, .int 91 0, .int 26 0, .int 5 0, .int 0 0, .int 4294967295 0, .int 2 0, .int 1 0, .int 16 0, .int 93 0, .int 17 0, .int 3 0, .int 15 0, .int 20 0, .int 18 0, .int 17 0, .int 4 0, .int 16 0, .int 91 0, .int 24 0, .int 6 0, .int 0 0, .int 4294967295 0, .int 20 0, .int 93 0, .int 1 0, .int 6 0, .int 5 0, .int 17 0, .int 5 0, .int 15 0, .int 2 0, .int 0 0, .int 1 0] := by simp [theCode, rawInt]
theorem mg_of {h : Heap} {a : Addr} {m : Str → Option Value} {o : Obj} {es : Array DictEntry} {ep : Nat} (hn : h.Ns a m) (ho : h.get? a = some o) (hd : o.data = .dict es ep) (x : Str) : m x = nsFind es x := by
  obtain ⟨o', es', ep', h1, h2, _, h4⟩ := hn
  rw [ho] at h1
  cases h1
  rw [hd] at h2
  cases h2
  exact (h4 x).symm

theorem foo : PySem.Challenge.rw_dn0312_06.Holds := MineTop.hd (by
  intro w s₀ s₁ mg mb G Y a o pm cd doc dV kV h1 h2 h3 h4 h5 h6 htk args vals as p1 p2 p3 p4 p5
  have K := kIn_of Y
  have hmg := mg_of G.T.g (K 3 _ rfl) rfl
  let cx : Cx := ⟨Challenge.rw_dn0312_06.row.toRowW.prog, w, s₁.heap, mg, mb, G.T.g, G.T.b, G.T.nolimit, 36, fun _ _ _ _ => False, fun _ _ h => h⟩
  have h_chr : (cx.mg "chr").or (cx.mb "chr") = some (.builtin "chr") := by rw [show cx.mg "chr" = none from (hmg _).trans (by rfl), show cx.mb "chr" = some (.builtin "chr") from (G.T.builtins _ (by decide)).trans (by rfl)]; rfl
  have h_enumerate : (cx.mg "enumerate").or (cx.mb "enumerate") = some (.type "enumerate") := by rw [show cx.mg "enumerate" = none from (hmg _).trans (by rfl), show cx.mb "enumerate" = some (.type "enumerate") from (G.T.builtins _ (by decide)).trans (by rfl)]; rfl
  have h_len : (cx.mg "len").or (cx.mb "len") = some (.builtin "len") := by rw [show cx.mg "len" = none from (hmg _).trans (by rfl), show cx.mb "len" = some (.builtin "len") from (G.T.builtins _ (by decide)).trans (by rfl)]; rfl
  have hPat : PatAt cx.h₁ cx.pat 35 := ⟨⟨_, _, _, _, K 36 _ rfl⟩, ⟨0, by rw [code_vals]; exact K 35 _ rfl⟩⟩
  have hG : PatG cx := ⟨_, _, _, _, 33, _, _, K 36 _ rfl, K 33 _ rfl⟩
  have hkseparate : KeepOk (.ref 43) cx.h₁ := .inl ⟨_, _, _, rfl, K 43 _ rfl, rfl⟩
  have hmseparate : (cx.mg "separate").or (cx.mb "separate") = some (.ref 43) := by rw [show cx.mg "separate" = some (.ref 43) from (hmg _).trans (by rfl)]; rfl
  have hcsep : ConI cx 35 1 (.ref 43) := sep_con (k := 0) (K 43 _ rfl) rfl ⟨42, _, _, _, rfl, K 42 _ rfl, rfl, rfl⟩ (fun vs hv => by match vs, hv with | [v], _ => rfl) hPat (by rw [show cx.mg "_twin_re_1" = some (.ref 36) from (hmg _).trans (by rfl)]; rfl) rfl rfl rfl rfl rfl (by decide) rfl rfl rfl
  have hk_law_sign : KeepOk (.ref 50) cx.h₁ := .inl ⟨_, _, _, rfl, K 50 _ rfl, rfl⟩
  have hm_law_sign : (cx.mg "_law_sign").or (cx.mb "_law_sign") = some (.ref 50) := by rw [show cx.mg "_law_sign" = some (.ref 50) from (hmg _).trans (by rfl)]; rfl
  have c_law_sign : Con cx 1 (.ref 50) (runF 1 2 p_law_sign) := con_def (xs := ["number"]) (rest := ["kind", "code"]) (k := 0) (K 50 _ rfl) rfl ⟨49, _, _, _, rfl, K 49 _ rfl, rfl, rfl⟩
    (ss_cons (s1_assign (x_name 1) (se_bin bin_mod (x_var 0) se_int)) (ss_cons (s1_if (st_cmp cmp_lt (x_var 1) se_int) (ss_cons (s1_return (se_item (x_str [91, 91, 91, 91, 93, 93, 93, 93, 10, 10, 97, 42]) (x_var 1))) ss_nil) ss_nil) (ss_cons (s1_assign (x_name 2) (se_bin bin_mod (se_bin bin_div (x_var 0) se_int) se_int)) (ss_cons (s1_return (x_call (k := 0) con_chr h_chr (.inr (by intro a e; cases e)) (ses_cons (se_ifexp (st_cmp cmp_lt (x_var 2) se_int) (x_var 2) (se_bin bin_add (x_var 2) se_int)) ses_nil))) ss_nil))))
    (fun vs hv => by match vs, hv with | [v0], _ => rfl)
  have hk_law_read : KeepOk (.ref 57) cx.h₁ := .inl ⟨_, _, _, rfl, K 57 _ rfl, rfl⟩
  have hm_law_read : (cx.mg "_law_read").or (cx.mb "_law_read") = some (.ref 57) := by rw [show cx.mg "_law_read" = some (.ref 57) from (hmg _).trans (by rfl)]; rfl
  have c_law_read : Con cx 2 (.ref 57) (runF 1 4 p_law_read) := con_def (xs := ["text"]) (rest := ["row", "found", "piece", "held"]) (k := 1) (K 57 _ rfl) rfl ⟨56, _, _, _, rfl, K 56 _ rfl, rfl, rfl⟩
    (ss_cons (x_own 1 (x_listF ses_nil)) (ss_cons (s1_for (x_sep hcsep hPat hmseparate hkseparate (x_var 0)) (x_name 2) (ss_cons (s1_assign (x_name 3) (x_meth (get_mat slot_group type_group) (con_group hG) (x_var 2) (ses_cons se_int ses_nil))) (ss_cons (s1_assign (x_name 4) (x_meth (get_mat slot_group type_group) (con_group hG) (x_var 2) (ses_cons (x_str [115, 101, 116]) ses_nil))) (ss_cons (s1_if (st_cmp cmp_isNot (x_var 4) se_none) (ss_cons (s1_append 1 (se_tup (ses_cons (x_str [115, 101, 116]) (ses_cons (x_var 4) ses_nil)))) ss_nil) (ss_cons (s1_append 1 (se_tup (ses_cons (se_ifexp (st_cmp cmp_eq (se_item (x_var 3) se_int) (x_str [91])) (x_str [111, 112, 101, 110]) (x_str [114, 117, 110])) (ses_cons (x_var 3) ses_nil)))) ss_nil)) ss_nil)))) (ss_freeze (ss_cons (s1_return (x_var 1)) ss_nil))))
    (fun vs hv => by match vs, hv with | [v0], _ => rfl)
  have hk_law_mark : KeepOk (.ref 62) cx.h₁ := .inl ⟨_, _, _, rfl, K 62 _ rfl, rfl⟩
  have hm_law_mark : (cx.mg "_law_mark").or (cx.mb "_law_mark") = some (.ref 62) := by rw [show cx.mg "_law_mark" = some (.ref 62) from (hmg _).trans (by rfl)]; rfl
  have c_law_mark : Con cx 1 (.ref 62) (runF 2 0 p_law_mark) := con_def (xs := ["kind", "piece"]) (rest := []) (k := 0) (K 62 _ rfl) rfl ⟨61, _, _, _, rfl, K 61 _ rfl, rfl, rfl⟩
    (ss_cons (s1_if (st_cmp cmp_eq (x_var 0) (x_str [115, 101, 116])) (ss_cons (s1_return (se_bin bin_add (se_bin bin_add (x_str [91]) (x_meth (get_str F.slot_str_join F.type_str_join) con_join (x_str []) (ses_cons (SEF.se (x_comp ["sign"] x_cs (si_str (se_cut (x_var 1) (sp_some se_int) (sp_some (se_neg se_int)))) (x_lname 2) ts_nil (se_bin bin_add (x_str [115]) (x_var 2)))) ses_nil))) (x_str [93]))) ss_nil) ss_nil) (ss_cons (s1_if (st_cmp cmp_eq (x_var 0) (x_str [111, 112, 101, 110])) (ss_cons (s1_return (se_bin bin_add (x_str [91]) (x_meth (get_str F.slot_str_join F.type_str_join) con_join (x_str []) (ses_cons (SEF.se (x_comp ["sign"] x_cs (si_str (se_cut (x_var 1) (sp_some se_int) sp_none)) (x_lname 2) ts_nil (se_bin bin_add (x_str [116]) (x_var 2)))) ses_nil)))) ss_nil) ss_nil) (ss_cons (s1_return (x_meth (get_str F.slot_str_join F.type_str_join) con_join (x_str []) (ses_cons (SEF.se (x_comp ["sign"] x_cs (si_str (x_var 1)) (x_lname 2) ts_nil (se_bin bin_add (x_var 2) (x_str [114])))) ses_nil))) ss_nil)))
    (fun vs hv => by match vs, hv with | [v0, v1], _ => rfl)
  have hk_law_unmark : KeepOk (.ref 69) cx.h₁ := .inl ⟨_, _, _, rfl, K 69 _ rfl, rfl⟩
  have hm_law_unmark : (cx.mg "_law_unmark").or (cx.mb "_law_unmark") = some (.ref 69) := by rw [show cx.mg "_law_unmark" = some (.ref 69) from (hmg _).trans (by rfl)]; rfl
  have c_law_unmark : Con cx 1 (.ref 69) (runF 2 0 p_law_unmark) := con_def (xs := ["kind", "piece"]) (rest := []) (k := 0) (K 69 _ rfl) rfl ⟨68, _, _, _, rfl, K 68 _ rfl, rfl, rfl⟩
    (ss_cons (s1_if (st_cmp cmp_eq (x_var 0) (x_str [115, 101, 116])) (ss_cons (s1_return (se_bin bin_add (se_bin bin_add (x_str [91]) (se_step (se_cut (x_var 1) (sp_some se_int) (sp_some (se_neg se_int))) (sp_some se_int) sp_none)) (x_str [93]))) ss_nil) ss_nil) (ss_cons (s1_if (st_cmp cmp_eq (x_var 0) (x_str [111, 112, 101, 110])) (ss_cons (s1_return (se_bin bin_add (x_str [91]) (se_step (se_cut (x_var 1) (sp_some se_int) sp_none) (sp_some se_int) sp_none))) ss_nil) ss_nil) (ss_cons (s1_return (se_step (x_var 1) sp_none sp_none)) ss_nil)))
    (fun vs hv => by match vs, hv with | [v0, v1], _ => rfl)
  have hk_law_by_parts : KeepOk (.ref 76) cx.h₁ := .inl ⟨_, _, _, rfl, K 76 _ rfl, rfl⟩
  have hm_law_by_parts : (cx.mg "_law_by_parts").or (cx.mb "_law_by_parts") = some (.ref 76) := by rw [show cx.mg "_law_by_parts" = some (.ref 76) from (hmg _).trans (by rfl)]; rfl
  have c_law_by_parts : Con cx 2 (.ref 76) (runF 1 13 p_law_by_parts) := con_def (xs := ["text"]) (rest := ["row", "run", "parts", "number", "part", "closed", "ended", "mark", "line", "outside", "opener", "inside", "kind"]) (k := 1) (K 76 _ rfl) rfl ⟨75, _, _, _, rfl, K 75 _ rfl, rfl, rfl⟩
    (ss_cons (x_own 1 (x_listF ses_nil)) (ss_cons (s1_assign (x_name 2) (x_str [])) (ss_cons (s1_assign (x_name 3) (SEF.se (x_methF (get_str F.slot_str_split F.type_str_split) con_split (x_var 0) (ses_cons (x_str [93]) ses_nil)))) (ss_cons (s1_for (si_enum (x_var 3) h_enumerate) (sa_tup (.cons (by rfl) (ne_of_beqf (by rfl)) (.cons (by rfl) (ne_of_beqf (by rfl)) .nil))) (ss_cons (s1_assign (x_name 6) (se_cmp cmp_lt (se_bin bin_add (x_var 4) se_int) (x_call (k := 0) con_len h_len (.inr (by intro a e; cases e)) (ses_cons (x_var 3) ses_nil)))) (ss_cons (s1_assign (sa_tup (.cons (by rfl) (ne_of_beqf (by rfl)) (.cons (by rfl) (ne_of_beqf (by rfl)) (.cons (by rfl) (ne_of_beqf (by rfl)) .nil)))) (se_ifexp (st_plain (x_var 6)) (x_meth (get_str F.slot_str_rpartition F.type_str_rpartition) con_rpart (x_var 5) (ses_cons (x_str [10]) ses_nil)) (se_tup (ses_cons (x_str []) (ses_cons (x_str []) (ses_cons (x_var 5) ses_nil)))))) (ss_cons (s1_assign (sa_tup (.cons (by rfl) (ne_of_beqf (by rfl)) (.cons (by rfl) (ne_of_beqf (by rfl)) (.cons (by rfl) (ne_of_beqf (by rfl)) .nil)))) (x_meth (get_str F.slot_str_partition F.type_str_partition) con_part (x_var 9) (ses_cons (x_str [91]) ses_nil))) (ss_cons (x_aug 2 aug_add (x_call c_law_mark hm_law_mark hk_law_mark (ses_cons (x_str [114, 117, 110]) (ses_cons (se_bin bin_add (se_repl [91] [] (se_bin bin_add (x_var 7) (x_var 8))) (x_var 10)) ses_nil)))) (ss_cons (s1_if (st_plain (x_var 11)) (ss_cons (s1_if (st_plain (x_var 2)) (ss_cons (s1_append 1 (se_tup (ses_cons (x_str [114, 117, 110]) (ses_cons (x_var 2) ses_nil)))) (ss_cons (s1_assign (x_name 2) (x_str [])) ss_nil)) ss_nil) (ss_cons (s1_assign (x_name 13) (se_ifexp (st_plain (x_var 6)) (x_str [115, 101, 116]) (x_str [111, 112, 101, 110]))) (ss_cons (s1_append 1 (se_tup (ses_cons (x_var 13) (ses_cons (x_call c_law_mark hm_law_mark hk_law_mark (ses_cons (x_var 13) (ses_cons (se_bin bin_add (se_bin bin_add (x_var 11) (x_var 12)) (se_bin bin_mul (x_str [93]) (x_var 6))) ses_nil))) ses_nil)))) ss_nil))) (ss_cons (s1_if (st_plain (x_var 6)) (ss_cons (x_aug 2 aug_add (x_str [93, 114])) ss_nil) ss_nil) ss_nil)) ss_nil)))))) (ss_cons (s1_if (st_plain (x_var 2)) (ss_cons (s1_append 1 (se_tup (ses_cons (x_str [114, 117, 110]) (ses_cons (x_var 2) ses_nil)))) ss_nil) ss_nil) (ss_freeze (ss_cons (s1_return (x_var 1)) ss_nil)))))))
    (fun vs hv => by match vs, hv with | [v0], _ => rfl)
  have hklaw : KeepOk (.ref 81) cx.h₁ := .inl ⟨_, _, _, rfl, K 81 _ rfl, rfl⟩
  have hmlaw : (cx.mg "law").or (cx.mb "law") = some (.ref 81) := by rw [show cx.mg "law" = some (.ref 81) from (hmg _).trans (by rfl)]; rfl
  have claw : Con cx 3 (.ref 81) (runF 1 5 plaw) := con_def (xs := ["script"]) (rest := ["text", "asked", "wanted", "made", "bare"]) (k := 2) (K 81 _ rfl) rfl ⟨80, _, _, _, rfl, K 80 _ rfl, rfl, rfl⟩
    (ss_cons (s1_assign (x_name 1) (x_meth (get_str F.slot_str_join F.type_str_join) con_join (x_str []) (ses_cons (SEF.se (x_comp ["number"] x_cs (si_list (x_var 0)) (x_lname 6) ts_nil (x_call c_law_sign hm_law_sign hk_law_sign (ses_cons (x_var 6) ses_nil)))) ses_nil))) (ss_cons (s1_for (si_tup (se_tup (ses_cons (x_var 1) (ses_cons (se_bin bin_add (se_bin bin_add (x_str [97, 91, 10, 98, 91, 99]) (x_var 1)) (x_str [93, 100, 91, 101])) ses_nil)))) (x_name 2) (ss_cons (s1_assign (x_name 3) (x_call c_law_by_parts hm_law_by_parts hk_law_by_parts (ses_cons (x_var 2) ses_nil))) (ss_cons (s1_assign (x_name 4) (x_meth (get_str F.slot_str_join F.type_str_join) con_join (x_str []) (ses_cons (SEF.se (x_comp ["kind", "piece"] x_cs (si_list (x_call c_law_read hm_law_read hk_law_read (ses_cons (x_var 2) ses_nil))) (sal_tup (.cons (by rfl) (by rfl) (.cons (by rfl) (by rfl) .nil))) ts_nil (x_call c_law_mark hm_law_mark hk_law_mark (ses_cons (x_var 6) (ses_cons (x_var 7) ses_nil))))) ses_nil))) (ss_cons (s1_if (st_cmp cmp_ne (x_var 4) (x_meth (get_str F.slot_str_join F.type_str_join) con_join (x_str []) (ses_cons (SEF.se (x_comp ["_", "piece"] x_cs (si_list (x_var 3)) (sal_tup (.cons (by rfl) (by rfl) (.cons (by rfl) (by rfl) .nil))) ts_nil (x_var 7))) ses_nil))) (ss_cons (s1_return se_bool) ss_nil) ss_nil) (ss_cons (s1_if (st_cmp cmp_ne (x_call c_law_read hm_law_read hk_law_read (ses_cons (x_var 4) ses_nil)) (x_var 3)) (ss_cons (s1_return se_bool) ss_nil) ss_nil) (ss_cons (x_used ["kind", "piece"] 5  x_cs (si_list (x_var 3)) (sal_tup (.cons (by rfl) (by rfl) (.cons (by rfl) (by rfl) .nil))) ts_nil (se_tup (ses_cons (x_var 6) (ses_cons (x_call c_law_unmark hm_law_unmark hk_law_unmark (ses_cons (x_var 6) (ses_cons (x_var 7) ses_nil))) ses_nil)))) (ss_cons (s1_if (st_cmp cmp_ne (x_call c_law_read hm_law_read hk_law_read (ses_cons (x_meth (get_str F.slot_str_join F.type_str_join) con_join (x_str []) (ses_cons (SEF.se (x_comp ["_", "piece"] x_cs (si_list (x_var 5)) (sal_tup (.cons (by rfl) (by rfl) (.cons (by rfl) (by rfl) .nil))) ts_nil (x_var 7))) ses_nil)) ses_nil)) (x_var 5)) (ss_cons (s1_return se_bool) ss_nil) ss_nil) ss_nil))))))) (ss_cons (s1_return se_bool) ss_nil)))
    (fun vs hv => by match vs, hv with | [v0], _ => rfl)
  have ha : a = 81 := by
    have e := h5.symm.trans ((hmg _).trans (show _ = some (Value.ref 81) from rfl))
    exact Value.ref.inj (Option.some.inj e)
  subst ha
  exact law_end (l := Challenge.rw_dn0312_06) rfl rfl (cx := cx) rfl rfl claw (by decide) pure06 h6 htk p1 p4)
end Mine

end
theorem PySem.Challenge.cw_dn0312_06_holds : PySem.Challenge.rw_dn0312_06.Holds :=
  Mine.foo
