import PyProof.Rows.All
import Wide.All
import OpenK.AllK
import Wide.FinOn
import PySem.Challenge.RW_ae6005_01
set_option Elab.async false
section
open PySem PySem.W PySem.W.X PyProof.Rows
namespace Mine
local macro_rules | `(tactic| k_head) => `(tactic| x_head)
set_option maxRecDepth 100000 in
set_option maxHeartbeats 8000000 in
open_top hd for PySem.Challenge.rw_ae6005_01
end Mine

end
section
open PySem PySem.W PyProof.Rows
set_option maxRecDepth 100000
namespace Mine

def isAsk : Code → Bool
  | .builtin id ⟨[.int 13 0], []⟩ => id == "gc.ask"
  | _ => false

theorem isAsk_eq {c : Code} (h : isAsk c = true) : c = .builtin "gc.ask" ⟨[rawInt 13], []⟩ := by
  unfold isAsk at h
  split at h
  · rw [eq_of_beq h]; rfl
  · cases h

def denA (c : Code) : Sem Fin := match isAsk c with
  | true => ret (.bool false)
  | false => denote table c

def mdl (prog : Program) (w : World) : Model := ⟨denA, prog, w⟩

theorem denA_ne {c : Code} (h : isAsk c = false) : denA c = denote table c := by unfold denA; rw [h]
theorem denA_ask {c : Code} (h : isAsk c = true) : denA c = .pure (.done (.ret (.bool false))) := by unfold denA; rw [h]; rfl

theorem entry_ask : entryFor table "gc.ask" = some Builtin.«gc.ask» := by
  first | exact entryFor_of_fast (by kernel_rfl) | exact entryFor_of_tree (by kernel_rfl)

def lifeAsk : Code := .builtin "lifetime.ask" ⟨[rawInt 13], []⟩

theorem den_entry {id : String} {args : Args} {b : Builtin} (h : entryFor table id = some b) : denote table (.builtin id args) = b args := by
  show (match entryFor table id with | some b => b args | none => unsupported ((withoutEnding? id "#data").getD id)) = b args
  rw [h]

theorem den_ask : denote table (.builtin "gc.ask" ⟨[rawInt 13], []⟩) = .pure (.again lifeAsk) := (den_entry entry_ask).trans rfl

theorem lifeAsk_loud : lifeAsk.quiet = false := by decide +kernel

theorem no_ask {prog : Program} {w : World} {Γ : Ctx} {p : Pos} {c : Code} {s s' : Shared} {e : End} (h : isAsk c = true)
    (x : Runs (model prog w) Γ p ((model prog w).den c) [] s e s') : False := by
  rw [isAsk_eq h] at x
  have x' : Runs (model prog w) Γ p (.pure (.again lifeAsk)) [] s e s' := den_ask ▸ x
  cases x' with
  | again hq _ => rw [lifeAsk_loud] at hq; cases hq

theorem den_same {prog : Program} {w : World} {Γ : Ctx} {p : Pos} {c : Code} {s s' : Shared} {e : End}
    (x : Runs (model prog w) Γ p ((model prog w).den c) [] s e s') : (mdl prog w).den c = (model prog w).den c := by
  cases h : isAsk c with
  | true => exact (no_ask h x).elim
  | false => exact denA_ne h

theorem runs_lift {prog : Program} {w : World} {Γ : Ctx} {p : Pos} {t : Sem Fin} {fs : List Frame} {s s' : Shared} {e : End}
    (x : Runs (model prog w) Γ p t fs s e s') : Runs (mdl prog w) Γ p t fs s e s' := by
  induction x with
  | done => exact .done
  | raise => exact .raise
  | again hq h ih => exact .again hq (by rw [den_same h]; exact ih)
  | rule _ ih => exact .rule ih
  | «at» _ ih => exact .at ih
  | load ho _ ih => exact .load ho ih
  | update ho _ ih => exact .update ho ih
  | loadIfAlive _ ih => exact .loadIfAlive ih
  | point _ ih => exact .point ih
  | alloc _ ih => exact .alloc ih
  | fresh _ ih => exact .fresh ih
  | ask _ ih => exact .ask ih
  | choose hn _ ih => exact .choose hn ih
  | os _ ih => exact .os ih
  | handled _ ih => exact .handled ih
  | genState hg _ ih => exact .genState hg ih
  | stack _ ih => exact .stack ih
  | thread _ ih => exact .thread ih
  | newGen _ ih => exact .newGen ih
  | call h _ ih₁ ih₂ => exact .call (by rw [den_same h]; exact ih₁) ih₂
  | callSusp h ih => exact .callSusp (by rw [den_same h]; exact ih)
  | yield => exact .yield
  | resumeFresh hg h hq _ ih₁ ih₂ => exact .resumeFresh hg (by rw [den_same h]; exact ih₁) hq ih₂
  | resumeSuspended hg _ hq _ ih₁ ih₂ => exact .resumeSuspended hg ih₁ hq ih₂
  | resumeJustStarted hg hv _ ih => exact .resumeJustStarted hg hv ih
  | resumeThrowFresh hg _ ih => exact .resumeThrowFresh hg ih
  | resumeRunning hg _ ih => exact .resumeRunning hg ih
  | resumeFinished hg _ ih => exact .resumeFinished hg ih
  | segRet _ _ ih₁ ih₂ => exact .segRet ih₁ ih₂
  | segGen _ _ ih₁ ih₂ => exact .segGen ih₁ ih₂
  | segSuspOut hs _ ih => exact .segSuspOut hs ih
  | segSuspGen hs _ hq _ ih₁ ih₂ => exact .segSuspGen hs ih₁ hq ih₂

theorem wpCode_lift {prog : Program} {w : World} {Γ : Ctx} {R : Result → Shared → Prop} {p : Pos} {s : Shared}
    (h : wpCode (model prog w) Γ R p s) : wpCode (mdl prog w) Γ R p s := by
  obtain ⟨r, s', hr, hR⟩ := h
  refine ⟨r, s', ?_, hR⟩
  unfold Returns at hr ⊢
  rw [den_same hr]; exact runs_lift hr

theorem wakes_lift {prog : Program} {w : World} {Γ : Ctx} {p : Pos} {g : Nat} {r : Resume} {s s' : Shared} {res : GenResult}
    (h : Wakes (model prog w) Γ p g r s res s') : Wakes (mdl prog w) Γ p g r s res s' := by
  unfold Wakes at h ⊢
  cases hg : s.gens[g]? with
  | none => rw [hg] at h; exact h
  | some gs =>
    rw [hg] at h
    cases gs with
    | fresh c =>
      cases r with
      | send v =>
        cases v <;> first
          | (obtain ⟨e, s₁, h₁, h₂⟩ := h; exact ⟨e, s₁, by rw [den_same h₁]; exact runs_lift h₁, h₂⟩)
          | exact h
      | throw x => exact h
    | suspended k l c p fs cl => obtain ⟨e, s₁, h₁, h₂⟩ := h; exact ⟨e, s₁, runs_lift h₁, h₂⟩
    | running => exact h
    | finished => exact h

theorem wp_lift {α : Type} {prog : Program} {w : World} {Γ : Ctx} (t : Sem α) {Q : α → Pos → Shared → Prop} {E : Value → Pos → Shared → Prop} :
    ∀ {p : Pos} {s : Shared}, Sem.wp (model prog w) Γ t Q E p s → Sem.wp (mdl prog w) Γ t Q E p s := by
  induction t with
  | pure a => intro p s h; exact h
  | raise e => intro p s h; exact h
  | unsupported | finish | register | yield | fork | await => intro p s h; exact h
  | rule _ k ih | «at» _ k ih | loadIfAlive _ k ih | point _ k ih | alloc _ k ih | fresh k ih | ask k ih | os _ _ k ih | handled _ k ih | newGen _ k ih | stack k ih | thread k ih =>
    intro p s h; exact ih _ h
  | load a _ k ih => intro p s h; obtain ⟨o, ho, h⟩ := h; exact ⟨o, ho, ih _ h⟩
  | genState a k ih => intro p s h; obtain ⟨o, ho, h⟩ := h; exact ⟨o, ho, ih _ h⟩
  | update a _ f k ih => intro p s h; obtain ⟨ho, h⟩ := h; exact ⟨ho, ih _ h⟩
  | choose _ _ k ih => intro p s h; obtain ⟨ho, h⟩ := h; exact ⟨ho, ih _ h⟩
  | call c h g l k ih =>
    intro p s h
    exact wpCode_mono (fun r s' h' => ih r h') (wpCode_lift h)
  | resume g r l k ih => intro p s h; obtain ⟨res, s', hw, h⟩ := h; exact ⟨res, s', wakes_lift hw, ih _ h⟩

/-- what the library's logic proves holds over `mdl` too -/
theorem lift {α : Type} {prog : Program} {w : World} {A : Around} {t : Sem α} {Q : α → Shared → Prop} {E : Value → Shared → Prop} {s : Shared}
    (h : wpAny (model prog w) A t Q E s) : wpAny (mdl prog w) A t Q E s := fun Γ p hΓ => wp_lift t (h Γ p hΓ)

theorem codeLift {prog : Program} {w : World} {A : Around} {c : Code} {R : Result → Shared → Prop} {s : Shared}
    (h : codeAny (model prog w) A c R s) : codeAny (mdl prog w) A c R s := fun Γ p hc hΓ => wpCode_lift (h Γ p hc hΓ)

/-! the machine that runs `denA` and the real one -/
section
variable (prog : Program) (w : World)

theorem step_two (s : Shared) (t : Thread) : step denA prog w s t = step (denote table) prog w s t ∨
    ∃ s₁ c p st, isAsk c = true ∧ step denA prog w s t = .go s₁ ⟨denA c, c, p, st⟩ ∧ step (denote table) prog w s t = .go s₁ ⟨denote table c, c, p, st⟩ := by
  obtain ⟨heap, gens, drawn, toks, os⟩ := s
  obtain ⟨cur, code, pos, stack⟩ := t
  cases cur with
  | pure fin =>
    cases fin with
    | done f => exact .inl rfl
    | again c =>
      cases h : isAsk c with
      | true => exact .inr ⟨_, c, pos, _, h, rfl, rfl⟩
      | false => left; simp only [step, denA_ne h]
  | call c hd g l k =>
    cases h : isAsk c with
    | true => exact .inr ⟨_, c, pos, _, h, rfl, rfl⟩
    | false => left; simp only [step, denA_ne h]
  | resume g r l k =>
    cases hg : gens[g]? with
    | none => left; simp only [step, hg]
    | some gs =>
      cases gs with
      | fresh c =>
        cases r with
        | throw x => left; simp only [step, hg]
        | send v =>
          by_cases hv : v = .none
          · subst hv
            cases h : isAsk c with
            | true => right; exact ⟨⟨heap, gens.setIfInBounds g .running, drawn, toks, os⟩, c, pos, .gen g k l code pos :: stack, h, by simp only [step, hg], by simp only [step, hg]⟩
            | false => left; simp only [step, hg, denA_ne h]
          · left; cases v <;> first | exact absurd rfl hv | simp only [step, hg]
      | suspended => left; simp only [step, hg]
      | running => left; simp only [step, hg]
      | finished => left; simp only [step, hg]
  | _ => exact .inl rfl

theorem watch_no {s : Shared} (hr : s.asleep) : s.watching = false := by
  unfold Shared.watching; rw [hr.1]; rfl

theorem ask_turn {s : Shared} (hr : s.asleep) (c : Code) (p : Pos) (st : List Frame) :
    lifeStep (denote table) prog w [] s ⟨.pure (.again lifeAsk), c, p, st⟩ = .go s ⟨.pure (.done (.ret (.bool false))), c, p, st⟩ := by
  have hw := watch_no hr
  have hs : Thread.special ⟨.pure (.again lifeAsk), c, p, st⟩ = true := by
    have : Thread.atCollectorCode ⟨.pure (.again lifeAsk), c, p, st⟩ = true := by
      show ("lifetime.ask".startsWith "lifetime.") = true
      decide +kernel
    simp [Thread.special, this]
  have hct : collectorTurn? w.params [] s ⟨.pure (.again lifeAsk), c, p, st⟩ = some (s, ⟨.pure (.done (.ret (.bool false))), c, p, st⟩) := by
    show some (if (!s.heap.life.gcEnabled || s.heap.life.thresholds.head? == some 0 || s.heap.life.collecting || !s.watching) = true then _ else _) = _
    rw [hw]; simp; rfl
  unfold lifeStep
  rw [if_pos hs, hct]
  simp [hr.2, lifeAsk]

theorem sstep_ask {s : Shared} (hr : s.asleep) (c : Code) (p : Pos) (st : List Frame) :
    sstep (denote table) prog w (.single s ⟨.pure (.again lifeAsk), c, p, st⟩) = .go (.single s ⟨.pure (.done (.ret (.bool false))), c, p, st⟩) := by
  have h1 : (Config.single s ⟨.pure (.again lifeAsk), c, p, st⟩).collect? w.params = none := by
    simp [Config.collect?, Config.single, (nothing_to_collect _ _ _ s _ hr.1).1]
  have h2 : (Config.single s ⟨.pure (.again lifeAsk), c, p, st⟩).collectable = [] := by
    simp [Config.collectable, Config.single, (nothing_to_collect w.params _ _ s _ hr.1).2]
  have hm : (Config.single s ⟨.pure (.again lifeAsk), c, p, st⟩).moves w.params.profile = [.run 0] := by
    simp [Config.moves, Config.single, movesFrom, Thread.moves]
  have hp : (Config.single s ⟨.pure (.again lifeAsk), c, p, st⟩).pick w = .ok (.run 0, .single s ⟨.pure (.again lifeAsk), c, p, st⟩) := by
    simp only [Config.pick, h1, h2, Config.pickThread, hm]
    cases w.params.lifetimes <;> simp
  have hf : Thread.finalizes ⟨.pure (.again lifeAsk), c, p, st⟩ = false := rfl
  simp only [sstep, hp, Config.move]
  simp only [Config.run, Config.single, entering_same]
  simp [others_single, hf, ask_turn prog w hr]

theorem halt_same {s : Shared} {t : Thread} {o : Outcome} {s' : Shared} (h : step denA prog w s t = .halt o s') : step (denote table) prog w s t = .halt o s' := by
  rcases step_two prog w s t with e | ⟨_, _, _, _, _, e, _⟩
  · rw [← e]; exact h
  · rw [e] at h; cases h

theorem sched_real : ∀ (n : Nat) {s : Shared} {t : Thread} {o : Outcome} {s' : Shared}, s.asleep → o.ends = true →
    runN denA prog w n s t = .halted o s' → (∀ k s₁ t₁, runN denA prog w k s t = .running s₁ t₁ → t₁.calm = true) →
    ∃ m, schedN (denote table) prog w m (.single s t) = .halted o s'
  | 0, _, _, _, _, _, _, h, _ => by cases h
  | n + 1, s, t, o, s', hr, ho, h, hc => by
    have hcalm : t.calm = true := hc 0 s t rfl
    cases hs : step denA prog w s t with
    | halt o₂ s₂ =>
      simp only [runN, hs] at h
      injection h with h1 h2; subst h1; subst h2
      have e := halt_same prog w hs
      rcases sstep_single (denote table) prog w s t hcalm hr with e' | e'
      · exact ⟨1, by simp only [schedN, e', e, Step.lift]⟩
      · rw [e] at e'; injection e' with q _; subst q; exact absurd ho (by simp [Outcome.ends])
    | go s₁ t₁ =>
      simp only [runN, hs] at h
      have hr₁ : s₁.asleep := Shared.asleep_of_life (step_life denA prog w s s₁ t t₁ hs) hr
      obtain ⟨m, hm⟩ := sched_real n hr₁ ho h fun k s₂ t₂ hk => hc (k + 1) s₂ t₂ (by simp only [runN, hs]; exact hk)
      rcases step_two prog w s t with e | ⟨s₂, c, p, st, ha, e1, e2⟩
      · rw [hs] at e
        rcases sstep_single (denote table) prog w s t hcalm hr with e' | e'
        · exact ⟨m + 1, by simp only [schedN, e', ← e, Step.lift]; exact hm⟩
        · rw [e'] at e; cases e
      · rw [hs] at e1
        injection e1 with q1 q2; subst q1; subst q2
        rw [denA_ask ha] at hm
        rw [isAsk_eq ha, den_ask] at e2
        rw [isAsk_eq ha] at hm
        rcases sstep_single (denote table) prog w s t hcalm hr with e' | e'
        · exact ⟨m + 2, by simp only [schedN, e', e2, Step.lift, sstep_ask prog w hr₁]; exact hm⟩
        · rw [e'] at e2; cases e2

theorem thread_ends {t : Sem Fin} {s : Shared} {R : Result → Shared → Prop} (hreg : s.asleep)
    (h : wpAny (mdl prog w) callerA t (fun fin s' => ∃ f, fin = .done f ∧ (R (.ok f) s' ∧ leftWithCleanup s'.gens = false)) (fun e s' => R (.error e) s' ∧ leftWithCleanup s'.gens = false) s) :
    ∃ n r s' s'', schedN (denote table) prog w n (.single s ⟨t, .builtin "claim.caller" {}, default, []⟩) = .halted (outcomeOf r) s' ∧
      s'.heap.life = s.heap.life ∧ s'.forget = s''.forget ∧ R r s'' := by
  have hw := wp_of_wpAny_done (R := fun r s' => R r s' ∧ leftWithCleanup s'.gens = false) caller_in h default
  obtain ⟨n, r, s', hn, hR⟩ := (wp_iff_halts t R default s).mp hw
  obtain ⟨s'', hrun, hf, hc⟩ := runNI_real denA prog w hn (outcomeOf_ends r)
  obtain ⟨m, hm⟩ := sched_real prog w n hreg (outcomeOf_ends r) hrun hc
  exact ⟨m, r, s'', s', hm, runN_life _ _ _ hrun, hf, hR⟩
end
end Mine

end
section
open PySem PySem.W PySem.Calls PyProof.Rows
set_option maxRecDepth 100000
namespace Mine

abbrev law₀ : OpenLaw := PySem.Challenge.rw_ae6005_01
abbrev prog₀ : Program := PySem.Challenge.pw_ae6005_01
noncomputable abbrev view₀ : Program := Mine.hd.view_39
noncomputable abbrev K₀ : Params → Frag := Mine.hd.heap_39
abbrev loose₀ : List Str := [Str.ofString "ProtocolError", Str.ofString "validate", Str.ofString "header_field_re", Str.ofString "obs_fold_re", Str.ofString "_law_lines"]
abbrev addrs₀ : List Addr := [0, 1, 2, 3, 4, 5, 6, 7, 8, 9, 10, 11, 12, 13, 14, 15, 32, 33, 34, 35, 36, 37, 38, 39, 42, 47, 48, 49, 50, 51, 52, 53, 54, 55, 56, 57, 58, 59, 62, 69, 70, 71, 72, 73, 74, 75, 76, 77, 78, 81, 82, 83, 84, 85, 86, 87, 88, 90, 91, 92, 93, 97, 98, 99, 100, 101, 102, 103, 104, 105, 106, 107, 108, 109, 110, 111, 112, 113, 114, 115, 116, 117, 118, 119, 120, 121, 122, 123, 124, 125, 126, 127, 128, 129, 130, 131, 132, 133, 134, 135, 136, 137, 138, 139, 140, 141, 142]

noncomputable abbrev hook₀ : Hook := kHook K₀ addrs₀ (fun _ => by kernel_rfl)

theorem left₀ : LeftO law₀.row.prog view₀ loose₀ (fun s => xlAt view₀ [] s && recOk law₀.row.records s) (Hook.obs hook₀) (Hook.val hook₀) 2282 :=
  LeftO.of_split "special-get-raises" Mine.hd._proof_42

/-- the law's call, over `mdl` -/
def CallA (r : RowW) (q : Program) (loose : List Str) (XP : (Str → Option Value) → Heap → Prop) (YP : World → Heap → Prop) : Prop :=
  ∀ (w : World) (s₀ s₁ : Shared) (mg mb : Str → Option Value), Ground q loose r.records XP w s₀ mg mb s₁.heap → YP w s₁.heap →
    ∀ (args : List WData) (vs : List Value) (as : List Addr), r.claim.pre args = true → WData.layableAll args = true → Laid r.records w s₀ s₁ args vs as → sysModules < s₀.heap.objs.size →
      ∃ f, mg r.name = some f ∧ wpAny (mdl r.prog w) callerA (PySem.call f vs) (fun v s' => GoodWG r.claim (classAt s₀.heap) (ExcName.means s₀.heap) args s₁ (.ok (.ret v)) s')
        (fun e s' => GoodWG r.claim (classAt s₀.heap) (ExcName.means s₀.heap) args s₁ (.error e) s') s₁

theorem callFromA {c : ClaimW} {tree : List Value → Sem Fin} {w : World} {s : Shared} {free : Addr → Prop} {gens : Prop} {kept : Heap → Prop} (hz : s.asleep) (hgens : s.gens = #[])
    (hspec : ∀ args, c.pre args = true → WData.layableAll args = true → ∀ ord : List DictEntry → List DictEntry, (∀ l, (ord l).Perm l) →
      ∃ vs s₁, layAllW c.records (classAt s.heap) w.params ord args s = some (vs, s₁) ∧
        wpAny (mdl c.prog w) callerA (tree vs) (fun fin s' => ∃ f, fin = .done f ∧ (c.Ends s args vs s₁ (.ok f) s' ∧ s'.os = s.os ∧ AllBare s'.gens ∧ kept s'.heap))
          (fun e s' => c.Ends s args vs s₁ (.error e) s' ∧ s'.os = s.os ∧ AllBare s'.gens ∧ kept s'.heap) s₁) :
    c.CallFrom (fun vs => ⟨tree vs, .builtin "claim.caller" {}, default, []⟩) w free gens kept s := by
  intro args hpre hlay ord hord
  obtain ⟨vs, s₁, hlaid, hcode⟩ := hspec args hpre hlay ord hord
  have hal := layAllW_rest _ _ _ hlaid
  obtain ⟨k, r, s', s'', hsched, hlf, hfo, hcase, hos, hkp⟩ := thread_ends c.prog w (t := tree vs) (s := s₁) (R := fun r s' => c.Ends s args vs s₁ r s' ∧ s'.os = s.os ∧ kept s'.heap)
    (Shared.asleep_of_life hal.2.2.2 hz)
    (wpAny_mono hcode (fun fin s' ⟨f, e, h1, h2, h3, h4⟩ => ⟨f, e, ⟨h1, h2, h4⟩, leftWithCleanup_false_of_bare h3⟩)
      fun e s' ⟨h1, h2, h3, h4⟩ => ⟨⟨h1, h2, h4⟩, leftWithCleanup_false_of_bare h3⟩)
  obtain ⟨eh, _, _, eo, _⟩ := Shared.forget_eq hfo
  have hcase := hcase.congr eh
  have hkp : kept s'.heap := by rw [eh]; exact hkp
  have hos' : s'.os = s.os := by rw [eo]; exact hos
  refine ⟨vs, s₁, hlaid, k, _, s', hsched, ?_, fun _ i x hx => by rw [hgens] at hx; simp at hx, hkp, by rw [hlf, hal.2.2.2], Shared.rest_eq hos'⟩
  rcases hcase with ⟨v, rfl, d1, d2, d3, d4, d5⟩ | ⟨e, ob, cls, rfl, d1, d2, d3, d4, d5⟩
  · exact .inl ⟨v, rfl, d1, d2, d3, fun b o y _ => d4 b o y, d5⟩
  · exact .inr ⟨e, ob, cls, rfl, d1, d2, d3, d4, fun b o y _ => d5 b o y⟩

theorem holdsA {r : OpenRow} {q : Program} {loose : List Str} {Xt : Shared → Bool} {XP : (Str → Option Value) → Heap → Prop} {α : Type} {Yf : Shared → α} {Ya : World → α} {YP : World → Heap → Prop} {d : DefRec} {kwd : List (Str × Expr)} {N : Nat}
    (left : LeftO r.prog q loose Xt Yf Ya N) (hY : ∀ w s, Yf s = Ya w → YP w s.heap) (hYk : ∀ w h h', YP w h → (∀ b o, h.get? b = some o → h'.get? b = some o) → YP w h')
    (hX : ∀ s, Xt s = true → XP (s.heap.nsMap mainGlobals) s.heap) (hXk : ∀ mg h h', XP mg h → (∀ b o, h.get? b = some o → h'.get? b = some o) → XP mg h')
    (hdef : defOf q r.name = some (d, kwd)) (hp : r.prog.theDef r.name = some (d.params, d.body, d.scope)) (hk : kwWritten? d.params.kwonlyargs d.params.kw_defaults = some kwd)
    (hRf : ∀ s, Xt s = true → RecFacts r.records s.heap) (hwr : (!r.writes || r.records.isEmpty) = true)
    (k1 : r.wellSaid = true) (ok : (chainsOk q && opensWell r.prog && (frees r.toRowW && r.within.isEmpty)) = true) (hb : r.prog.bare) (hw : r.toRowW.promised)
    (call : CallA r.toRowW q loose XP YP) : r.Holds := by
  obtain ⟨ok, k5⟩ := Bool.and_eq_true_iff.mp ok
  obtain ⟨hch, o1⟩ := Bool.and_eq_true_iff.mp ok
  obtain ⟨k5, k6⟩ := Bool.and_eq_true_iff.mp k5
  obtain ⟨hsame, hu, ha, hap, hm⟩ := frees_parts k5
  have hi := ident_freeW hu ha hap
  have hwi : r.toRowW.claim.within = [] := List.isEmpty_iff.mp k6
  refine ⟨k1, hw, ⟨hb, o1, by show r.toRowW.makers.map _ = []; rw [hm]; rfl⟩, hw.witness, fun w => ⟨(left.behind hX hch w).1, fun s' hs' => ?_⟩⟩
  obtain ⟨s₀, hf, hg0, s, hT, hz, hgens, hg, G00, y⟩ := (left.behind (XP := fun mg h => XP mg h ∧ RecFacts r.records h) (fun s hs => ⟨hX s hs, hRf s hs⟩) hch w).2 s' hs'
  have G0 : Ground q loose [] XP w s (s.heap.nsMap mainGlobals) (s.heap.nsMap builtinsNs) s.heap := ⟨G00.T, G00.B, G00.D, G00.TE, G00.TD, G00.W, G00.X.1, G00.cls, G00.has, G00.apart, G00.once, G00.K⟩
  have RF := G00.X.2
  refine ⟨s₀, hf, hg0, s, hT, fun n hn => ?_, RF.1, RF.2.1, ?_⟩
  · obtain rfl : n = r.name := by split at hn <;> simp_all
    exact pinned_of_view hg G0 hdef hp hk
  have hgens : s.gens = #[] := Array.eq_empty_of_size_eq_zero (beq_iff_eq.mp hgens)
  have G : Ground q loose r.records XP w s _ _ s.heap := RF.ground G0
  refine callFromA (c := r.toRowW.claim) hz hgens fun args hpre hlay ord hord => ?_
  obtain ⟨⟨vs, s₁⟩, hlaid⟩ := Option.isSome_iff_exists.mp (layAllW_isSome (P := w.params) (ord := ord) G.has args r.args s (pre_splitW (r := r.toRowW) hpre).1)
  have keeps := layAllW_keeps _ _ _ hlaid
  have hal := layAllW_rest _ _ _ hlaid
  obtain ⟨as, hrd, hin, hold⟩ := reads_layAllW hord _ _ _ hlaid hlay s₁.heap (fun _ _ e => e)
  have L : Laid r.records w s s₁ args vs as := ⟨⟨ord, hord, hlaid⟩, hrd, hin, hold, keeps, hal.1.trans hgens, hal.2.2.1⟩
  have G₁ := G.keeps hXk keeps
  obtain ⟨f, hf, h⟩ := call w s s₁ _ _ G₁ (hYk _ _ _ (hY w s y) keeps) args vs as hpre hlay L G.low
  refine ⟨vs, s₁, hlaid, ?_⟩
  have fin : ∀ res s', GoodWG r.toRowW.claim (classAt s.heap) (ExcName.means s.heap) args s₁ res s' →
      r.toRowW.claim.Ends s args vs s₁ res s' ∧ s'.os = s.os ∧ AllBare s'.gens ∧ (r.writes = true → namesKept r.prog r.keeps s.heap s'.heap ∧ ∀ x ∈ r.records, ∀ a, classAt s.heap x.1 = some a → recordClass s'.heap a x.1 (x.2.map (·.1)) = true) := fun res s' g =>
    have z := g.laid (c := r.toRowW.claim) hsame hwi hi L
    ⟨z.1, z.2.1, z.2.2, fun q => ⟨namesKept_of hT hg _ keeps g.2.1.old, noTable hwr q⟩⟩
  show wpAny _ _ (nsGet mainNs r.name >>= fun x => match x with | some f => (do ret (← PySem.call f vs)) | none => unsupported "claim.caller:no-such-global") _ _ _
  refine wpAny_bind (wpAny_nsGet G₁.T.g ?_)
  rw [hf]
  exact wpAny_bind (wpAny_mono h (fun v s' g => wpAny_pure ⟨_, rfl, fin _ _ g⟩) fun e s' g => fin _ _ g)

theorem holds₀ (said : law₀.row.wellSaid = true) (hw : law₀.row.toRowW.promised) (call : CallA law₀.row.toRowW view₀ loose₀ (XL view₀ []) (Hook.says hook₀)) : law₀.row.Holds :=
  holdsA left₀ (Hook.of hook₀) (Hook.keeps hook₀) (fun s e => xl_of s (Bool.and_eq_true_iff.mp e).1) XL.keeps (by rfl) (by rfl) (by rfl) (fun s e => recFacts_of (Bool.and_eq_true_iff.mp e).2) (by rfl)
    said (by decide +kernel) ⟨rfl, rfl, rfl, rfl, rfl, by decide +kernel⟩ hw call
end Mine

end
section
open PySem PySem.W PySem.W.X PySem.Calls PyProof.Rows
set_option maxRecDepth 100000
namespace Mine

/-- the codes that would hold a bytearray, and that the library's logic does not count -/
def dec : Code → Bool
  | .builtin id _ => Builtin.Bytes.decodersThatHold.contains id
  | _ => false
def Clear (l : List (Code × Pos)) : Prop := ∀ x ∈ l, dec x.1 = false
theorem Clear.cons {c : Code} {p : Pos} {l : List (Code × Pos)} (hc : dec c = false) (h : Clear l) : Clear ((c, p) :: l) := fun x hx => by
  rcases List.mem_cons.mp hx with rfl | hx
  · exact hc
  · exact h x hx
theorem Clear.append {l l' : List (Code × Pos)} (h : Clear l) (h' : Clear l') : Clear (l ++ l') := fun x hx => by
  rcases List.mem_append.mp hx with hx | hx
  · exact h x hx
  · exact h' x hx

/-- the library's logic, where no decoder runs -/
def wpG {α : Type} (M : Model) (A : Around) (t : Sem α) (Q : α → Shared → Prop) (E : Value → Shared → Prop) (s : Shared) : Prop :=
  ∀ Γ p, Γ.In A → dec Γ.code = false → Clear Γ.below → Sem.wp M Γ t (fun a _ s' => Q a s') (fun e _ s' => E e s') p s
def codeG (M : Model) (A : Around) (c : Code) (R : Result → Shared → Prop) (s : Shared) : Prop :=
  ∀ Γ p, Γ.code = c → Γ.Below A → Clear Γ.below → wpCode M Γ R p s

section
variable {α β : Type} {M : Model} {A : Around} {E : Value → Shared → Prop} {s : Shared}

theorem toG {t : Sem α} {Q : α → Shared → Prop} (h : wpAny M A t Q E s) : wpG M A t Q E s := fun Γ p hΓ _ _ => h Γ p hΓ
theorem codeToG {c : Code} {R : Result → Shared → Prop} (h : codeAny M A c R s) : codeG M A c R s := fun Γ p hc hΓ _ => h Γ p hc hΓ
theorem gPure {a : α} {Q : α → Shared → Prop} (h : Q a s) : wpG M A (pure a) Q E s := fun _ _ _ _ _ => h
theorem gThrow {e : Value} {Q : α → Shared → Prop} (h : E e s) : wpG M A (throw e : Sem α) Q E s := fun _ _ _ _ _ => h
theorem gMono {t : Sem α} {Q Q' : α → Shared → Prop} {E' : Value → Shared → Prop} (h : wpG M A t Q E s)
    (hQ : ∀ a s, Q a s → Q' a s) (hE : ∀ e s, E e s → E' e s) : wpG M A t Q' E' s :=
  fun Γ p hΓ hc hb => Sem.wp_mono M Γ t (fun a _ s => hQ a s) (fun e _ s => hE e s) p s (h Γ p hΓ hc hb)
theorem gBind {m : Sem α} {f : α → Sem β} {Q : β → Shared → Prop} (h : wpG M A m (fun a s' => wpG M A (f a) Q E s') E s) : wpG M A (m >>= f) Q E s := fun Γ p hΓ hc hb => by
  rw [Sem.wp_bind']
  exact Sem.wp_mono M Γ m (fun a p' s' h' => h' Γ p' hΓ hc hb) (fun _ _ _ h' => h') p s (h Γ p hΓ hc hb)
/-- a step of the library's logic first -/
theorem gThen {m : Sem α} {f : α → Sem β} {Q : β → Shared → Prop} (h : wpAny M A m (fun a s' => wpG M A (f a) Q E s') E s) : wpG M A (m >>= f) Q E s := gBind (toG h)
theorem gTryCatch {m : Sem α} {k : Value → Sem α} {Q : α → Shared → Prop} (h : wpG M A m Q (fun e s' => wpG M A (k e) Q E s') s) :
    wpG M A (tryCatch m k) Q E s := fun Γ p hΓ hc hb => by
  rw [Sem.wp_tryCatch']
  exact Sem.wp_mono M Γ m (fun _ _ _ h' => h') (fun e p' s' h' => h' Γ p' hΓ hc hb) p s (h Γ p hΓ hc hb)
theorem gOnRaise {m : Sem α} {k : Value → Sem Unit} {Q : α → Shared → Prop}
    (h : wpG M A m Q (fun e s' => wpG M A (k e) (fun _ s'' => E e s'') E s') s) : wpG M A (m.onRaise k) Q E s := fun Γ p hΓ hc hb => by
  rw [Sem.wp_onRaise]
  exact Sem.wp_mono M Γ m (fun _ _ _ h' => h') (fun e p' s' h' => h' Γ p' hΓ hc hb) p s (h Γ p hΓ hc hb)
theorem gAttempt {m : Sem α} {Q : Except Value α → Shared → Prop} (h : wpG M A m (fun a => Q (.ok a)) (fun e => Q (.error e)) s) :
    wpG M A m.attempt Q E s := fun Γ p hΓ hc hb => by rw [Sem.wp_attempt]; exact h Γ p hΓ hc hb
theorem gHolding {vs : List Value} {m : Sem α} {Q : α → Shared → Prop} (h : wpG M A m Q E s) : wpG M A (holding vs m) Q E s :=
  fun Γ p hΓ hc hb => by rw [Sem.wp_holding]; exact h Γ p hΓ hc hb
theorem gOfEq {m : Sem α} {a : α} {Q : α → Shared → Prop} (e : m = pure a) (h : Q a s) : wpG M A m Q E s := e ▸ gPure h
theorem gAt {pos : Pos} {Q : Unit → Shared → Prop} (h : Q () s) : wpG M A (standAt pos) Q E s := fun _ _ _ _ _ => h

theorem gUnits {t : Sem α} {Q : α → Shared → Prop} {u : Nat} (h : wpG M A t Q E s) (hu : u ≤ A.units) : wpG M { A with units := u } t Q E s :=
  fun Γ p hΓ hc hb => h Γ p (hΓ.units_le hu) hc hb

theorem gRun {c : Code} {h : Option Value} {Q : Flow → Shared → Prop}
    (hc : codeG M (A.mark h) c (fun r s' => match r with | .ok f => Q f s' | .error e => E e s') s) (hnb : h ≠ some byPass := by intro x; cases x) :
    wpG M A (run c h) Q E s :=
  fun Γ p hΓ hd hb => by rw [Sem.wp_run]; exact hc _ p rfl (hΓ.enter c h p hnb) (hb.cons hd)
theorem gRunValue {c : Code} {Q : Value → Shared → Prop}
    (hc : codeG M A c (fun r s' => match r with | .ok (.ret v) => Q v s' | .ok _ => False | .error e => E e s') s) :
    wpG M A (runValue c) Q E s := fun Γ p hΓ hd hb => by rw [Sem.wp_runValue]; exact hc _ p rfl (hΓ.enter c none p (by intro x; cases x)) (hb.cons hd)
theorem gCall {f : Value} {pos : List Value} {kw : List (Str × Value)} {Q : Value → Shared → Prop}
    (hc : codeG M A (.call f ⟨pos, kw⟩) (fun r s' => match r with | .ok (.ret v) => Q v s' | .ok _ => False | .error e => E e s') s) :
    wpG M A (call f pos kw) Q E s := gRunValue hc
theorem gRunOwn {c : Code} {env : Env} {h : Option Value} {Q : Flow → Shared → Prop}
    (hc : codeG M (A.mark h) c (fun r s' => match r with | .ok f => Q f s' | .error e => cameBackBy M A env E e s') s) (hnb : h ≠ some byPass := by intro x; cases x) :
    wpG M A (runOwn c env h) Q E s := by
  unfold runOwn
  refine gOnRaise (gMono (gRun hc hnb) (fun _ _ x => x) fun _ _ x => toG x)

theorem codeG_mono {c : Code} {R R' : Result → Shared → Prop} (h : codeG M A c R s) (hR : ∀ r s, R r s → R' r s) : codeG M A c R' s :=
  fun Γ p hc hΓ hb => wpCode_mono hR (h Γ p hc hΓ hb)
theorem codeG_tree {c : Code} {R : Result → Shared → Prop} (hd : dec c = false)
    (h : wpG M (A.under c) (M.den c) (fun fin s' => match fin with | .done f => R (.ok f) s' | .again c' => c'.quiet = true ∧ codeG M A c' R s')
      (fun e s' => R (.error e) s') s) : codeG M A c R s := fun Γ p hc hΓ hb => by
  rw [wpCode_iff_wp, hc]
  refine Sem.wp_mono M Γ _ (fun fin p' s' h' => ?_) (fun _ _ _ h' => h') p s (h Γ p (hc ▸ hΓ.in) (hc ▸ hd) hb)
  cases fin with
  | done f => exact h'
  | again c' => exact ⟨h'.1, h'.2 (Γ.goto c') p' rfl (hΓ.goto c') hb⟩
theorem codeG_loop {c : Code} {R : Result → Shared → Prop} (hq : c.quiet = true) (hd : dec c = false) (I : Nat → Shared → Prop)
    (turn : ∀ n s, I n s → wpG M (A.under c) (M.den c)
      (fun fin s' => match fin with
        | .done f => R (.ok f) s'
        | .again c' => (c' = c ∧ ∃ m, m < n ∧ I m s') ∨ (c'.quiet = true ∧ codeG M A c' R s')) (fun e s' => R (.error e) s') s)
    (n : Nat) (h : I n s) : codeG M A c R s := by
  induction n using Nat.strongRecOn generalizing s with
  | ind n ih =>
    refine codeG_tree hd (gMono (turn n s h) (fun fin s' hf => ?_) fun _ _ h' => h')
    cases fin with
    | done f => exact hf
    | again c' =>
      rcases hf with ⟨rfl, m, hm, hI⟩ | hf
      · exact ⟨hq, ih m hm hI⟩
      · exact hf

/-- no code on the way holds the bytearray -/
theorem gExported {v : Value} {Q : Bool → Shared → Prop} (hg : A.guards = some []) (h : Q false s) : wpG M A (Builtin.Bytes.exported v) Q E s := fun Γ p hΓ hc hb => by
  unfold Builtin.Bytes.exported stack
  show Sem.wp M Γ (.stack fun st => _) _ _ p s
  rw [Sem.wp_stack]
  have hall : ∀ x ∈ ((Γ.code, p) :: Γ.below), dec x.1 = false ∧ x.1.isGuard = false := fun x hx => by
    refine ⟨(hb.cons hc) x hx, ?_⟩
    have hgs := hΓ.2.2.2.1 [] hg
    rw [← guardsOf_cons Γ.code p] at hgs
    cases hq : x.1.isGuard with
    | false => rfl
    | true =>
      have : x.1 ∈ guardsOf ((Γ.code, p) :: Γ.below) := List.mem_filter.mpr ⟨List.mem_map.mpr ⟨x, hx, rfl⟩, hq⟩
      rw [hgs] at this; cases this
  show Q (List.any _ _) s
  refine (congrArg (fun b => Q b s) (?_ : List.any _ _ = false)).mpr h
  rw [List.any_eq_false]
  intro x hx
  obtain ⟨h1, h2⟩ := hall x hx
  obtain ⟨c, p'⟩ := x
  simp only at h1 h2
  split
  all_goals first
    | exact Bool.false_ne_true
    | (rename_i heq; cases heq; exfalso; revert h2; simp [Code.isGuard, guardIds]; done)
    | (rename_i heq; cases heq; simp only [dec] at h1; rw [h1, Bool.and_false]; exact Bool.false_ne_true)
end
end Mine

end
section
open PySem PySem.W PySem.Calls PyProof.Rows
set_option maxRecDepth 100000
namespace Mine

theorem thread_endsG (prog : Program) (w : World) {t : Sem Fin} {s : Shared} {R : Result → Shared → Prop} (hreg : s.asleep)
    (h : wpG (mdl prog w) callerA t (fun fin s' => ∃ f, fin = .done f ∧ (R (.ok f) s' ∧ leftWithCleanup s'.gens = false)) (fun e s' => R (.error e) s' ∧ leftWithCleanup s'.gens = false) s) :
    ∃ n r s' s'', schedN (denote table) prog w n (.single s ⟨t, .builtin "claim.caller" {}, default, []⟩) = .halted (outcomeOf r) s' ∧
      s'.heap.life = s.heap.life ∧ s'.forget = s''.forget ∧ R r s'' := by
  have h₀ := h _ default caller_in (by decide +kernel) (fun x hx => nomatch hx)
  have hw : Sem.wp (mdl prog w) ⟨.builtin "claim.caller" {}, none, none, [], none⟩ t (Sem.finPost (mdl prog w) ⟨.builtin "claim.caller" {}, none, none, [], none⟩ fun r s' => R r s' ∧ leftWithCleanup s'.gens = false)
      (fun e _ s' => R (.error e) s' ∧ leftWithCleanup s'.gens = false) default s := by
    refine Sem.wp_mono _ _ t (fun fin p' s' h' => ?_) (fun _ _ _ h' => h') default s h₀
    obtain ⟨f, rfl, hf⟩ := h'
    exact hf
  obtain ⟨n, r, s', hn, hR⟩ := (wp_iff_halts t R default s).mp hw
  obtain ⟨s'', hrun, hf, hc⟩ := runNI_real denA prog w hn (outcomeOf_ends r)
  obtain ⟨m, hm⟩ := sched_real prog w n hreg (outcomeOf_ends r) hrun hc
  exact ⟨m, r, s'', s', hm, runN_life _ _ _ hrun, hf, hR⟩

/-- the law's call, over `mdl` -/
def CallG (r : RowW) (q : Program) (loose : List Str) (XP : (Str → Option Value) → Heap → Prop) (YP : World → Heap → Prop) : Prop :=
  ∀ (w : World) (s₀ s₁ : Shared) (mg mb : Str → Option Value), Ground q loose r.records XP w s₀ mg mb s₁.heap → YP w s₁.heap →
    ∀ (args : List WData) (vs : List Value) (as : List Addr), r.claim.pre args = true → WData.layableAll args = true → Laid r.records w s₀ s₁ args vs as → sysModules < s₀.heap.objs.size →
      ∃ f, mg r.name = some f ∧ wpG (mdl r.prog w) callerA (PySem.call f vs) (fun v s' => GoodWG r.claim (classAt s₀.heap) (ExcName.means s₀.heap) args s₁ (.ok (.ret v)) s')
        (fun e s' => GoodWG r.claim (classAt s₀.heap) (ExcName.means s₀.heap) args s₁ (.error e) s') s₁

theorem callFromG {c : ClaimW} {tree : List Value → Sem Fin} {w : World} {s : Shared} {free : Addr → Prop} {gens : Prop} {kept : Heap → Prop} (hz : s.asleep) (hgens : s.gens = #[])
    (hspec : ∀ args, c.pre args = true → WData.layableAll args = true → ∀ ord : List DictEntry → List DictEntry, (∀ l, (ord l).Perm l) →
      ∃ vs s₁, layAllW c.records (classAt s.heap) w.params ord args s = some (vs, s₁) ∧
        wpG (mdl c.prog w) callerA (tree vs) (fun fin s' => ∃ f, fin = .done f ∧ (c.Ends s args vs s₁ (.ok f) s' ∧ s'.os = s.os ∧ AllBare s'.gens ∧ kept s'.heap))
          (fun e s' => c.Ends s args vs s₁ (.error e) s' ∧ s'.os = s.os ∧ AllBare s'.gens ∧ kept s'.heap) s₁) :
    c.CallFrom (fun vs => ⟨tree vs, .builtin "claim.caller" {}, default, []⟩) w free gens kept s := by
  intro args hpre hlay ord hord
  obtain ⟨vs, s₁, hlaid, hcode⟩ := hspec args hpre hlay ord hord
  have hal := layAllW_rest _ _ _ hlaid
  obtain ⟨k, r, s', s'', hsched, hlf, hfo, hcase, hos, hkp⟩ := thread_endsG c.prog w (t := tree vs) (s := s₁) (R := fun r s' => c.Ends s args vs s₁ r s' ∧ s'.os = s.os ∧ kept s'.heap)
    (Shared.asleep_of_life hal.2.2.2 hz)
    (gMono hcode (fun fin s' ⟨f, e, h1, h2, h3, h4⟩ => ⟨f, e, ⟨h1, h2, h4⟩, leftWithCleanup_false_of_bare h3⟩)
      fun e s' ⟨h1, h2, h3, h4⟩ => ⟨⟨h1, h2, h4⟩, leftWithCleanup_false_of_bare h3⟩)
  obtain ⟨eh, _, _, eo, _⟩ := Shared.forget_eq hfo
  have hcase := hcase.congr eh
  have hkp : kept s'.heap := by rw [eh]; exact hkp
  have hos' : s'.os = s.os := by rw [eo]; exact hos
  refine ⟨vs, s₁, hlaid, k, _, s', hsched, ?_, fun _ i x hx => by rw [hgens] at hx; simp at hx, hkp, by rw [hlf, hal.2.2.2], Shared.rest_eq hos'⟩
  rcases hcase with ⟨v, rfl, d1, d2, d3, d4, d5⟩ | ⟨e, ob, cls, rfl, d1, d2, d3, d4, d5⟩
  · exact .inl ⟨v, rfl, d1, d2, d3, fun b o y _ => d4 b o y, d5⟩
  · exact .inr ⟨e, ob, cls, rfl, d1, d2, d3, d4, fun b o y _ => d5 b o y⟩

theorem holdsG {r : OpenRow} {q : Program} {loose : List Str} {Xt : Shared → Bool} {XP : (Str → Option Value) → Heap → Prop} {α : Type} {Yf : Shared → α} {Ya : World → α} {YP : World → Heap → Prop} {d : DefRec} {kwd : List (Str × Expr)} {N : Nat}
    (left : LeftO r.prog q loose Xt Yf Ya N) (hY : ∀ w s, Yf s = Ya w → YP w s.heap) (hYk : ∀ w h h', YP w h → (∀ b o, h.get? b = some o → h'.get? b = some o) → YP w h')
    (hX : ∀ s, Xt s = true → XP (s.heap.nsMap mainGlobals) s.heap) (hXk : ∀ mg h h', XP mg h → (∀ b o, h.get? b = some o → h'.get? b = some o) → XP mg h')
    (hdef : defOf q r.name = some (d, kwd)) (hp : r.prog.theDef r.name = some (d.params, d.body, d.scope)) (hk : kwWritten? d.params.kwonlyargs d.params.kw_defaults = some kwd)
    (hRf : ∀ s, Xt s = true → RecFacts r.records s.heap) (hwr : (!r.writes || r.records.isEmpty) = true)
    (k1 : r.wellSaid = true) (ok : (chainsOk q && opensWell r.prog && (frees r.toRowW && r.within.isEmpty)) = true) (hb : r.prog.bare) (hw : r.toRowW.promised)
    (call : CallG r.toRowW q loose XP YP) : r.Holds := by
  obtain ⟨ok, k5⟩ := Bool.and_eq_true_iff.mp ok
  obtain ⟨hch, o1⟩ := Bool.and_eq_true_iff.mp ok
  obtain ⟨k5, k6⟩ := Bool.and_eq_true_iff.mp k5
  obtain ⟨hsame, hu, ha, hap, hm⟩ := frees_parts k5
  have hi := ident_freeW hu ha hap
  have hwi : r.toRowW.claim.within = [] := List.isEmpty_iff.mp k6
  refine ⟨k1, hw, ⟨hb, o1, by show r.toRowW.makers.map _ = []; rw [hm]; rfl⟩, hw.witness, fun w => ⟨(left.behind hX hch w).1, fun s' hs' => ?_⟩⟩
  obtain ⟨s₀, hf, hg0, s, hT, hz, hgens, hg, G00, y⟩ := (left.behind (XP := fun mg h => XP mg h ∧ RecFacts r.records h) (fun s hs => ⟨hX s hs, hRf s hs⟩) hch w).2 s' hs'
  have G0 : Ground q loose [] XP w s (s.heap.nsMap mainGlobals) (s.heap.nsMap builtinsNs) s.heap := ⟨G00.T, G00.B, G00.D, G00.TE, G00.TD, G00.W, G00.X.1, G00.cls, G00.has, G00.apart, G00.once, G00.K⟩
  have RF := G00.X.2
  refine ⟨s₀, hf, hg0, s, hT, fun n hn => ?_, RF.1, RF.2.1, ?_⟩
  · obtain rfl : n = r.name := by split at hn <;> simp_all
    exact pinned_of_view hg G0 hdef hp hk
  have hgens : s.gens = #[] := Array.eq_empty_of_size_eq_zero (beq_iff_eq.mp hgens)
  have G : Ground q loose r.records XP w s _ _ s.heap := RF.ground G0
  refine callFromG (c := r.toRowW.claim) hz hgens fun args hpre hlay ord hord => ?_
  obtain ⟨⟨vs, s₁⟩, hlaid⟩ := Option.isSome_iff_exists.mp (layAllW_isSome (P := w.params) (ord := ord) G.has args r.args s (pre_splitW (r := r.toRowW) hpre).1)
  have keeps := layAllW_keeps _ _ _ hlaid
  have hal := layAllW_rest _ _ _ hlaid
  obtain ⟨as, hrd, hin, hold⟩ := reads_layAllW hord _ _ _ hlaid hlay s₁.heap (fun _ _ e => e)
  have L : Laid r.records w s s₁ args vs as := ⟨⟨ord, hord, hlaid⟩, hrd, hin, hold, keeps, hal.1.trans hgens, hal.2.2.1⟩
  have G₁ := G.keeps hXk keeps
  obtain ⟨f, hf, h⟩ := call w s s₁ _ _ G₁ (hYk _ _ _ (hY w s y) keeps) args vs as hpre hlay L G.low
  refine ⟨vs, s₁, hlaid, ?_⟩
  have fin : ∀ res s', GoodWG r.toRowW.claim (classAt s.heap) (ExcName.means s.heap) args s₁ res s' →
      r.toRowW.claim.Ends s args vs s₁ res s' ∧ s'.os = s.os ∧ AllBare s'.gens ∧ (r.writes = true → namesKept r.prog r.keeps s.heap s'.heap ∧ ∀ x ∈ r.records, ∀ a, classAt s.heap x.1 = some a → recordClass s'.heap a x.1 (x.2.map (·.1)) = true) := fun res s' g =>
    have z := g.laid (c := r.toRowW.claim) hsame hwi hi L
    ⟨z.1, z.2.1, z.2.2, fun q => ⟨namesKept_of hT hg _ keeps g.2.1.old, noTable hwr q⟩⟩
  show wpG _ _ (nsGet mainNs r.name >>= fun x => match x with | some f => (do ret (← PySem.call f vs)) | none => unsupported "claim.caller:no-such-global") _ _ _
  refine gThen (wpAny_nsGet G₁.T.g ?_)
  rw [hf]
  exact gBind (gMono h (fun v s' g => gPure ⟨_, rfl, fin _ _ g⟩) fun e s' g => fin _ _ g)

theorem holdsG₀ (said : law₀.row.wellSaid = true) (hw : law₀.row.toRowW.promised) (call : CallG law₀.row.toRowW view₀ loose₀ (XL view₀ []) (Hook.says hook₀)) : law₀.row.Holds :=
  holdsG left₀ (Hook.of hook₀) (Hook.keeps hook₀) (fun s e => xl_of s (Bool.and_eq_true_iff.mp e).1) XL.keeps (by rfl) (by rfl) (by rfl) (fun s e => recFacts_of (Bool.and_eq_true_iff.mp e).2) (by rfl)
    said (by decide +kernel) ⟨rfl, rfl, rfl, rfl, rfl, by decide +kernel⟩ hw call
end Mine

end
section
open PySem PySem.W PySem.Calls PyProof.Rows
set_option maxRecDepth 100000
namespace Mine

section
variable {prog : Program} {w : World} {A : Around} {E : Value → Shared → Prop} {R : Result → Shared → Prop} {s : Shared} {env : Env}

theorem blockA {stmts : List Stmt} (h : wpAny (mdl prog w) A (execs stmts env) (fun f s' => R (.ok f) s') (notedBy (mdl prog w) A env fun e s' => R (.error e) s') s) :
    codeAny (mdl prog w) A (.block stmts env) R s := by
  refine codeAny_of_tree ?_
  show wpAny _ A (do return Fin.done (← (execs stmts env).onRaise (fun x => do noteFrame x env; theTreesLotGoes x))) _ _ s
  exact wpAny_bind (wpAny_noted (wpAny_mono h (fun f s' h' => wpAny_pure h') fun _ _ h' => h'))

theorem funcA {body : List Stmt}
    (h : wpAny (mdl prog w) (A.deeper env) (execs body env) (fun f s' => R (.ok (.ret (match f with | .ret v => v | _ => .none))) s')
      (fun e s' => wpAny (mdl prog w) (A.deeper env) (leaving env e) (fun _ s'' => R (.error e) s'') (fun e' s'' => R (.error e') s'') s') s) :
    codeAny (mdl prog w) A (.func body env) R s := by
  refine codeAny_of_tree ?_
  show wpAny _ (A.deeper env) (do point; match ← (execs body env).onRaise (leaving env) with | .ret v => ret v | _ => ret .none) _ _ s
  refine wpAny_bind (wpAny_point (wpAny_bind (wpAny_onRaise (wpAny_mono h (fun f s' h' => ?_) fun _ _ h' => h'))))
  cases f <;> exact wpAny_pure h'

theorem isAsk_call (f : Value) (args : Args) : isAsk (.call f args) = false := rfl

/-- the call of a plain def, from its object -/
theorem callDefA {a : Addr} {args : Args} {o : Obj} {fd : FuncData} {body : List Stmt} (hroom : A.depth < recursionLimit)
    (ho : s.heap.get? a = some o) (hd : o.data = .func fd) (hco : fd.scope.isCoroutine = false) (hgen : fd.scope.isGenerator = false) (hbody : fd.body = .stmts body) (hcd : s.heap.CodeRec fd.code fd.qualname)
    (h : wpAny (mdl prog w) A.in1 (bindArgs fd args) (fun binds s₁ =>
      wpAny (mdl prog w) A.in1 (newFunctionEnv fd.scope fd.globals fd.closure binds (fd.qualname ++ ".<locals>.") (some a) fd.code none fd.builtins)
        (fun env s₂ => s₂.heap.NoLimit ∧ codeAny (mdl prog w) A (.func body env) R s₂) (fun e s' => R (.error e) s') s₁) (fun e s' => R (.error e) s') s) :
    codeAny (mdl prog w) A (.call (.ref a) args) R s := by
  refine codeAny_of_tree ?_
  show wpAny _ A.in1 (callAny (.ref a) args) _ _ s
  simp only [callAny]
  refine wpAny_bind (wpAny_load ho ?_)
  obtain ⟨c, oc, vs, tq, hc, hoc, hdc, hq⟩ := hcd
  simp only [hd, callFunction, hco, hgen, hbody, hc]
  rw [hc] at h
  refine wpAny_bind (m := field (.ref c) 1) (wpAny_field hoc hdc hq (wpAny_bind (wpAny_pure ?_)))
  exact wpAny_bind (wpAny_mono h (fun binds s₁ h₁ => wpAny_bind (wpAny_mono h₁ (fun env s₂ h₂ => wpAny_bind (wpAny_enterFrame h₂.1 hroom
    (wpAny_pure (And.intro rfl h₂.2)))) fun _ _ h' => h')) fun _ _ h' => h')

/-- the call of a generator def: the object is made -/
theorem callGenA {a : Addr} {args : Args} {o : Obj} {fd : FuncData} {body : List Stmt} (hroom : A.depth < recursionLimit)
    (ho : s.heap.get? a = some o) (hd : o.data = .func fd) (hco : fd.scope.isCoroutine = false) (hgen : fd.scope.isGenerator = true) (hbody : fd.body = .stmts body) (hcd : s.heap.CodeRec fd.code fd.qualname)
    (h : wpAny (mdl prog w) A.in1 (bindArgs fd args) (fun binds s₁ =>
      wpAny (mdl prog w) A.in1 (newFunctionEnv fd.scope fd.globals fd.closure binds (fd.qualname ++ ".<locals>.") (some a) fd.code none fd.builtins)
        (fun env s₂ => s₂.heap.NoLimit ∧ R (.ok (.ret (.ref s₂.heap.objs.size)))
          { s₂ with gens := s₂.gens.push (.fresh (.func body env)), toks := s₂.toks + 1 + 1,
                    heap := s₂.heap.push { cls := .type "generator", data := .fields #[.int s₂.gens.size 0, .str fd.name s₂.toks, .str fd.qualname (s₂.toks + 1)] } })
        (fun e s' => R (.error e) s') s₁) (fun e s' => R (.error e) s') s) :
    codeAny (mdl prog w) A (.call (.ref a) args) R s := by
  refine codeAny_of_tree ?_
  show wpAny _ A.in1 (callAny (.ref a) args) _ _ s
  simp only [callAny]
  refine wpAny_bind (wpAny_load ho ?_)
  obtain ⟨c, oc, vs, tq, hc, hoc, hdc, hq⟩ := hcd
  simp only [hd, callFunction, hco, hgen, hbody, hc]
  rw [hc] at h
  refine wpAny_bind (m := field (.ref c) 1) (wpAny_field hoc hdc hq (wpAny_bind (wpAny_pure ?_)))
  refine wpAny_bind (wpAny_mono h (fun binds s₁ h₁ => wpAny_bind (wpAny_mono h₁ (fun env s₂ h₂ => wpAny_bind (wpAny_enterFrame h₂.1 hroom ?_)) fun _ _ h' => h')) fun _ _ h' => h')
  simp only [newGenerator, newFields]
  exact wpAny_bind (wpAny_bind (wpAny_newGen (wpAny_bind (wpAny_mkText (wpAny_bind (wpAny_mkText (wpAny_newObj_type (wpAny_pure h₂.2) (by size_fits))))))))

theorem forLoopA {target : Expr} {it : Value} {body orelse : List Stmt} (I : Nat → Shared → Prop)
    (turn : ∀ n s, I n s → wpAny (mdl prog w) A (pyNext it) (fun r s₁ => match r with
      | none => wpAny (mdl prog w) A (execs orelse env) (fun f s₃ => R (.ok f) s₃) (notedBy (mdl prog w) A env fun e s' => R (.error e) s') s₁
      | some v => wpAny (mdl prog w) A (assign target env v) (fun _ s₂ => wpAny (mdl prog w) A (execs body env) (fun f s₃ => match f with
          | .next | .cont => ∃ m, m < n ∧ I m s₃
          | .brk => R (.ok .next) s₃
          | .ret v => R (.ok (.ret v)) s₃) (notedBy (mdl prog w) A env fun e s' => R (.error e) s') s₂) (notedBy (mdl prog w) A env fun e s' => R (.error e) s') s₁) (notedBy (mdl prog w) A env fun e s' => R (.error e) s') s)
    (n : Nat) (h : I n s) (ht : ∀ v, letOwnedTupleGo target it v = pure () := by intro _; rfl) : codeAny (mdl prog w) A (.forLoop target it body orelse env) R s := by
  refine codeAny_loop' rfl I (fun n s hI => ?_) n h
  show wpAny _ _ ((forTurn target it body orelse env).onRaise (fun x => do noteFrame x env; theTreesLotGoes x)) _ _ s
  refine wpAny_noted ?_
  simp only [forTurn]
  refine wpAny_bind (wpAny_standAt (wpAny_bind (wpAny_onRaise (wpAny_mono (turn n s hI) (fun r s₁ h₁ => ?_) fun _ _ h' => wpAny_standAt h'))))
  cases r with
  | none => exact wpAny_pure (.inr ⟨rfl, blockA h₁⟩)
  | some v =>
    refine wpAny_bind (wpAny_of_eq (ht v) ?_)
    refine wpAny_bind (wpAny_mono h₁ (fun _ s₂ h₂ => wpAny_bind (wpAny_mono h₂ (fun f s₃ h₃ => ?_) fun _ _ h' => h')) fun _ _ h' => h')
    cases f with
    | next => exact wpAny_pure (.inl ⟨rfl, h₃⟩)
    | cont => exact wpAny_pure (.inl ⟨rfl, h₃⟩)
    | brk => exact wpAny_pure h₃
    | ret v => exact wpAny_pure h₃

/-- a list comprehension's start: the source's iterator once more, or not (the world says) -/
theorem compStartA {elt target iter : Expr} {ifs : List Expr} {rest : List Comprehension} {scope : Scope} {pos : Pos} {it acc : Value}
    (h0 : codeAny (mdl prog w) A (.compLoop (.ListComp elt (⟨target, iter, ifs, 0⟩ :: rest) scope pos) 0 it acc env) R s)
    (h : wpAny (mdl prog w) A (pyIter it) (fun it' s' => codeAny (mdl prog w) A (.compLoop (.ListComp elt (⟨target, iter, ifs, 0⟩ :: rest) scope pos) 0 it' acc env) R s')
      (notedBy (mdl prog w) A env fun x s' => R (.error x) s') s) :
    codeAny (mdl prog w) A (.compStart (.ListComp elt (⟨target, iter, ifs, 0⟩ :: rest) scope pos) 0 it acc env) R s := by
  refine codeAny_of_tree ?_
  show wpAny _ _ ((compStart (.ListComp elt (⟨target, iter, ifs, 0⟩ :: rest) scope pos) 0 it acc env).onRaise (fun x => do noteFrame x env; standAt theWindowsPlace)) _ _ s
  refine wpAny_notedAt ?_
  unfold compStart
  show wpAny _ _ (ask >>= _) _ _ s
  refine wpAny_bind (wpAny_askSetting (wpAny_ite ?_))
  split
  · first
      | exact wpAny_bind (wpAny_pure (wpAny_pure (And.intro rfl h0)))
      | exact wpAny_pure (And.intro rfl h0)
  · refine wpAny_bind (wpAny_rule ?_)
    show wpAny _ _ (standAt iter.pos >>= _) _ _ s
    exact wpAny_bind (wpAny_standAt (wpAny_bind (wpAny_mono h (fun it' s' h' => wpAny_pure (And.intro rfl h')) fun _ _ x => x)))

theorem compTurn_plain (elt target iter : Expr) (scope : Scope) (pos : Pos) (it acc : Value) (env : Env) :
    compTurn (.ListComp elt [⟨target, iter, [], 0⟩] scope pos) 0 it acc env = (standAt iter.pos >>= fun _ => pyNext it >>= fun r => match r with
      | none => pure (.done .next)
      | some v => letOwnedTupleGo target it v >>= fun _ => assign target env v >>= fun _ =>
        (eval elt env >>= fun x => call (.builtin "list.append") [acc, x] >>= fun _ => pure ()) >>= fun _ =>
          again (.compLoop (.ListComp elt [⟨target, iter, [], 0⟩] scope pos) 0 it acc env)) := by rfl

theorem compTurn_if (elt target iter c : Expr) (scope : Scope) (pos : Pos) (it acc : Value) (env : Env) :
    compTurn (.ListComp elt [⟨target, iter, [c], 0⟩] scope pos) 0 it acc env = (standAt iter.pos >>= fun _ => pyNext it >>= fun r => match r with
      | none => pure (.done .next)
      | some v => letOwnedTupleGo target it v >>= fun _ => assign target env v >>= fun _ => isTrue c env (eval c env) >>= fun ok =>
        (if ok then (eval elt env >>= fun x => call (.builtin "list.append") [acc, x] >>= fun _ => pure ()) >>= fun _ =>
          again (.compLoop (.ListComp elt [⟨target, iter, [c], 0⟩] scope pos) 0 it acc env) else again (.compLoop (.ListComp elt [⟨target, iter, [c], 0⟩] scope pos) 0 it acc env))) := by
  first | rfl | (unfold compTurn; simp [List.forIn_cons]; rfl)
end
end Mine

end
section
open PySem PySem.W PySem.W.X PySem.Calls PyProof.Rows
set_option maxRecDepth 100000
namespace Mine

/-- one wake of a generator, where no decoder runs -/
def SegG (M : Model) (A : Around) (c : Code) (t : Sem Fin) (fs : List Frame) (s : Shared) (P : End → Shared → Prop) : Prop :=
  ∀ Γ p, Γ.code = c → Γ.Woken A → dec c = false → Clear (fs.map Frame.where_) → Clear Γ.below → ∃ e s', Runs M Γ p t fs s e s' ∧ e.quiet = true ∧ P e s'

section
variable {M : Model} {A : Around} {c : Code} {fs : List Frame} {s : Shared} {P : End → Shared → Prop} {env : Env}
  {K : Flow → Sem Fin} {H : Value → Sem Fin} {gd : Bool → Bool} {lv : List Value → List Value}

theorem ggWrap {α : Type} {m : Sem α} {K : α → Sem Fin} {H : Value → Sem Fin} {gd : Bool → Bool} {lv : List Value → List Value}
    (h : wpG M (A.over c fs) m (fun a s' => SegG M A c (K a) fs s' P) (fun x s' => SegG M A c (H x) fs s' P) s) : SegG M A c (m.wrap K H gd lv) fs s P := by
  rintro Γ p rfl hΓ hd hf hb
  obtain ⟨e, s', hr, hq⟩ := runs_wrap_of_wp (Φ := fun e s' => e.quiet = true ∧ P e s') K H gd lv m (h (Γ.over fs) p (hΓ.over fs) hd (hf.append hb)) (fun a p' s' h' => h' Γ p' rfl hΓ hd hf hb) (fun x p' s' h' => h' Γ p' rfl hΓ hd hf hb)
  exact ⟨e, s', hr, hq⟩

theorem ggBind {α : Type} {m : Sem α} {K : α → Sem Fin}
    (h : wpG M (A.over c fs) m (fun a s' => SegG M A c (K a) fs s' P) (fun x s' => SegG M A c (.raise x) fs s' P) s) : SegG M A c (m >>= K) fs s P := by
  rw [Sem.bind_eq_wrap']; exact ggWrap h

theorem ggAt {p' : Pos} {k : Unit → Sem Fin} (h : SegG M A c (k ()) fs s P) : SegG M A c (.at p' k) fs s P :=
  ggWrap (m := standAt p') (K := k) (H := .raise) (gd := id) (lv := id) (gAt h)
theorem ggPoint {l : List Value} {k : Unit → Sem Fin} (h : SegG M A c (k ()) fs s P) : SegG M A c (.point l k) fs s P :=
  ggWrap (m := point) (K := k) (H := .raise) (gd := id) (lv := fun _ => l) (toG (wpAny_point h))

theorem ggCall {c' : Code} {h : Option Value} {g : Bool} {l : List Value} {k : Result → Sem Fin} (hd' : dec c' = false) (hc : ∀ p, SegG M A c' (M.den c') (.ret k h g l c p [] :: fs) s P) :
    SegG M A c (.call c' h g l k) fs s P := by
  rintro Γ p rfl hΓ hd hf hb
  obtain ⟨e, s', hr, he⟩ := hc p (Γ.goto c') p rfl (hΓ.goto c') hd' (hf.cons hd) hb
  exact ⟨e, s', runs_call_seg hr, he⟩

theorem ggPop {k : Result → Sem Fin} {h : Option Value} {g : Bool} {l : List Value} {c₁ : Code} {p₁ : Pos} {kp : List Value} (r : Result) (hk : SegG M A c₁ (k r) fs s P) :
    SegG M A c (leafOf r) (.ret k h g l c₁ p₁ kp :: fs) s P := by
  rintro Γ p rfl hΓ hd hf hb
  obtain ⟨e, s', hr, he⟩ := hk (Γ.goto c₁) p₁ rfl (hΓ.goto c₁) (hf _ (.head _)) (fun x hx => hf x (.tail _ hx)) hb
  exact ⟨e, s', Runs.pop r hr, he⟩

theorem ggAgain {c' : Code} (hq : c'.quiet = true) (hd' : dec c' = false) (hc : SegG M A c' (M.den c') fs s P) : SegG M A c (.pure (.again c')) fs s P := by
  rintro Γ p rfl hΓ hd hf hb
  obtain ⟨e, s', hr, he⟩ := hc (Γ.goto c') p rfl (hΓ.goto c') hd' hf hb
  exact ⟨e, s', Runs.head (c₁ := c') (fun _ _ x => .again hq x) hr, he⟩

theorem ggEnd (r : Result) (h : P (.ret r) s) : SegG M A c (leafOf r) [] s P := by
  rintro Γ p rfl _ _ _ _
  exact ⟨.ret r, s, Runs.leaf r, rfl, h⟩

theorem ggYield {v : Value} {l : List Value} {k : Resume → Sem Fin} (hfs : splitAtGen fs = none) (hfg : fs.any Frame.guarded = false)
    (h : ∀ p, P (.susp v false l k c p fs) s) : SegG M A c (.yield v false l k) fs s P := by
  rintro Γ p rfl _ _ _ _
  exact ⟨_, s, Runs.yield' fs hfs, by simp [End.quiet, hfg], h p⟩

theorem ggMono {t : Sem Fin} {P' : End → Shared → Prop} (h : SegG M A c t fs s P) (hP : ∀ e s', P e s' → P' e s') : SegG M A c t fs s P' :=
  fun Γ p hc hΓ hd hf hb => let ⟨e, s', hr, hq, h'⟩ := h Γ p hc hΓ hd hf hb; ⟨e, s', hr, hq, hP e s' h'⟩

theorem ggExecsNil (h : SegG M A c (K .next) fs s P) : SegG M A c ((execs [] env).wrap K H gd lv) fs s P := h

theorem ggExecsCons {st : Stmt} {rest : List Stmt}
    (h : SegG M A c ((exec st env).wrap (fun f => match f with | .next => (execs rest env).wrap K H gd lv | f => K f) H gd lv) fs s P) :
    SegG M A c ((execs (st :: rest) env).wrap K H gd lv) fs s P := by rw [execs_cons_wrap]; exact h

/-- a statement that does not yield -/
theorem ggPlain {st : Stmt} {rest : List Stmt}
    (h : wpG M (A.over c fs) (exec st env) (fun f s' => match f with | .next => SegG M A c ((execs rest env).wrap K H gd lv) fs s' P | f => SegG M A c (K f) fs s' P) (fun x s' => SegG M A c (H x) fs s' P) s) :
    SegG M A c ((execs (st :: rest) env).wrap K H gd lv) fs s P :=
  ggExecsCons (ggWrap (gMono h (fun f s' h' => by cases f <;> exact h') fun _ _ x => x))

theorem ggIf {test : Expr} {body orelse : List Stmt} {pos : Pos}
    (h : wpG M (A.over c fs) (isTrue test env (eval test env)) (fun b s' => SegG M A c ((execs (if b = true then body else orelse) env).wrap K H gd lv) fs s' P)
      (fun x s' => SegG M A c (H x) fs s' P) s) :
    SegG M A c ((exec (.If test body orelse pos) env).wrap K H gd lv) fs s P := by
  rw [exec_If]
  show SegG M A c (.at pos fun _ => ((isTrue test env (eval test env)) >>= fun b => if b then execs body env else execs orelse env).wrap K H gd lv) fs s P
  refine ggAt ?_
  rw [Sem.bind_eq_wrap', Sem.wrap_wrap]
  refine ggWrap (gMono h (fun b s' h' => ?_) fun _ _ x => x)
  cases b <;> exact h'

theorem ggYieldStmt {e : Expr} {ypos pos : Pos} (hfs : splitAtGen fs = none) (hgd : gd false = false) (hfg : fs.any Frame.guarded = false)
    (h : wpG M (A.over c fs) (eval e env) (fun v s' => ∀ l p k, (∀ (P' : End → Shared → Prop) s'', SegG M A c (K .next) fs s'' P' → SegG M A c (k (.send .none)) fs s'' P') → P (.susp v false l k c p fs) s')
      (fun x s' => SegG M A c (H x) fs s' P) s) (hco : env.scope.isCoroutine = false := by rfl) (hi : interactive env = false := by rfl) :
    SegG M A c ((exec (.Expr (.Yield (some e) ypos) pos) env).wrap K H gd lv) fs s P := by
  rw [exec_Expr env _ pos hi rfl]
  show SegG M A c (.at pos fun _ => ((eval e env >>= fun v => (standAt ypos >>= fun _ => yieldOut env v)) >>= fun x =>
    dropValue (.Yield (some e) ypos) pos x).wrap K H gd lv) fs s P
  have hy : ∀ v, yieldOut env v = yieldValue v := fun v => by simp only [yieldOut, hco, Bool.false_eq_true, if_false]
  simp only [hy]
  refine ggAt ?_
  rw [Sem.bind_eq_wrap', Sem.bind_eq_wrap', Sem.wrap_wrap, Sem.wrap_wrap]
  refine ggWrap (gMono h (fun v s' h' => ?_) fun _ _ x => x)
  refine ggAt ?_
  show SegG M A c (.yield v (gd false) _ _) fs s' P
  rw [hgd]
  exact ggYield hfs hfg fun p => h' _ p _ fun P' s'' hs => hs
end

section
variable {prog : Program} {w : World} {A : Around} {fs : List Frame} {s : Shared} {P : End → Shared → Prop} {env : Env}
  {c : Code} {K : Flow → Sem Fin} {H : Value → Sem Fin} {gd : Bool → Bool} {lv : List Value → List Value}

theorem ggFunc {body : List Stmt}
    (h : SegG (mdl prog w) A (.func body env) ((execs body env).wrap (fun f => .pure (.done (.ret (match f with | .ret v => v | _ => .none))))
      (fun e => (leaving env e).wrap (fun _ => .raise e) .raise id id) id id) fs s P) :
    SegG (mdl prog w) A (.func body env) ((mdl prog w).den (.func body env)) fs s P := by
  show SegG _ A _ (.point [] fun _ => ((execs body env).onRaise (leaving env)) >>= _) fs s P
  refine ggPoint ?_
  rw [Sem.onRaise_eq_wrap, Sem.bind_eq_wrap', Sem.wrap_wrap]
  rw [Sem.wrap_congr (execs body env) _ _ (K' := fun f => .pure (.done (.ret (match f with | .ret v => v | _ => .none))))
    (H' := fun e => (leaving env e).wrap (fun _ => .raise e) .raise id id) (fun f => by cases f <;> rfl)
    (fun e => by rw [Sem.bind_eq_wrap, Sem.wrap_wrap]; rfl)]
  exact h

/-- what stands in flight over a loop of the frame -/
abbrev noted (env : Env) (e : Value) : Sem Fin := (do noteFrame e env; theTreesLotGoes e : Sem Unit).wrap (fun _ => .raise e) .raise id id

theorem ggFor {target iter : Expr} {body orelse : List Stmt} {pos : Pos}
    (h : wpG (mdl prog w) (A.over c fs) (eval iter env) (fun x s₁ => wpG (mdl prog w) (A.over c fs) (pyIter x) (fun it s₂ =>
        ∀ p l, SegG (mdl prog w) A (.forLoop target it body orelse env) ((mdl prog w).den (.forLoop target it body orelse env))
          (.ret (fun r => ((match r with | .ok f => (.pure f : Sem Flow) | .error e => .raise e).onRaise fun (x : Value) => do
            if (← field x 1) == Value.none then unsupported "frame.own-activation:exception-without-traceback"
            setFlight x env.frame).wrap K H gd lv) none (gd false) l c p [] :: fs) s₂ P)
        (fun x s' => SegG (mdl prog w) A c (H x) fs s' P) s₁) (fun x s' => SegG (mdl prog w) A c (H x) fs s' P) s)
    (hs : ∀ x, foldedSetIterable iter env x = pure x := by intro _; rfl) :
    SegG (mdl prog w) A c ((exec (.For target iter body orelse pos) env).wrap K H gd lv) fs s P := by
  rw [exec_For]
  show SegG _ A c (.at pos fun _ => (eval iter env >>= fun x => foldedSetIterable iter env x >>= fun x => standAt iter.pos >>= fun _ =>
    holding [x] (pyIter x) >>= fun it => runOwn (.forLoop target it body orelse env) env).wrap K H gd lv) fs s P
  refine ggAt ?_
  rw [Sem.bind_eq_wrap', Sem.wrap_wrap]
  refine ggWrap (gMono h (fun x s₁ h₁ => ?_) fun _ _ x => x)
  show SegG _ A c ((foldedSetIterable iter env x >>= _).wrap K H gd lv) fs s₁ P
  rw [hs x]
  show SegG _ A c (.at iter.pos fun _ => (holding [x] (pyIter x) >>= fun it => runOwn (.forLoop target it body orelse env) env).wrap K H gd lv) fs s₁ P
  refine ggAt ?_
  rw [Sem.bind_eq_wrap', Sem.wrap_wrap]
  refine ggWrap (gHolding (gMono h₁ (fun it s₂ h₂ => ?_) fun _ _ x => x))
  exact ggCall rfl fun p => h₂ p _

theorem ggForLoop {target : Expr} {it : Value} {body orelse : List Stmt}
    (h : wpG (mdl prog w) (A.over (.forLoop target it body orelse env) fs) (pyNext it) (fun r s₁ => match r with
        | none => SegG (mdl prog w) A (.block orelse env) ((mdl prog w).den (.block orelse env)) fs s₁ P
        | some v => wpG (mdl prog w) (A.over (.forLoop target it body orelse env) fs) (assign target env v) (fun _ s₂ =>
            SegG (mdl prog w) A (.forLoop target it body orelse env) ((execs body env).wrap (fun f => match f with
              | .next | .cont => .pure (.again (.forLoop target it body orelse env))
              | .brk => .pure (.done .next)
              | .ret v => .pure (.done (.ret v))) (noted env) id id) fs s₂ P)
            (fun x s' => SegG (mdl prog w) A (.forLoop target it body orelse env) (noted env x) fs s' P) s₁)
      (fun x s' => SegG (mdl prog w) A (.forLoop target it body orelse env) (noted env x) fs s' P) s)
    (ht : ∀ v, letOwnedTupleGo target it v = pure () := by intro _; rfl) :
    SegG (mdl prog w) A (.forLoop target it body orelse env) ((mdl prog w).den (.forLoop target it body orelse env)) fs s P := by
  show SegG _ A _ ((forTurn target it body orelse env).onRaise (fun x => do noteFrame x env; theTreesLotGoes x)) fs s P
  have e0 : (forTurn target it body orelse env).onRaise (fun x => do noteFrame x env; theTreesLotGoes x) =
      .at target.pos fun _ => (((pyNext it).onRaise (fun _ => standAt { target.pos with line := 0 })) >>= fun r => match r with
        | none => again (.block orelse env)
        | some v => letOwnedTupleGo target it v >>= fun _ => assign target env v >>= fun _ => execs body env >>= fun f => match f with
          | .next | .cont => again (.forLoop target it body orelse env)
          | .brk => pure (.done .next)
          | .ret v => pure (.done (.ret v))).onRaise (fun x => do noteFrame x env; theTreesLotGoes x) := rfl
  rw [e0]
  refine ggAt ?_
  rw [Sem.onRaise_eq_wrap, Sem.bind_eq_wrap', Sem.wrap_wrap, Sem.onRaise_eq_wrap, Sem.wrap_wrap]
  have eH : ∀ e : Value, ((do noteFrame e env; theTreesLotGoes e : Sem Unit).bind fun _ => (.raise e : Sem Fin)) = noted env e := fun e => Sem.bind_eq_wrap _ _
  refine ggWrap (gMono h (fun r s₁ h₁ => ?_) fun x s₁ h₁ => ?_)
  · cases r with
    | none => exact ggAgain rfl rfl h₁
    | some v =>
      show SegG _ A _ ((letOwnedTupleGo target it v >>= fun _ => assign target env v >>= fun _ => execs body env >>= _).wrap _ _ _ _) fs s₁ P
      rw [ht v]
      show SegG _ A _ ((assign target env v >>= fun _ => execs body env >>= _).wrap _ _ _ _) fs s₁ P
      rw [Sem.bind_eq_wrap', Sem.wrap_wrap]
      refine ggWrap (gMono h₁ (fun _ s₂ h₂ => ?_) fun x s₂ h₂ => ?_)
      · show SegG _ A _ ((execs body env >>= _).wrap _ _ _ _) fs s₂ P
        rw [Sem.bind_eq_wrap', Sem.wrap_wrap]
        refine Eq.mpr (congrArg (fun t => SegG (mdl prog w) A (.forLoop target it body orelse env) t fs s₂ P) ?_) h₂
        exact Sem.wrap_congr (execs body env) _ _ (fun f => by cases f <;> rfl) (fun e => eH e)
      · show SegG _ A _ ((do noteFrame x env; theTreesLotGoes x : Sem Unit).bind fun _ => (.raise x : Sem Fin)) fs s₂ P
        rw [eH]; exact h₂
  · show SegG _ A _ ((standAt { target.pos with line := 0 }).bind fun _ => (.raise x : Sem Fin).wrap _ _ _ _) fs s₁ P
    refine ggAt ?_
    show SegG _ A _ ((do noteFrame x env; theTreesLotGoes x : Sem Unit).bind fun _ => (.raise x : Sem Fin)) fs s₁ P
    rw [eH]; exact h₁
end
end Mine

end
section
open PySem PySem.W PySem.W.X PySem.Calls PyProof.Rows
set_option maxRecDepth 100000
namespace Mine

theorem den_mdl {prog : Program} {w : World} {id : String} {args : Args} {b : Builtin} (h : entryFor table id = some b) (hne : isAsk (.builtin id args) = false) :
    (mdl prog w).den (.builtin id args) = b args := (denA_ne hne).trans (den_entry h)

/-- waking this generator (by `next`) comes to an end of its segment with P -/
def WakableG (M : Model) (A : Around) (gs : GenState) (s : Shared) (P : End → Shared → Prop) : Prop := match gs with
  | .fresh c => dec c = false ∧ SegG M A c (M.den c) [] s P
  | .suspended k _ c _ fs _ => dec c = false ∧ Clear (fs.map Frame.where_) ∧ SegG M A c (k (.send .none)) fs s P
  | _ => False

theorem resumeG {M : Model} {A : Around} {P : End → Shared → Prop} {E : Value → Shared → Prop} {s : Shared} {g : Nat} {gs : GenState} {l : List Value} {α : Type} {k : GenResult → Sem α} {Q : α → Shared → Prop}
    (hg : s.gens[g]? = some gs) (hw : WakableG M A gs (s.setGen g .running) P)
    (hP : ∀ e s₁, e.quiet = true → P e s₁ → wpG M A (k e.result) Q E (s₁.setGen g e.genState)) :
    wpG M A (.resume g (.send .none) l k) Q E s := by
  intro Γ p hΓ hd hb
  rw [Sem.wp_resume]
  cases gs with
  | fresh c =>
    obtain ⟨hc, hw⟩ := hw
    obtain ⟨e, s₁, hr, hq, hp⟩ := hw (Γ.wake c p) p rfl (hΓ.wake c p) hc (fun x hx => nomatch hx) (hb.cons hd)
    exact ⟨_, _, by unfold Wakes; rw [hg]; exact ⟨e, s₁, hr, hq, rfl, rfl⟩, hP e s₁ hq hp Γ p hΓ hd hb⟩
  | suspended k₀ l₀ c₀ p₀ fs₀ cl =>
    obtain ⟨hc, hf, hw⟩ := hw
    obtain ⟨e, s₁, hr, hq, hp⟩ := hw (Γ.wake c₀ p) p₀ rfl (hΓ.wake c₀ p) hc hf (hb.cons hd)
    exact ⟨_, _, by unfold Wakes; rw [hg]; exact ⟨e, s₁, hr, hq, rfl, rfl⟩, hP e s₁ hq hp Γ p hΓ hd hb⟩
  | running => exact hw.elim
  | finished => exact hw.elim

theorem gCallSpecial {M : Model} {A : Around} {E : Value → Shared → Prop} {s : Shared} {self : Value} {T : String} {name : Str} {id : String} {args : List Value}
    {Q : Option Value → Shared → Prop} (hT : s.TypeIs self T) (h : Slot T name id)
    (hc : wpG M A (call (.builtin id) (self :: args)) (fun v => Q (some v)) E s) : wpG M A (callSpecial? self name args) Q E s := by
  simp only [callSpecial?]
  refine gThen (wpAny_specialOf hT h.lookup ?_)
  simp only [h.bind]
  exact gHolding (gThen (wpAny_pure (gBind (gMono hc (fun v s' h' => gPure h') fun _ _ h' => h'))))

/-- an instance of a class of the text, by its class' mro -/
structure InstOf (h : Heap) (x : Addr) (C : Addr) (mro : List Value) : Prop where
  inst : ∃ o, h.get? x = some o ∧ o.cls = .ref C
  cls : ∃ o cd, h.get? C = some o ∧ o.data = .cls cd ∧ cd.mro = mro

theorem InstOf.keeps {h h' : Heap} {x C : Addr} {mro : List Value} (i : InstOf h x C mro) (k : ∀ b o, h.get? b = some o → h'.get? b = some o) : InstOf h' x C mro :=
  ⟨let ⟨o, a, b⟩ := i.inst; ⟨o, k _ _ a, b⟩, let ⟨o, cd, a, b⟩ := i.cls; ⟨o, cd, k _ _ a, b⟩⟩

section
variable {M : Model} {A : Around} {E : Value → Shared → Prop} {s : Shared}
theorem classOf {C : Addr} {mro : List Value} {Q : List Value → Shared → Prop} (h : ∃ o cd, s.heap.get? C = some o ∧ o.data = .cls cd ∧ cd.mro = mro) (hQ : Q mro s) : wpAny M A (mroOf (.ref C)) Q E s := by
  obtain ⟨o, cd, ho, hd, rfl⟩ := h
  show wpAny M A (do return (← classData C).mro) Q E s
  unfold classData
  refine wpAny_bind (wpAny_bind (wpAny_load ho ?_))
  rw [hd]
  exact wpAny_pure (wpAny_pure hQ)
theorem subRef {C : Addr} {mro : List Value} {base : Value} {Q : Bool → Shared → Prop} (h : ∃ o cd, s.heap.get? C = some o ∧ o.data = .cls cd ∧ cd.mro = mro) (hne : mro.isEmpty = false) (hQ : Q (mro.contains base) s) :
    wpAny M A (isSubtype (.ref C) base) Q E s := by
  unfold isSubtype
  refine wpAny_bind (classOf h ?_)
  show wpAny M A (if mro.isEmpty = true then _ else _) Q E s
  rw [hne]
  exact wpAny_pure hQ
theorem typeRef {x : Addr} {o : Obj} {Q : Value → Shared → Prop} (ho : s.heap.get? x = some o) (hQ : Q o.cls s) : wpAny M A (typeOf (.ref x)) Q E s := by
  show wpAny M A (do return (← loadPart x (some headPart)).cls) Q E s
  exact wpAny_bind (wpAny_loadPart ho (wpAny_pure hQ))
theorem instRef {x C : Addr} {mro : List Value} {base : Value} {Q : Bool → Shared → Prop} (i : InstOf s.heap x C mro) (hne : mro.isEmpty = false) (hQ : Q (mro.contains base) s) :
    wpAny M A (isInstance (.ref x) base) Q E s := by
  obtain ⟨o, ho, hc⟩ := i.inst
  unfold isInstance
  refine wpAny_bind (typeRef ho ?_)
  rw [hc]
  exact subRef i.cls hne hQ
end

/-- what the end of a wake hands to `next` -/
def NextEnd (a g : Nat) (Q : Option Value → Shared → Prop) (E : Value → Shared → Prop) (e : End) (s₁ : Shared) : Prop := match e with
  | .susp v .. => Q (some v) (s₁.setGen g e.genState)
  | .ret (.ok (.ret .none)) => ∀ h', (∀ b o, s₁.heap.get? b = some o → h'.get? b = some o) → Q none { s₁.setGen g .finished with heap := h' }
  | .ret (.error (.ref x)) => (∃ C mro, InstOf s₁.heap x C mro ∧ mro.isEmpty = false ∧ mro.contains (.type "StopIteration") = false) ∧ s₁.heap.IsGen a g ∧ E (.ref x) (s₁.setGen g .finished)
  | _ => False

theorem nextGenG {prog : Program} {w : World} {A : Around} {E : Value → Shared → Prop} {s : Shared} {a : Addr} {g : Nat} {gs : GenState} {P : End → Shared → Prop} {Q : Option Value → Shared → Prop} (hh : A.handled = none)
    (hl : s.heap.NoLimit) (hroom : A.depth < recursionLimit) (hg : s.heap.IsGen a g) (hgs : s.gens[g]? = some gs)
    (hw : WakableG (mdl prog w) A.in1 gs (s.setGen g .running) P)
    (hP : ∀ e s₁, e.quiet = true → P e s₁ → NextEnd a g Q E e s₁) :
    wpG (mdl prog w) A (pyNext (.ref a)) Q E s := by
  unfold pyNext
  refine gBind (gAttempt ?_)
  -- the call of the slot, over mdl
  have key : wpG (mdl prog w) A (callSpecial? (.ref a) (Str.ofString "__next__"))
      (fun r s' => wpG (mdl prog w) A (match (Except.ok r : Except Value (Option Value)) with
        | .ok (some v) => pure (some v)
        | .ok none => unsupported "iter:the-iterator's-class-has-lost-its-__next__-amid-the-walk"
        | .error e => (do if ← isInstance e (.type "StopIteration") then pure none else throw e)) Q E s')
      (fun e s' => wpG (mdl prog w) A (match (Except.error e : Except Value (Option Value)) with
        | .ok (some v) => pure (some v)
        | .ok none => unsupported "iter:the-iterator's-class-has-lost-its-__next__-amid-the-walk"
        | .error e => (do if ← isInstance e (.type "StopIteration") then pure none else throw e)) Q E s') s := by
    refine gCallSpecial (name := Str.ofString "__next__") hg.typeIs slot_gen_next ?_
    refine gCall ?_
    refine codeG_tree rfl ?_
    show wpG _ A.in1 (do checkBuiltinCall "generator.__next__" ⟨[.ref a], []⟩; again (.builtin "generator.__next__" ⟨[.ref a], []⟩)) _ _ s
    refine gThen (lift (slot_gen_next.check _ _ _ _ _ _ _ _ hg.typeIs (args_gen_next _) ?_))
    refine gPure (And.intro (plainId_quiet (by decide +kernel) _) (codeG_tree (show Builtin.Bytes.decodersThatHold.contains "generator.__next__" = false by decide +kernel) ?_))
    rw [Around.under_plainId (by decide +kernel)]
    rw [den_mdl entry_gen_next rfl]
    show wpG _ A.in1 (Builtin.Generator.genWake (.ref a) (.send .none)) _ _ s
    unfold Builtin.Generator.genWake
    refine gBind (gHolding (toG (wpAny_genNumber hg ?_)))
    refine gThen (wpAny_genState hgs ?_)
    cases gs with
    | running => exact hw.elim
    | finished => exact hw.elim
    | _ =>
      refine gThen (wpAny_roomToWake hl hroom ?_)
      show wpG _ A.in1 (.resume g (.send .none) [] _) _ _ s
      refine resumeG hgs hw (fun e s₁ hq hp => ?_)
      have hp := hP e s₁ hq hp
      cases e with
      | susp v g₀ l₀ k₀ c₀ p₀ fs₀ =>
        exact gPure (gPure hp)
      | ret r =>
        cases r with
        | ok f =>
          cases f with
          | ret v =>
            cases v <;> first | exact hp.elim | skip
            refine toG ?_
            show wpAny _ A.in1 (newExc (.type "StopIteration") [] >>= _) _ _ _
            refine wpAny_bind ?_
            simp only [newExc, newTuple]
            refine wpAny_bind (wpAny_newObj_type ?_ (by size_fits))
            refine wpAny_bind (m := firstArgMember _ _) (wpAny_of_eq (a := Value.none) (by first | rfl | (simp only [firstArgMember]; rfl)) ?_)
            refine wpAny_newObj_type ?_ (by size_fits)
            simp only [raiseNew]
            refine wpAny_bind (wpAny_bind (wpAny_handled ?_))
            rw [show A.in1.handled = none from hh]
            refine wpAny_throw ?_
            refine gThen (wpAny_isInstance (T := "StopIteration") (b := true) ⟨_, Heap.get?_push_size _ rfl, rfl⟩ isSubtype_stop ?_)
            exact gPure (hp _ fun b o hb => Heap.get?_push_of_some _ (Heap.get?_push_of_some _ hb))
          | _ => exact hp.elim
        | error x =>
          cases x with
          | ref x =>
            obtain ⟨⟨C, mro, hi, hne, hns⟩, hg', hE⟩ := hp
            obtain ⟨o, nm, qn, ho, hc, hd, hsl⟩ := hg'
            refine toG ?_
            show wpAny _ A.in1 (Builtin.Generator.genLeft (.ref a) (.ref x)) _ _ _
            unfold Builtin.Generator.genLeft Builtin.Generator.madeByALambda
            refine wpAny_bind (wpAny_bind (wpAny_load ho (wpAny_pure ?_)))
            refine wpAny_bind (instRef hi hne ?_)
            rw [hns]
            rw [if_neg (show ¬ ((_ && false) = true) from by rw [Bool.and_false]; exact Bool.false_ne_true)]
            unfold Builtin.Generator.genEscaped
            refine wpAny_bind (instRef hi hne ?_)
            rw [hns]
            refine wpAny_throw ?_
            refine gThen (instRef hi hne ?_)
            rw [hns]
            exact gThrow hE
          | _ => exact hp.elim
  exact key
end Mine

end
section
open PySem PySem.W PySem.W.X PySem.Calls PyProof.Rows
set_option maxRecDepth 100000
namespace Mine

abbrev excObj (d : Addr) (vs : Array Value) : Obj := { cls := .ref 78, dict := some d, data := .fields vs }
abbrev tbObj (ts : Array Value) : Obj := { cls := .type "traceback", dict := none, data := .fields ts }

/-- the head of the exception's traceback: none yet, or one that says where it flies -/
def Tb (P : List Addr) (hr h : Heap) (e : Addr) (vs : Array Value) : Option Value → Prop
  | none => vs[1]? = some .none
  | some v => ∃ T ts, vs[1]? = some (.ref T) ∧ T ≠ e ∧ (T ∈ P ∨ hr.get? T = none) ∧ h.get? T = some (tbObj ts) ∧ ts[3]? = some v

/-- the exception e (its dict d) in flight; what stood in hr stands, but P; the frames S may have got slots -/
structure Flying (P S : List Addr) (hr : Heap) (e d : Addr) (fl : Option Value) (h : Heap) : Prop where
  keep : ∀ b o, b ∉ P → b ∉ S → hr.get? b = some o → h.get? b = some o
  slots : ∀ b o, b ∉ P → hr.get? b = some o → ∃ sl, h.get? b = some { o with slots := sl }
  eNew : e ∈ P ∨ hr.get? e = none
  exc : ∃ vs, h.get? e = some (excObj d vs) ∧ vs.size = 6 ∧ Tb P hr h e vs fl
  hint : ∃ m, h.Ns d m ∧ m (Str.ofString "error_status_hint") = some (.int 400 303)

theorem newOr {P : List Addr} {hr : Heap} {x b : Addr} {o : Obj} (h : x ∈ P ∨ hr.get? x = none) (hP : b ∉ P) (hb : hr.get? b = some o) : b ≠ x := fun e => by
  subst e
  rcases h with h | h
  · exact hP h
  · rw [h] at hb; cases hb
theorem Flying.size {P S : List Addr} {hr h : Heap} {e d : Addr} {fl : Option Value} (x : Flying P S hr e d fl h) : ∃ o, h.get? e = some o := let ⟨vs, a, _⟩ := x.exc; ⟨_, a⟩

section
variable {M : Model} {A : Around} {E : Value → Shared → Prop} {s : Shared} {P S : List Addr} {hr base : Heap} {e d L : Addr} {fl : Option Value} {env : Env} {outer : List Env} {Q : Unit → Shared → Prop}

/-- the record e or T turned, nothing else -/
theorem Flying.setTb {h : Heap} {T : Addr} {ts vs : Array Value} {v : Value} (x : Flying P S hr e d fl h) (he : h.get? e = some (excObj d vs)) (hz : vs.size = 6) (hT : vs[1]? = some (.ref T)) (hTe : T ≠ e) (hTn : T ∈ P ∨ hr.get? T = none)
    (ho : h.get? T = some (tbObj ts)) (h3 : 3 < ts.size) : Flying P S hr e d (some v) (h.update T (Obj.mapFields (·.setIfInBounds 3 v))) := by
  have other : ∀ b, b ≠ T → (h.update T (Obj.mapFields (·.setIfInBounds 3 v))).get? b = h.get? b := fun b hb => Heap.get?_update_other _ _ (Ne.symm hb)
  have hd : (tbObj ts).data = .fields ts := rfl
  have self := Heap.get?_update_self (Obj.mapFields (·.setIfInBounds 3 v)) ho (Obj.isFreed_of_fields (Obj.data_mapFields hd _))
  obtain ⟨m, hm, hm'⟩ := x.hint
  have hdT : d ≠ T := by
    rintro rfl
    obtain ⟨o, es, ep, ho', hd', _⟩ := hm
    rw [ho] at ho'; cases ho'; cases hd'
  refine ⟨fun b o hP hS hb => (other b (newOr hTn hP hb)).trans (x.keep b o hP hS hb), fun b o hP hb => ?_, x.eNew, ⟨vs, (other e (Ne.symm hTe)).trans he, hz, T, _, hT, hTe, hTn, self, by simp [h3]⟩, ⟨m, hm.at' (fun o q => (other d hdT).trans q), hm'⟩⟩
  obtain ⟨sl, q⟩ := x.slots b o hP hb
  exact ⟨sl, (other b (newOr hTn hP hb)).trans q⟩

theorem setFlightF {fr : Option Addr} {v₀ : Value} (x : Flying P S hr e d (some v₀) s.heap)
    (h : ∀ h', Flying P S hr e d (some (fr.elim .none fun f => rawInt f)) h' → Q () { s with heap := h' }) :
    wpAny M A (setFlight (.ref e) fr) Q E s := by
  obtain ⟨vs, he, hz, T, ts, hT, hTe, hTn, ho, h3⟩ := x.exc
  have hsz : 3 < ts.size := (Array.getElem?_eq_some_iff.mp h3).1
  unfold setFlight
  refine wpAny_bind (wpAny_field he rfl hT ?_)
  rw [if_pos (show (Value.ref T != Value.none) = true from by simp)]
  exact wpAny_setField ho rfl hsz (h _ (x.setTb he hz hT hTe hTn ho hsz))

theorem Flying.frames {h : Heap} {l : List Env} (x : Flying P S hr e d fl h) (hl : hr.FunFrames base l) (hp : ∀ b ∈ l.filterMap (·.frame), b ∉ P) : h.FunFrames base l := by
  induction l with
  | nil => trivial
  | cons env rest ih =>
    obtain ⟨hk, ⟨L, o, hf, hn, ho, hd⟩, hrest⟩ := hl
    rw [List.filterMap_cons, hf] at hp
    obtain ⟨sl, q⟩ := x.slots L o (hp L (.head _)) ho
    exact ⟨hk, ⟨L, _, hf, hn, q, hd⟩, ih hrest fun b hb => hp b (.tail _ hb)⟩

theorem Flying.mono {h : Heap} {S' : List Addr} (x : Flying P S hr e d fl h) (hS : ∀ b ∈ S, b ∈ S') : Flying P S' hr e d fl h :=
  ⟨fun b o hP hb => x.keep b o hP fun q => hb (hS b q), x.slots, x.eNew, x.exc, x.hint⟩

/-- what stood in s stands in hr but P: the flight seen from s -/
theorem Flying.rebase {h s₀ : Heap} (x : Flying [] S hr e d fl h) (hk : ∀ b o, b ∉ P → s₀.get? b = some o → hr.get? b = some o) : Flying P S s₀ e d fl h := by
  have fresh : ∀ b, (b ∈ [] ∨ hr.get? b = none) → (b ∈ P ∨ s₀.get? b = none) := fun b hb => by
    by_cases hm : b ∈ P
    · exact .inl hm
    refine .inr ?_
    cases q : s₀.get? b with
    | none => rfl
    | some o =>
      have := hk b o hm q
      rcases hb with hb | hb
      · cases hb
      · rw [hb] at this; cases this
  refine ⟨fun b o hp hS hb => x.keep b o (by simp) hS (hk b o hp hb), fun b o hp hb => x.slots b o (by simp) (hk b o hp hb), fresh _ x.eNew, ?_, x.hint⟩
  obtain ⟨vs, he, hz, ht⟩ := x.exc
  refine ⟨vs, he, hz, ?_⟩
  cases fl with
  | none => exact ht
  | some v => obtain ⟨T, ts, a1, a2, a3, a4⟩ := ht; exact ⟨T, ts, a1, a2, fresh _ a3, a4⟩

/-- the frames' slots alone -/
theorem Flying.slotsOnly {h h' : Heap} {fs : List Addr} (x : Flying P S hr e d fl h) (y : Heap.SlotsOnly fs h h') (hS : ∀ b ∈ fs, b ∈ S) (hn : ∀ b ∈ fs, ∃ o, h.get? b = some o ∧ ∀ vs, o.data ≠ .fields vs) : Flying P S hr e d fl h' := by
  have same : ∀ b vs c dd sl, h.get? b = some ⟨c, dd, .fields vs, sl⟩ → h'.get? b = some ⟨c, dd, .fields vs, sl⟩ := fun b vs c dd sl hb => by
    refine (y.2.1 b fun hm => ?_).trans hb
    obtain ⟨o, ho, hf⟩ := hn b hm
    rw [hb] at ho; cases ho; exact hf vs rfl
  refine ⟨fun b o hp hS' hb => (y.2.1 b fun hm => hS' (hS b hm)).trans (x.keep b o hp hS' hb), fun b o hp hb => ?_, x.eNew, ?_, ?_⟩
  · obtain ⟨sl, q⟩ := x.slots b o hp hb
    obtain ⟨sl', q'⟩ := y.2.2 b _ q
    exact ⟨sl', q'⟩
  · obtain ⟨vs, he, hz, ht⟩ := x.exc
    refine ⟨vs, same _ _ _ _ _ he, hz, ?_⟩
    cases fl with
    | none => exact ht
    | some v => obtain ⟨T, ts, a1, a2, a3, a4, a5⟩ := ht; exact ⟨T, ts, a1, a2, a3, same _ _ _ _ _ a4, a5⟩
  · obtain ⟨m, ⟨o, es, ep, ho, hd, r⟩, hm'⟩ := x.hint
    obtain ⟨sl, q⟩ := y.2.2 d o ho
    exact ⟨m, ⟨_, es, ep, q, hd, r⟩, hm'⟩

theorem noteF {head : Value} {hadNext : Bool} (hfr : A.frames = some (env :: outer)) (hl : s.heap.FunFrames base (env :: outer)) (hf : env.frame = some L) (hS : ∀ x ∈ (env :: outer).filterMap (·.frame), x ∈ S)
    (x : Flying P S hr e d fl s.heap) (hlow : ∀ b o, hr.get? b = some o → b < s.heap.objs.size)
    (h : ∀ h', Flying P S hr e d (some (rawInt L)) h' → Q () { s with heap := h' }) :
    wpAny M A (do let a ← frameOf env; let pl ← entryPlaceOf L hadNext; let b ← EntryCells.newEntry head a .none (rawInt L) .none pl; setField (.ref e) 1 b) Q E s := by
  refine wpAny_bind (wpAny_frameOf_fun hfr hl hf fun h₁ hs₁ => ?_)
  refine wpAny_bind (wpAny_entryPlaceOf fun pl hpl => ?_)
  have x₁ := x.slotsOnly hs₁ hS fun b hb => (hl.mem hb).2
  obtain ⟨vs, he, hz, _⟩ := x₁.exc
  unfold EntryCells.newEntry newFields
  refine wpAny_bind (wpAny_newObj_type ?_ (hpl.sizeOk5 _ _ _ _ _))
  have he₂ := Heap.get?_push_of_some (h := h₁) { cls := .type "traceback", dict := none, data := .fields ([head, .ref L, .none, rawInt L, .none] ++ (if pl.isEmpty then List.replicate 6 Value.none else pl)).toArray } he
  refine wpAny_setField he₂ rfl (by rw [hz]; decide) (h _ ?_)
  have hTe : h₁.objs.size ≠ e := Nat.ne_of_gt (Heap.lt_size he)
  have self := Heap.get?_update_self (Obj.mapFields (·.setIfInBounds 1 (Value.ref h₁.objs.size))) he₂ (Obj.isFreed_of_fields (Obj.data_mapFields (show (excObj d vs).data = .fields vs from rfl) _))
  have other : ∀ b o, b ≠ e → h₁.get? b = some o → ((h₁.push { cls := .type "traceback", dict := none, data := .fields ([head, .ref L, .none, rawInt L, .none] ++ (if pl.isEmpty then List.replicate 6 Value.none else pl)).toArray }).update e
      (Obj.mapFields (·.setIfInBounds 1 (Value.ref h₁.objs.size)))).get? b = some o := fun b o hb hg => by
    rw [Heap.get?_update_other _ _ (Ne.symm hb)]; exact Heap.get?_push_of_some _ hg
  have hrT : hr.get? h₁.objs.size = none := by
    cases q : hr.get? h₁.objs.size with
    | none => rfl
    | some o => exact absurd (hlow _ o q) (by rw [hs₁.1]; exact Nat.lt_irrefl _)
  have hbe : ∀ b o, b ∉ P → hr.get? b = some o → b ≠ e := fun b o hP hb => newOr x₁.eNew hP hb
  refine ⟨fun b o hp hS' hb => other b o (hbe b o hp hb) (x₁.keep b o hp hS' hb), fun b o hp hb => ?_, x₁.eNew, ⟨_, self, by simp [hz], h₁.objs.size, ([head, .ref L, .none, rawInt L, .none] ++ (if pl.isEmpty then List.replicate 6 Value.none else pl)).toArray, by simp [hz], hTe, .inr hrT, ?_, ?_⟩, ?_⟩
  · obtain ⟨sl, q⟩ := x₁.slots b o hp hb
    exact ⟨sl, other b _ (hbe b o hp hb) q⟩
  · rw [Heap.get?_update_other _ _ (Ne.symm hTe)]
    exact Heap.get?_push_size h₁ rfl
  · rcases hpl with rfl | ⟨_, _, _, _, _, _, _, rfl⟩ <;> simp
  · obtain ⟨m, hm, hm'⟩ := x₁.hint
    refine ⟨m, hm.at' fun o q => other d o ?_ q, hm'⟩
    rintro rfl
    obtain ⟨o, es, ep, ho, hd, _⟩ := hm
    rw [he] at ho; cases ho; cases hd

/-- a frame notes the exception: it flies there now -/
theorem noteFrameF (hfr : A.frames = some (env :: outer)) (hl : s.heap.FunFrames base (env :: outer)) (hf : env.frame = some L) (hS : ∀ x ∈ (env :: outer).filterMap (·.frame), x ∈ S)
    (x : Flying P S hr e d fl s.heap) (hfl : fl = none ∨ fl = some .none) (hlow : ∀ b o, hr.get? b = some o → b < s.heap.objs.size)
    (h : ∀ h', Flying P S hr e d (some (rawInt L)) h' → Q () { s with heap := h' }) :
    wpAny M A (noteFrame (.ref e) env) Q E s := by
  unfold noteFrame
  simp only [hf]
  rcases hfl with rfl | rfl
  · obtain ⟨vs, he, hz, h1⟩ := id x.exc
    refine wpAny_bind (wpAny_field he rfl h1 ?_)
    rw [if_neg (by decide)]
    exact noteF hfr hl hf hS x hlow h
  · obtain ⟨vs, he, hz, T, ts, hT, hTe, hTn, ho, h3⟩ := id x.exc
    have hsz : 3 < ts.size := (Array.getElem?_eq_some_iff.mp h3).1
    refine wpAny_bind (wpAny_field he rfl hT ?_)
    rw [if_pos (show (Value.ref T != Value.none) = true from by simp)]
    refine wpAny_bind (wpAny_field ho rfl h3 ?_)
    rw [if_neg (show ¬ ((Value.none == rawInt L) = true) from by simp [rawInt])]
    refine wpAny_bind (wpAny_setField ho rfl hsz ?_)
    have x' := x.setTb he hz hT hTe hTn ho hsz (v := .none)
    have other : ∀ b o, s.heap.get? b = some o → (∀ vs, o.data ≠ .fields vs) → ∃ o', (s.heap.update T (Obj.mapFields (·.setIfInBounds 3 Value.none))).get? b = some o' ∧ o'.data = o.data := fun b o hb hn =>
      ⟨o, (Heap.get?_update_other _ _ fun q => by rw [← q, ho] at hb; cases hb; exact hn ts rfl).trans hb, rfl⟩
    exact noteF hfr (hl.of_keeps other) hf hS x' (fun b o hb => by rw [Heap.size_after_update]; exact hlow b o hb) h

theorem noteFrameHere (hf : env.frame = some L) (x : Flying P S hr e d (some (rawInt L)) s.heap) (h : Q () s) : wpAny M A (noteFrame (.ref e) env) Q E s := by
  obtain ⟨vs, he, hz, T, ts, hT, hTe, hTn, ho, h3⟩ := x.exc
  exact wpAny_noteFrame_inFlight hf he rfl hT ho rfl h3 h

theorem leavingF (hfr : A.frames = some (env :: outer)) (hl : s.heap.FunFrames base (env :: outer)) (hf : env.frame = some L) (hS : ∀ x ∈ (env :: outer).filterMap (·.frame), x ∈ S)
    (x : Flying P S hr e d fl s.heap) (hfl : fl = none ∨ fl = some .none ∨ fl = some (rawInt L)) (hlow : ∀ b o, hr.get? b = some o → b < s.heap.objs.size)
    (h : ∀ h', Flying P S hr e d (some .none) h' → Q () { s with heap := h' }) :
    wpAny M A (leaving env (.ref e)) Q E s := by
  unfold leaving
  have key : ∀ h', Flying P S hr e d (some (rawInt L)) h' → wpAny M A (setFlight (.ref e) none) Q E { s with heap := h' } := fun h' x' => setFlightF x' h
  rcases hfl with rfl | rfl | rfl
  · exact wpAny_bind (noteFrameF hfr hl hf hS x (.inl rfl) hlow key)
  · exact wpAny_bind (noteFrameF hfr hl hf hS x (.inr rfl) hlow key)
  · exact wpAny_bind (noteFrameHere hf x (key _ x))
end
end Mine

end
section
open PySem PySem.W PySem.W.X PySem.Calls PyProof.Rows
set_option maxRecDepth 100000
namespace Mine

section
variable {M : Model} {A : Around} {E : Value → Shared → Prop} {s : Shared} {env : Env}

theorem gRule {tag : String} {Q : Unit → Shared → Prop} (h : Q () s) : wpG M A (rule tag) Q E s := fun _ _ _ _ _ => h
theorem gPoint' {Q : Unit → Shared → Prop} (h : Q () s) : wpG M A point Q E s := fun _ _ _ _ _ => h
theorem gKeep {α : Type} {vs : List Value} {m : Sem α} {Q : α → Shared → Prop} (h : wpG M A m Q E s) : wpG M A (m.keep vs) Q E s :=
  fun Γ p hΓ hd hb => by rw [Sem.wp_keep]; exact h Γ p hΓ hd hb
theorem gOperate {vs : List Value} {m : Sem Value} {Q : Value → Shared → Prop} (h : wpG M A m Q E s) : wpG M A (operate vs m) Q E s :=
  fun Γ p hΓ hd hb => by rw [Sem.wp_operate]; exact h Γ p hΓ hd hb

theorem gExecsNil {Q : Flow → Shared → Prop} (h : Q .next s) : wpG M A (execs [] env) Q E s := toG (wpAny_pure h)
theorem gExecs {st : Stmt} {rest : List Stmt} {Q : Flow → Shared → Prop}
    (h : wpG M A (exec st env) (fun f s' => match f with | .next => wpG M A (execs rest env) Q E s' | f => Q f s') E s) : wpG M A (execs (st :: rest) env) Q E s := by
  show wpG M A (exec st env >>= fun f => match f with | .next => execs rest env | f => pure f) Q E s
  refine gBind (gMono h (fun f s' h' => ?_) fun _ _ x => x)
  cases f <;> first | exact h' | exact gPure h'
/-- a statement of the library's logic -/
theorem gStep {st : Stmt} {rest : List Stmt} {Q : Flow → Shared → Prop}
    (h : wpAny M A (exec st env) (fun f s' => match f with | .next => wpG M A (execs rest env) Q E s' | f => Q f s') E s) : wpG M A (execs (st :: rest) env) Q E s := gExecs (toG h)

theorem gIf {test : Expr} {body orelse : List Stmt} {pos : Pos} {Q : Flow → Shared → Prop}
    (h : wpG M A (isTrue test env (eval test env)) (fun b s' => wpG M A (execs (if b = true then body else orelse) env) Q E s') E s) : wpG M A (exec (.If test body orelse pos) env) Q E s := by
  rw [exec_If]
  show wpG M A (standAt pos >>= fun _ => isTrue test env (eval test env) >>= fun b => if b then execs body env else execs orelse env) Q E s
  refine gBind (gAt (gBind (gMono h (fun b s' h' => ?_) fun _ _ x => x)))
  cases b <;> exact h'

theorem gCompare1 {l op r pos whole} {Q : Bool → Shared → Prop}
    (h : wpG M A (eval l env) (fun a s₁ => wpAny M A (eval r env) (fun b s₂ => wpAny M A (compareOp op a b)
      (fun c s₃ => wpAny M A (truthy c) Q E s₃) E s₂) E s₁) E s)
    (hm : behindInMarks op r = false := by with_unfolding_all rfl) : wpG M A (isTrue (.Compare l [op] [r] pos) env whole) Q E s := fun Γ p hΓ hd hb => by
  simp only [isTrue_Compare1, markedBehindIn_of_false hm, Sem.wp_bind', Sem.wp_holding, Sem.wp_cmd_standAt, Sem.wp_operate]
  exact Sem.wp_mono M Γ _ (fun a p₁ s₁ h₁ => Sem.wp_mono M Γ _ (fun b _ s₂ h₂ => Sem.wp_mono M Γ _ (fun c _ s₃ h₃ => h₃ Γ _ hΓ)
    (fun _ _ _ h' => h') _ _ (h₂ Γ _ hΓ)) (fun _ _ _ h' => h') _ _ (h₁ Γ p₁ hΓ)) (fun _ _ _ h' => h') _ _ (h Γ _ hΓ hd hb)

theorem gAssign {x pos' value pos} {Q : Flow → Shared → Prop}
    (h : wpG M A (eval value env) (fun v s₁ => wpAny M A (storeName env x v) (fun _ => Q .next) E s₁) E s)
    (hs : swapsWith value (some (.Name x pos')) pos.line env = pure false := by rfl) :
    wpG M A (exec (.Assign [.Name x pos'] value pos) env) Q E s := fun Γ p hΓ hd hb => by
  simp only [exec_Assign_Name env x pos' value pos hs, Sem.wp_bind', Sem.wp_cmd_standAt, Sem.wp_bindName, Sem.wp_pure']
  exact Sem.wp_mono M Γ _ (fun v _ s₁ h₁ => h₁ Γ _ hΓ) (fun _ _ _ h' => h') _ _ (h Γ _ hΓ hd hb)

theorem gAugAssign {x pos' op value pos} {Q : Flow → Shared → Prop}
    (h : wpAny M A (loadName env x) (fun old s₁ => wpAny M A (eval value env) (fun v s₂ => wpG M A (inplaceOp op old v)
      (fun r s₃ => wpAny M A (storeName env x r) (fun _ => Q .next) E s₃) E s₂) E s₁) E s) :
    wpG M A (exec (.AugAssign (.Name x pos') op value pos) env) Q E s := fun Γ p hΓ hd hb => by
  simp only [exec_AugAssign_Name, Sem.wp_bind', Sem.wp_holding, Sem.wp_cmd_standAt, Sem.wp_operate, Sem.wp_bindName, Sem.wp_pure']
  exact Sem.wp_mono M Γ _ (fun old p₁ s₁ h₁ => Sem.wp_mono M Γ _ (fun v _ s₂ h₂ => Sem.wp_mono M Γ _ (fun r _ s₃ h₃ => h₃ Γ _ hΓ)
    (fun _ _ _ h' => h') _ _ (h₂ Γ _ hΓ hd hb)) (fun _ _ _ h' => h') _ _ (h₁ Γ p₁ hΓ)) (fun _ _ _ h' => h') _ _ (h Γ _ hΓ)

theorem gReturn {e pos} {Q : Flow → Shared → Prop} (h : wpG M A (eval e env) (fun v => Q (.ret v)) E s) : wpG M A (exec (.Return (some e) pos) env) Q E s := fun Γ p hΓ hd hb => by
  simp only [exec_Return_some, Sem.wp_bind', Sem.wp_cmd_standAt, Sem.wp_pure']; exact h Γ _ hΓ hd hb

theorem gCallWithFn {pos : Pos} {a : Addr} {o : Obj} {fd : FuncData} {first : List Value} {args : List (Bool × Sem Value)} {Q : Value → Shared → Prop}
    (h : wpAny M A (evalArgs (.ref a) true args []) (fun x s₁ => (s₁.heap.get? a = some o ∧ o.data = .func fd) ∧ wpG M A (call (.ref a) (first ++ x.pos) x.kw) Q E s₁) E s) :
    wpG M A (callWith pos (.ref a) first args []) Q E s := by
  unfold callWith
  refine gBind (gHolding (gMono (toG h) (fun x s₁ h₁ => gBind (gAt ?_)) fun _ _ x => x))
  have tail : ∀ {t : Sem Value}, wpG M A t Q E s₁ → wpG M A (t >>= fun r => holding [r] point >>= fun _ => pure r) Q E s₁ :=
    fun ht => gBind (gMono ht (fun r s₂ hr => gBind (gHolding (gPoint' (gPure hr)))) fun _ _ x => x)
  cases hs : args.any (·.1) <;> simp only [List.any_nil, Bool.or_false] <;>
    refine gThen (m := keeperOf (.ref a)) ?_ <;> unfold keeperOf <;>
    refine wpAny_bind (wpAny_load h₁.1.1 ?_) <;> rw [h₁.1.2] <;> refine wpAny_pure ?_
  · show wpG M A (if args.length + 2 * 0 > 30 then (call (.ref a) (first ++ x.pos) x.kw >>= fun r => holding [r] point >>= fun _ => pure r) else (callMarked plainCall (.ref a) (first ++ x.pos) x.kw >>= fun r => holding [r] point >>= fun _ => pure r)) Q E s₁
    by_cases hh : args.length + 2 * 0 > 30
    · rw [if_pos hh]; exact tail h₁.2
    · rw [if_neg hh]; exact tail (by unfold callMarked; exact gKeep h₁.2)
  · first
      | exact tail (by unfold callMarked; exact gKeep h₁.2)
      | exact tail h₁.2

/-- a call of a built-in or of a type -/
theorem gCallWithOwn {pos : Pos} {f : Value} {args : List (Bool × Sem Value)} {Q : Value → Shared → Prop} (hk : keeperOf f = pure .machine) (hplain : args.any (·.1) = false)
    (h : wpAny M A (evalArgs f true args []) (fun a s₁ => wpG M A (call f a.pos a.kw) Q E s₁) E s) : wpG M A (callWith pos f [] args []) Q E s := by
  unfold callWith
  refine gBind (gHolding (gMono (toG h) (fun a s₁ h₁ => gBind (gAt ?_)) fun _ _ x => x))
  simp only [hplain, List.any_nil, Bool.or_false, hk, List.nil_append]
  refine gBind (gPure ?_)
  exact gBind (gMono h₁ (fun r s₂ hr => gBind (gHolding (gPoint' (gPure hr)))) fun _ _ x => x)

theorem gCallName {f : Str} {p pos : Pos} {args : List Expr} {Q : Value → Shared → Prop}
    (h : wpAny M A (eval (.Name f p) env) (fun v s₁ => wpG M A (callWith pos v [] (backTo pos (starEach args env)) []) Q E s₁) E s) :
    wpG M A (eval (.Call (.Name f p) args [] pos) env) Q E s := by
  rw [arm_eval_Call_Name']
  exact gThen h

theorem gTry {body orelse : List Stmt} {h₀ : ExceptHandler} {hs : List ExceptHandler} {pos : Pos} {Q : Flow → Shared → Prop}
    (h : wpG M A (execs body env) (fun f s₁ => match f with | .next => wpG M A (execs orelse env) Q E s₁ | f => Q f s₁)
      (fun e s₁ => wpAny M A (noteFrame e env) (fun _ s₂ => wpAny M A (setFlight e none) (fun _ s₃ => wpAny M A (handleBy e env (h₀ :: hs)) Q E s₃) E s₂) E s₁) s) :
    wpG M A (exec (.Try body (h₀ :: hs) orelse [] pos) env) Q E s := by
  rw [arm_exec_Try]
  refine gBind (gAt ?_)
  unfold tryStmt
  simp only [List.isEmpty_nil, if_true, List.isEmpty_cons, Bool.false_and, Bool.false_eq_true, if_false]
  refine gBind (gAttempt (gMono h (fun f s₁ h₁ => ?_) fun e s₁ h₁ => ?_))
  · cases f <;> first | exact h₁ | exact gPure h₁
  · exact toG (wpAny_bind (wpAny_mono h₁ (fun _ _ h₂ => wpAny_bind h₂) fun _ _ x => x))

theorem gNoted {α : Type} {m : Sem α} {Q : α → Shared → Prop} (h : wpG M A m Q (notedBy M A env E) s) : wpG M A (m.onRaise fun x => do noteFrame x env; theTreesLotGoes x) Q E s :=
  gOnRaise (gMono h (fun _ _ q => q) fun _ _ hx => gThen (wpAny_mono hx (fun _ _ e => toG (wpAny_theTreesLotGoes e)) fun _ _ e => e))
end

section
variable {prog : Program} {w : World} {A : Around} {E : Value → Shared → Prop} {R : Result → Shared → Prop} {s : Shared} {env : Env}

theorem funcG {body : List Stmt}
    (h : wpG (mdl prog w) (A.deeper env) (execs body env) (fun f s' => R (.ok (.ret (match f with | .ret v => v | _ => .none))) s')
      (fun e s' => wpAny (mdl prog w) (A.deeper env) (leaving env e) (fun _ s'' => R (.error e) s'') (fun e' s'' => R (.error e') s'') s') s) :
    codeG (mdl prog w) A (.func body env) R s := by
  refine codeG_tree rfl ?_
  show wpG _ (A.deeper env) (do point; match ← (execs body env).onRaise (leaving env) with | .ret v => ret v | _ => ret .none) _ _ s
  refine gBind (gPoint' (gBind (gOnRaise (gMono h (fun f s' h' => ?_) fun _ _ h' => toG h'))))
  cases f <;> exact gPure h'

/-- the call of a plain def, from its object -/
theorem callDefG {a : Addr} {args : Args} {o : Obj} {fd : FuncData} {body : List Stmt} (hroom : A.depth < recursionLimit)
    (ho : s.heap.get? a = some o) (hd : o.data = .func fd) (hco : fd.scope.isCoroutine = false) (hgen : fd.scope.isGenerator = false) (hbody : fd.body = .stmts body) (hcd : s.heap.CodeRec fd.code fd.qualname)
    (h : wpAny (mdl prog w) A.in1 (bindArgs fd args) (fun binds s₁ =>
      wpAny (mdl prog w) A.in1 (newFunctionEnv fd.scope fd.globals fd.closure binds (fd.qualname ++ ".<locals>.") (some a) fd.code none fd.builtins)
        (fun env s₂ => s₂.heap.NoLimit ∧ codeG (mdl prog w) A (.func body env) R s₂) (fun e s' => R (.error e) s') s₁) (fun e s' => R (.error e) s') s) :
    codeG (mdl prog w) A (.call (.ref a) args) R s := by
  refine codeG_tree rfl ?_
  show wpG _ A.in1 (callAny (.ref a) args) _ _ s
  simp only [callAny]
  refine gThen (wpAny_load ho ?_)
  obtain ⟨c, oc, vs, tq, hc, hoc, hdc, hq⟩ := hcd
  simp only [hd, callFunction, hco, hgen, hbody, hc]
  rw [hc] at h
  refine gThen (m := field (.ref c) 1) (wpAny_field hoc hdc hq ?_)
  refine gBind (gPure ?_)
  exact gThen (wpAny_mono h (fun binds s₁ h₁ => gThen (wpAny_mono h₁ (fun env s₂ h₂ => gThen (wpAny_enterFrame h₂.1 hroom
    (gPure (And.intro rfl h₂.2)))) fun _ _ h' => h')) fun _ _ h' => h')

theorem blockG {stmts : List Stmt} (h : wpG (mdl prog w) A (execs stmts env) (fun f s' => R (.ok f) s') (notedBy (mdl prog w) A env fun e s' => R (.error e) s') s) :
    codeG (mdl prog w) A (.block stmts env) R s := by
  refine codeG_tree rfl ?_
  show wpG _ A (do return Fin.done (← (execs stmts env).onRaise (fun x => do noteFrame x env; theTreesLotGoes x))) _ _ s
  exact gBind (gNoted (gMono h (fun f s' h' => gPure h') fun _ _ h' => h'))

/-- a loop whose next may be a generator's -/
theorem forLoopG {target : Expr} {it : Value} {body orelse : List Stmt} (I : Nat → Shared → Prop)
    (turn : ∀ n s, I n s → wpG (mdl prog w) A (pyNext it) (fun r s₁ => match r with
      | none => wpG (mdl prog w) A (execs orelse env) (fun f s₃ => R (.ok f) s₃) (notedBy (mdl prog w) A env fun e s' => R (.error e) s') s₁
      | some v => wpAny (mdl prog w) A (assign target env v) (fun _ s₂ => wpG (mdl prog w) A (execs body env) (fun f s₃ => match f with
          | .next | .cont => ∃ m, m < n ∧ I m s₃
          | .brk => R (.ok .next) s₃
          | .ret v => R (.ok (.ret v)) s₃) (notedBy (mdl prog w) A env fun e s' => R (.error e) s') s₂) (notedBy (mdl prog w) A env fun e s' => R (.error e) s') s₁) (notedBy (mdl prog w) A env fun e s' => R (.error e) s') s)
    (n : Nat) (h : I n s) (ht : ∀ v, letOwnedTupleGo target it v = pure () := by intro _; rfl) : codeG (mdl prog w) A (.forLoop target it body orelse env) R s := by
  refine codeG_loop rfl rfl I (fun n s hI => ?_) n h
  show wpG _ _ ((forTurn target it body orelse env).onRaise (fun x => do noteFrame x env; theTreesLotGoes x)) _ _ s
  refine gNoted ?_
  simp only [forTurn]
  refine gBind (gAt (gBind (gOnRaise (gMono (turn n s hI) (fun r s₁ h₁ => ?_) fun _ _ h' => gAt h'))))
  cases r with
  | none => exact gPure (.inr ⟨rfl, blockG h₁⟩)
  | some v =>
    refine gBind (gOfEq (ht v) ?_)
    refine gThen (wpAny_mono h₁ (fun _ s₂ h₂ => gBind (gMono h₂ (fun f s₃ h₃ => ?_) fun _ _ h' => h')) fun _ _ h' => h')
    cases f with
    | next => exact gPure (.inl ⟨rfl, h₃⟩)
    | cont => exact gPure (.inl ⟨rfl, h₃⟩)
    | brk => exact gPure h₃
    | ret v => exact gPure h₃

theorem gFor {target iter : Expr} {body orelse : List Stmt} {pos : Pos} {Q : Flow → Shared → Prop}
    (h : wpAny (mdl prog w) A (eval iter env) (fun x s₁ => wpAny (mdl prog w) A (pyIter x) (fun it s₂ =>
        codeG (mdl prog w) A (.forLoop target it body orelse env) (fun r s' => match r with | .ok f => Q f s' | .error e => cameBackBy (mdl prog w) A env E e s') s₂) E s₁) E s)
    (hs : ∀ x, foldedSetIterable iter env x = pure x := by intro _; rfl) :
    wpG (mdl prog w) A (exec (.For target iter body orelse pos) env) Q E s := by
  rw [exec_For]
  refine gBind (gAt (gThen (wpAny_mono h (fun x s₁ h₁ => gBind (gOfEq (hs x) (gBind (gAt (gBind (gHolding (gMono (toG h₁) (fun it s₂ h₂ => ?_) fun _ _ x => x)))))))
    fun _ _ x => x)))
  exact gRunOwn (h := none) (by
    have e : A.mark none = A := by obtain ⟨hd, _, _, _, _⟩ := A; cases hd <;> rfl
    rw [e]; exact h₂)

/-- a list comprehension -/
theorem gListComp {elt target iter : Expr} {ifs : List Expr} {rest : List Comprehension} {scope : Scope} {pos : Pos} {Q : Value → Shared → Prop}
    (hfree : ∀ x ∈ scope.names, x.2 ≠ .free) (hkind : scope.kind = .function) (hnames : ∀ x ∈ scope.names, x.2 = .local → scope.names.lookup x.1 = some .local)
    (h : wpAny (mdl prog w) A (eval iter env) (fun x s₁ => wpAny (mdl prog w) A (pyIter x) (fun it s₂ => wpAny (mdl prog w) A (newList []) (fun acc s₃ =>
      wpAny (mdl prog w) A (newFunctionEnv scope env.globals [] [] env.qual none .none (some env)) (fun cenv s₄ =>
        codeG (mdl prog w) A (.compStart (.ListComp elt (⟨target, iter, ifs, 0⟩ :: rest) scope pos) 0 it acc { cenv with scope := scope })
          (fun r s' => ∃ m, s'.heap.Ns cenv.locals m ∧ ∀ h', Heap.SameBut cenv.locals s'.heap h' →
            match r with | .ok _ => Q acc { s' with heap := h' } | .error x => wpAny (mdl prog w) A (passOn "comprehension.variables-let-go" x { cenv with scope := scope }) Q E { s' with heap := h' }) s₄) E s₃) E s₂) E s₁) E s)
    (hs : ∀ x, foldedSetIterable iter env x = pure x := by intro _; rfl) :
    wpG (mdl prog w) A (eval (.ListComp elt (⟨target, iter, ifs, 0⟩ :: rest) scope pos) env) Q E s := by
  rw [eval_ListComp]
  unfold comprehension
  rw [closureFor_none hfree]
  refine gThen (wpAny_mono h (fun x s₁ h₁ => gBind (gAt (gBind (gOfEq (hs x) (gBind (gHolding (gMono (toG h₁) (fun it s₂ h₂ => ?_) fun _ _ h' => h'))))))) fun _ _ h' => h')
  refine gThen (wpAny_mono h₂ (fun acc s₃ h₃ => gBind (gPure (gThen (wpAny_mono h₃ (fun cenv s₄ h₄ => ?_) fun _ _ h' => h')))) fun _ _ h' => h')
  dsimp only
  rw [map_eq_self (l := scope.names) (fun x hx => by
    obtain ⟨n, k⟩ := x
    have : (k == NameKind.free) = false := by simpa using hfree _ hx
    simp [this])]
  have hv : ∀ x ∈ (scope.names.filter fun x => (x.2 == .local || x.2 == .cell) && x.1 != (".0" : Str)).reverse, x.2 = .local →
      Env.kindOf { cenv with scope := scope } x.1 = some .local := fun x hx hl => hnames x (List.mem_filter.mp (List.mem_reverse.mp hx)).1 hl
  have em : A.mark none = A := by obtain ⟨hd, _, _, _, _⟩ := A; cases hd <;> rfl
  refine gHolding (gBind (gAttempt (gHolding (gRun (h := none) ?_))))
  rw [em]
  refine codeG_mono h₄ fun r s' hr => ?_
  obtain ⟨m, hn, hr⟩ := hr
  cases r with
  | ok f => exact gThen (wpAny_holding (wpAny_comp_letGo (cenv := { cenv with scope := scope }) hkind _ s' m hv hn fun h' m' _ hs' => gPure (hr h' hs')))
  | error x => exact gThen (wpAny_holding (wpAny_comp_letGo (cenv := { cenv with scope := scope }) hkind _ s' m hv hn fun h' m' _ hs' => toG (hr h' hs')))
end
end Mine

end
section
open PySem PySem.W PySem.W.X PySem.Calls PyProof.Rows
set_option maxRecDepth 100000
namespace Mine

section
variable {prog : Program} {w : World} {A : Around} {E : Value → Shared → Prop} {R : Result → Shared → Prop} {s : Shared} {env : Env}

theorem compStartG {elt target iter : Expr} {ifs : List Expr} {rest : List Comprehension} {scope : Scope} {pos : Pos} {it acc : Value}
    (h0 : codeG (mdl prog w) A (.compLoop (.ListComp elt (⟨target, iter, ifs, 0⟩ :: rest) scope pos) 0 it acc env) R s)
    (h : wpAny (mdl prog w) A (pyIter it) (fun it' s' => codeG (mdl prog w) A (.compLoop (.ListComp elt (⟨target, iter, ifs, 0⟩ :: rest) scope pos) 0 it' acc env) R s')
      (notedBy (mdl prog w) A env fun x s' => R (.error x) s') s) :
    codeG (mdl prog w) A (.compStart (.ListComp elt (⟨target, iter, ifs, 0⟩ :: rest) scope pos) 0 it acc env) R s := by
  refine codeG_tree rfl ?_
  show wpG _ _ ((compStart (.ListComp elt (⟨target, iter, ifs, 0⟩ :: rest) scope pos) 0 it acc env).onRaise (fun x => do noteFrame x env; standAt theWindowsPlace)) _ _ s
  refine toG (wpAny_notedAt ?_)
  unfold compStart
  show wpAny _ _ (ask >>= _) _ _ s
  refine wpAny_bind (wpAny_askSetting (wpAny_ite ?_))
  split
  · first
      | exact wpAny_bind (wpAny_pure (wpAny_pure (And.intro rfl h0)))
      | exact wpAny_pure (And.intro rfl h0)
  · refine wpAny_bind (wpAny_rule ?_)
    show wpAny _ _ (standAt iter.pos >>= _) _ _ s
    exact wpAny_bind (wpAny_standAt (wpAny_bind (wpAny_mono h (fun it' s' h' => wpAny_pure (And.intro rfl h')) fun _ _ x => x)))

theorem compLoopG {elt target iter : Expr} {scope : Scope} {pos : Pos} {it acc : Value} (I : Nat → Shared → Prop)
    (turn : ∀ n s, I n s → wpG (mdl prog w) A (pyNext it) (fun r s₁ => match r with
      | none => R (.ok .next) s₁
      | some v => wpAny (mdl prog w) A (assign target env v) (fun _ s₂ => wpG (mdl prog w) A (eval elt env) (fun x s₃ => wpAny (mdl prog w) A (call (.builtin "list.append") [acc, x])
          (fun _ s₄ => ∃ m, m < n ∧ I m s₄) (notedBy (mdl prog w) A env fun e s' => R (.error e) s') s₃) (notedBy (mdl prog w) A env fun e s' => R (.error e) s') s₂) (notedBy (mdl prog w) A env fun e s' => R (.error e) s') s₁)
      (notedBy (mdl prog w) A env fun e s' => R (.error e) s') s)
    (n : Nat) (h : I n s) (ht : ∀ v, letOwnedTupleGo target it v = pure () := by intro _; rfl) :
    codeG (mdl prog w) A (.compLoop (.ListComp elt [⟨target, iter, [], 0⟩] scope pos) 0 it acc env) R s := by
  refine codeG_loop rfl rfl I (fun n s hI => ?_) n h
  show wpG _ _ ((compTurn (.ListComp elt [⟨target, iter, [], 0⟩] scope pos) 0 it acc env).onRaise (fun x => do noteFrame x env; theTreesLotGoes x)) _ _ s
  refine gNoted ?_
  rw [compTurn_plain]
  refine gBind (gAt (gBind (gMono (turn n s hI) (fun r s₁ h₁ => ?_) fun _ _ h' => h')))
  cases r with
  | none => exact gPure h₁
  | some v =>
    refine gBind (gOfEq (ht v) ?_)
    refine gThen (wpAny_mono h₁ (fun _ s₂ h₂ => gBind (gBind (gMono h₂ (fun x s₃ h₃ => gThen (wpAny_mono h₃ (fun _ s₄ h₄ => gPure ?_) fun _ _ h' => h')) fun _ _ h' => h'))) fun _ _ h' => h')
    exact gPure (.inl ⟨rfl, h₄⟩)
end
end Mine

end
section
open PySem PySem.W PySem.W.X PySem.Calls PyProof.Rows
set_option maxRecDepth 100000
namespace Mine

abbrev framesOf (l : List Env) : List Addr := l.filterMap (·.frame)

theorem FunFrames.keepAt {base h h' : Heap} : ∀ {l : List Env}, h.FunFrames base l → (∀ b o, b ∈ framesOf l → h.get? b = some o → h'.get? b = some o) → h'.FunFrames base l
  | [], _, _ => trivial
  | env :: rest, hl, hk => by
    obtain ⟨h1, ⟨L, o, hf, hn, ho, hd⟩, hr⟩ := hl
    have hm : L ∈ framesOf (env :: rest) := by simp [framesOf, hf]
    refine ⟨h1, ⟨L, o, hf, hn, hk L o hm ho, hd⟩, FunFrames.keepAt hr fun b o' hb ho' => hk b o' ?_ ho'⟩
    simp only [framesOf, List.filterMap_cons, hf]
    exact .tail _ hb

/-- a state in which the generator may be woken: its own stands as in s₀ -/
structure AtW (h₀ base : Heap) (outer : List Env) (P : List Addr) (G : List Nat) (s₀ s : Shared) : Prop where
  own : ∀ b o, b ∈ P → s₀.heap.get? b = some o → s.heap.get? b = some o
  gens : ∀ g, g ∈ G → s.gens[g]? = s₀.gens[g]?
  old : ∀ b o, h₀.get? b = some o → s.heap.get? b = some o
  fr : s.heap.FunFrames base outer
  frP : ∀ x, x ∈ framesOf outer → x ∉ P
  frOld : ∀ x, x ∈ framesOf outer → h₀.get? x = none

/-- what a wake leaves -/
structure Woke (P : List Addr) (G : List Nat) (s s' : Shared) (P' : List Addr) (G' : List Nat) : Prop where
  keep : ∀ b o, b ∉ P → s.heap.get? b = some o → s'.heap.get? b = some o
  gkeep : ∀ g, g < s.gens.size → g ∉ G → s'.gens[g]? = s.gens[g]?
  gsize : s.gens.size ≤ s'.gens.size
  bare : AllBare s.gens → AllBare s'.gens
  os : s'.os = s.os
  newP : ∀ b, b ∈ P' → b ∈ P ∨ s.heap.get? b = none
  newG : ∀ g, g ∈ G' → g ∈ G ∨ s.gens.size ≤ g

theorem Woke.refl (P : List Addr) (G : List Nat) (s : Shared) : Woke P G s s P G :=
  ⟨fun _ _ _ h => h, fun _ _ _ => rfl, Nat.le_refl _, id, rfl, fun _ h => .inl h, fun _ h => .inl h⟩
theorem Woke.trans {P P₁ P₂ : List Addr} {G G₁ G₂ : List Nat} {s s₁ s₂ : Shared} (x : Woke P G s s₁ P₁ G₁) (y : Woke P₁ G₁ s₁ s₂ P₂ G₂) : Woke P G s s₂ P₂ G₂ := by
  refine ⟨fun b o hb h => y.keep b o (fun q => ?_) (x.keep b o hb h), fun g hg hG => ?_, Nat.le_trans x.gsize y.gsize, y.bare ∘ x.bare, y.os.trans x.os, fun b hb => ?_, fun g hg => ?_⟩
  · rcases x.newP b q with q | q
    · exact hb q
    · rw [h] at q; cases q
  · refine (y.gkeep g (Nat.lt_of_lt_of_le hg x.gsize) fun q => ?_).trans (x.gkeep g hg hG)
    rcases x.newG g q with q | q
    · exact hG q
    · omega
  · rcases y.newP b hb with q | q
    · exact x.newP b q
    · by_cases hP : b ∈ P
      · exact .inl hP
      refine .inr ?_
      cases r : s.heap.get? b with
      | none => rfl
      | some o => have h' := x.keep b o hP r; rw [q] at h'; cases h'
  · rcases y.newG g hg with q | q
    · exact x.newG g q
    · exact .inr (Nat.le_trans x.gsize q)
/-- a step that changes own objects alone, and may make some -/
theorem Woke.heap {P P' : List Addr} {G : List Nat} {s : Shared} {h' : Heap} {tk : Nat} (hk : ∀ b o, b ∉ P → s.heap.get? b = some o → h'.get? b = some o)
    (hn : ∀ b, b ∈ P' → b ∈ P ∨ s.heap.get? b = none) : Woke P G s { s with heap := h', toks := tk } P' G :=
  ⟨hk, fun _ _ _ => rfl, Nat.le_refl _, id, rfl, hn, fun _ h => .inl h⟩

section
variable {β : Type} (M : Model) (A : Around) (h₀ base : Heap) (outer : List Env) (Out : List Addr → Heap → Value → β → Prop) (bad : Bool)

/-- how a wake ends, where these outputs are still to come -/
def EndW (Rd : GenState → List Addr → List Nat → Shared → Prop) (outs : List β) (P : List Addr) (G : List Nat) (s : Shared) (e : End) (s' : Shared) : Prop := match outs with
  | b :: _ => ∃ v g l k c p fs P' G', e = .susp v g l k c p fs ∧ Out P' s'.heap v b ∧ Woke P G s s' P' G' ∧ Rd e.genState P' G' s'
  | [] => if bad = true then ∃ x d, e = .ret (.error (.ref x)) ∧ Flying P (framesOf outer) s.heap x d (some .none) s'.heap ∧
        (∀ g, g < s.gens.size → g ∉ G → s'.gens[g]? = s.gens[g]?) ∧ s.gens.size ≤ s'.gens.size ∧ (AllBare s.gens → AllBare s'.gens) ∧ s'.os = s.os
    else e = .ret (.ok (.ret .none)) ∧ ∃ P' G', Woke P G s s' P' G'

/-- the generator is ready to tell these outputs -/
def Ready : List β → GenState → List Addr → List Nat → Shared → Prop
  | [], gs, P, G, s₀ => ∀ s, AtW h₀ base outer P G s₀ s → WakableG M A gs s (EndW outer Out bad (fun _ _ _ _ => True) [] P G s)
  | b :: outs, gs, P, G, s₀ => ∀ s, AtW h₀ base outer P G s₀ s → WakableG M A gs s (EndW outer Out bad (Ready outs) (b :: outs) P G s)

/-- the same, with the tail told -/
abbrev EndR (outs : List β) (P : List Addr) (G : List Nat) (s : Shared) (e : End) (s' : Shared) : Prop := match outs with
  | [] => EndW outer Out bad (fun _ _ _ _ => True) [] P G s e s'
  | b :: outs => EndW outer Out bad (Ready M A h₀ base outer Out bad outs) (b :: outs) P G s e s'
end
theorem ready_of {β : Type} {M : Model} {A : Around} {h₀ base : Heap} {outer : List Env} {Out : List Addr → Heap → Value → β → Prop} {bad : Bool} {outs : List β} {gs : GenState} {P : List Addr} {G : List Nat} {s₀ : Shared}
    (h : ∀ s, AtW h₀ base outer P G s₀ s → WakableG M A gs s (EndR M A h₀ base outer Out bad outs P G s)) : Ready M A h₀ base outer Out bad outs gs P G s₀ := by
  cases outs <;> exact h
theorem ready_to {β : Type} {M : Model} {A : Around} {h₀ base : Heap} {outer : List Env} {Out : List Addr → Heap → Value → β → Prop} {bad : Bool} {outs : List β} {gs : GenState} {P : List Addr} {G : List Nat} {s₀ : Shared}
    (h : Ready M A h₀ base outer Out bad outs gs P G s₀) : ∀ s, AtW h₀ base outer P G s₀ s → WakableG M A gs s (EndR M A h₀ base outer Out bad outs P G s) := by
  cases outs <;> exact h
end Mine

end
section
set_option maxRecDepth 100000
namespace Mine
section
open PySem

def topSt (n : Nat) : Stmt := prog₀.main.body.getD n (.Pass default)
def intOf : Expr → Nat
  | .Constant (.int i) _ _ => i.toNat
  | _ => 0
def codeOfSt : Stmt → Array Nat
  | .Assign _ (.Call _ (_ :: _ :: .List es _ :: _) _ _) _ => (es.map intOf).toArray
  | _ => #[]
/-- the compiled header pattern, as the program's text has it -/
def hdrC : Array Nat := codeOfSt (topSt 7)
def foldC : Array Nat := codeOfSt (topSt 8)

end
theorem hdrC_size : hdrC.size = 109 := by decide +kernel
theorem foldC_size : foldC.size = 18 := by decide +kernel

namespace Rx
open PySem.Sre PySem.Sre.M

/-- within n steps m comes to P -/
def Reach (n : Nat) (m : M) (P : M → Prop) : Prop := ∃ k, k ≤ n ∧ P (m.runFor k)

theorem runFor_some {k : Nat} {m : M} (h : m.outcome.isSome = true) : m.runFor k = m := by
  cases k with
  | zero => rfl
  | succ k => simp [M.runFor, h]
theorem runFor_add (a b : Nat) (m : M) : m.runFor (a + b) = (m.runFor a).runFor b := by
  induction a generalizing m with
  | zero => simp [M.runFor]
  | succ a ih =>
    rw [Nat.succ_add]
    cases h : m.outcome.isSome with
    | true => rw [runFor_some h, runFor_some h, runFor_some h]
    | false => simp [M.runFor, h, ih]

theorem Reach.zero {n : Nat} {m : M} {P : M → Prop} (h : P m) : Reach n m P := ⟨0, Nat.zero_le _, h⟩
theorem Reach.step {n : Nat} {m : M} {P : M → Prop} (ho : m.outcome = none) (h : Reach n m.step P) : Reach (n + 1) m P := by
  obtain ⟨k, hk, hp⟩ := h
  refine ⟨k + 1, by omega, ?_⟩
  simp [M.runFor, ho]; exact hp
theorem Reach.trans {a b : Nat} {m : M} {P Q : M → Prop} (h : Reach a m P) (hq : ∀ m', P m' → Reach b m' Q) : Reach (a + b) m Q := by
  obtain ⟨k, hk, hp⟩ := h
  obtain ⟨j, hj, hp'⟩ := hq _ hp
  exact ⟨k + j, by omega, by rw [runFor_add]; exact hp'⟩
theorem Reach.mono {a b : Nat} {m : M} {P Q : M → Prop} (h : Reach a m P) (hab : a ≤ b) (hq : ∀ m', P m' → Q m') : Reach b m Q := by
  obtain ⟨k, hk, hp⟩ := h
  exact ⟨k, by omega, hq _ hp⟩
theorem Reach.le {a b : Nat} {m : M} {P : M → Prop} (h : Reach a m P) (hab : a ≤ b) : Reach b m P := h.mono hab fun _ x => x

/-- the marks' number -/
def zOf (C : Array Nat) : Nat := if C.size = 109 then 6 else 0
theorem zOf_le (C : Array Nat) : zOf C ≤ 6 := by unfold zOf; split <;> decide

/-- what the machine carries -/
structure Base (C t : Array Nat) (W : Bool) (m : M) (fr : List Frame) (lp : Array Loop) (inn : Option Nat) (w : Nat) (ms : Array (Option Nat)) (lm : Int) : Prop where
  code : m.code = C
  text : m.text = t
  lim : m.lim = t.size
  whole : m.wholeText = W
  must : m.mustAdvance = false
  start : m.start = 0
  out : m.outcome = none
  fr : m.frames = fr
  lp : m.loops = lp
  inn : m.inner = inn
  w : m.weight = w
  mz : ms.size = zOf C
  ms : m.marks = ms
  lm : m.lastmark = lm

structure St (C t : Array Nat) (W : Bool) (m : M) (pc pos : Nat) (fr : List Frame) (lp : Array Loop) (inn : Option Nat) (w : Nat) (ms : Array (Option Nat)) (lm : Int) : Prop extends
    Base C t W m fr lp inn w ms lm where
  ans : m.answer = none
  pc : m.pc = pc
  pos : m.pos = pos
  om : m.outermost = true

theorem Base.msz {C t : Array Nat} {W : Bool} {m : M} {fr : List Frame} {lp : Array Loop} {inn : Option Nat} {w : Nat} {ms : Array (Option Nat)} {lm : Int} (s : Base C t W m fr lp inn w ms lm) : ms.size ≤ 6 := by
  rw [s.mz]; exact zOf_le C

structure Ret (C t : Array Nat) (W : Bool) (m : M) (fr : List Frame) (lp : Array Loop) (inn : Option Nat) (w : Nat) (ms : Array (Option Nat)) (lm : Int) (b : Bool) : Prop extends
    Base C t W m fr lp inn w ms lm where
  ans : m.answer = some b

section
variable {C t : Array Nat} {W : Bool} {m : M} {pc pos : Nat} {fr : List Frame} {lp : Array Loop} {inn : Option Nat} {w : Nat} {ms : Array (Option Nat)} {lm : Int} {b : Bool}

theorem St.step_eq (s : St C t W m pc pos fr lp inn w ms lm) (hpc : pc < C.size) : m.step = m.exec := by
  unfold M.step
  simp [s.out, s.ans, s.pc, s.code, hpc]

theorem Ret.step_eq {f : Frame} {rest : List Frame} (s : Ret C t W m (f :: rest) lp inn w ms lm b) :
    m.step = resume { m with answer := none, frames := rest, weight := w - (1 + f.kept.marks.size), pc := f.pc, pos := f.pos, outermost := f.outermost } f b := by
  unfold M.step
  simp [s.out, s.ans, s.fr, s.w]

theorem fold_size {lm : Int} (l : List Nat) (ms : Array (Option Nat)) :
    (l.foldl (fun (a : Array (Option Nat)) (j : Nat) => if (j : Int) > lm then a.setIfInBounds j none else a) ms).size = ms.size := by
  induction l generalizing ms with
  | nil => rfl
  | cons x l ih =>
    rw [List.foldl_cons, ih]
    split
    · exact Array.size_setIfInBounds ..
    · rfl

/-- MARK -/
theorem St.mark (s : St C t W m pc pos fr lp inn w ms lm) (hpc : pc < C.size) (h0 : C.getD pc 0 = 17) {i : Nat} (h1 : C.getD (pc + 1) 0 = i) :
    ∃ ms', St C t W m.step (pc + 2) pos fr lp inn w ms' (max lm i) ∧ ms' = (if (i : Int) ≤ lm + 1 then ms
      else (List.range i).foldl (fun (a : Array (Option Nat)) (j : Nat) => if (j : Int) > lm then a.setIfInBounds j none else a) ms).setIfInBounds i (some pos) := by
  refine ⟨_, ?_, rfl⟩
  rw [s.step_eq hpc]
  have e0 : m.word 0 = 17 := by simp [M.word, s.pc, s.code, h0]
  have e1 : m.word 1 = i := by simp [M.word, s.pc, s.code, h1]
  have e : m.exec = ({ m with seen := m.seen.add 17 } : M).mark i := by
    unfold M.exec
    simp only [e0]
    show ({ m with seen := m.seen.add 17 } : M).mark (m.word 1) = _
    rw [e1]
  rw [e]
  simp only [M.mark]
  constructor
  · refine ⟨s.code, s.text, s.lim, s.whole, s.must, s.start, s.out, s.fr, s.lp, s.inn, s.w, ?_, by simp [s.ms, s.lm, s.pos], by simp [s.lm]⟩
    rw [Array.size_setIfInBounds]
    split
    · exact s.mz
    · rw [fold_size]; exact s.mz
  · exact s.ans
  · simp [s.pc]
  · exact s.pos
  · exact s.om

/-- SUCCESS, refused -/
theorem St.successNo (s : St C t true m pc pos fr lp inn w ms lm) (hpc : pc < C.size) (h0 : C.getD pc 0 = 1) (hp : pos ≠ t.size) :
    Ret C t true m.step fr lp inn w ms lm false := by
  rw [s.step_eq hpc]
  have e0 : m.word 0 = 1 := by simp [M.word, s.pc, s.code, h0]
  have e : m.exec = ({ m with seen := m.seen.add 1 } : M).say false := by
    unfold M.exec
    simp only [e0]
    show (if (m.outermost && ((m.wholeText && m.pos != m.lim) || (m.mustAdvance && m.pos == m.start))) = true then _ else _) = _
    rw [if_pos]
    simp [s.om, s.whole, s.pos, s.lim, hp]
  rw [e]
  exact ⟨⟨s.code, s.text, s.lim, s.whole, s.must, s.start, s.out, s.fr, s.lp, s.inn, s.w, s.mz, s.ms, s.lm⟩, rfl⟩

theorem St.successYes (s : St C t W m pc pos fr lp inn w ms lm) (hpc : pc < C.size) (h0 : C.getD pc 0 = 1) (hp : W = true → pos = t.size) :
    Ret C t W m.step fr lp inn w ms lm true ∧ m.step.handed = pos := by
  rw [s.step_eq hpc]
  have e0 : m.word 0 = 1 := by simp [M.word, s.pc, s.code, h0]
  have e : m.exec = ({ m with seen := m.seen.add 1, handed := m.pos } : M).say true := by
    unfold M.exec
    simp only [e0]
    show (if (m.outermost && ((m.wholeText && m.pos != m.lim) || (m.mustAdvance && m.pos == m.start))) = true then _ else _) = _
    rw [if_neg]
    cases W <;> simp_all [s.om, s.whole, s.pos, s.lim, s.must]
  rw [e]
  exact ⟨⟨⟨s.code, s.text, s.lim, s.whole, s.must, s.start, s.out, s.fr, s.lp, s.inn, s.w, s.mz, s.ms, s.lm⟩, rfl⟩, s.pos⟩

/-- one character's set -/
def Acc (C : Array Nat) (i : Nat) (f : Nat → Bool) : Prop := ∀ c seen, c < 256 → ∃ seen', accepts C i c seen = .ok (f c, seen')

def span (f : Nat → Bool) (t : Array Nat) : Nat → Nat → Nat
  | 0, _ => 0
  | n + 1, p => if f (t.getD p 0) then span f t n (p + 1) + 1 else 0

theorem span_le (f : Nat → Bool) (t : Array Nat) (n p : Nat) : span f t n p ≤ n := by
  induction n generalizing p with
  | zero => exact Nat.le_refl _
  | succ n ih => 
    unfold span
    split
    · exact Nat.succ_le_succ (ih _)
    · exact Nat.zero_le _
theorem span_all {f : Nat → Bool} {t : Array Nat} {n p j : Nat} (h : j < span f t n p) : f (t.getD (p + j) 0) = true := by
  induction n generalizing p j with
  | zero => cases h
  | succ n ih =>
    unfold span at h
    split at h
    · rename_i hf
      cases j with
      | zero => exact hf
      | succ j =>
        have := ih (p := p + 1) (j := j) (by omega)
        rwa [show p + (j + 1) = p + 1 + j by omega]
    · cases h
theorem span_stop {f : Nat → Bool} {t : Array Nat} {n p : Nat} (h : span f t n p < n) : f (t.getD (p + span f t n p) 0) = false := by
  induction n generalizing p with
  | zero => cases h
  | succ n ih =>
    unfold span at h ⊢
    split
    · rename_i hf
      rw [if_pos hf] at h
      have := ih (p := p + 1) (by omega)
      rwa [show p + (span f t n (p + 1) + 1) = p + 1 + span f t n (p + 1) by omega]
    · rename_i hf
      simpa using hf

theorem run_eq {i : Nat} {f : Nat → Bool} (ht : ∀ p, t.getD p 0 < 256) (ha : Acc C i f) (n p found : Nat) (seen : Seen) : ∃ seen', run C t i n p found seen = .ok (found + span f t n p, seen') := by
  induction n generalizing p found seen with
  | zero => exact ⟨seen, rfl⟩
  | succ n ih =>
    obtain ⟨s1, e1⟩ := ha (t.getD p 0) seen (ht p)
    unfold run span
    rw [e1]
    cases hf : f (t.getD p 0) with
    | false => exact ⟨s1, rfl⟩
    | true =>
      obtain ⟨s2, e2⟩ := ih (p + 1) (found + 1) s1
      refine ⟨s2, ?_⟩
      show run C t i n (p + 1) (found + 1) s1 = _
      rw [e2]
      simp; omega

/-- a frame that may give back -/
structure GB (C : Array Nat) (g : Frame) (pc pos n : Nat) : Prop where
  wait : g.wait = .giveBack
  pc : g.pc = pc
  pos : g.pos = pos
  om : g.outermost = true
  count : g.count = n
  kz : g.kept.marks.size ≤ zOf C

theorem GB.kept {C : Array Nat} {g : Frame} {pc pos n : Nat} (h : GB C g pc pos n) : g.kept.marks.size ≤ 6 := Nat.le_trans h.kz (zOf_le C)

theorem keep_sizeZ {z : Nat} (b : Bool) (h : m.marks.size ≤ z) : (m.keep b).marks.size ≤ z := by
  unfold M.keep
  cases b
  · simp
  · simp only [if_true, Array.size_extract]; omega
theorem keep_size (b : Bool) (h : m.marks.size ≤ 6) : (m.keep b).marks.size ≤ 6 := keep_sizeZ b h

/-- pushing a frame -/
theorem attempt_St {m : M} {f : Frame} {target pos' : Nat} (s : Base C t W m fr lp inn w ms lm) (ha : m.answer = none) (hw : w ≤ 16000000) (hf : f.kept.marks.size ≤ 6) :
    St C t W (m.attempt f target pos' true) target pos' (f :: fr) lp inn (w + 1 + f.kept.marks.size) ms lm := by
  unfold M.attempt
  rw [if_neg (by rw [s.w]; omega)]
  exact ⟨⟨s.code, s.text, s.lim, s.whole, s.must, s.start, s.out, by simp [s.fr], s.lp, s.inn, by simp [s.w], s.mz, s.ms, s.lm⟩, ha, rfl, rfl, rfl⟩

theorem afterRun_St {m : M} (s : Base C t W m fr lp inn w ms lm) (ha : m.answer = none) (hpc : m.pc = pc) (hpos : m.pos = pos) (hom : m.outermost = true) {skip n : Nat} (h1 : C.getD (pc + 1) 0 = skip)
    (hw : w ≤ 16000000) (k : Kept) (hk : k.marks.size ≤ zOf C) :
    ∃ g : Frame, GB C g pc pos n ∧ g.kept = k ∧ St C t W (m.afterRun .giveBack n k) (pc + 1 + skip) pos (g :: fr) lp inn (w + 1 + g.kept.marks.size) ms lm := by
  refine ⟨{ m.frame .giveBack with count := n, kept := k }, ⟨rfl, hpc, hpos, hom, rfl, hk⟩, rfl, ?_⟩
  have h := attempt_St (f := { m.frame .giveBack with count := n, kept := k }) (target := pc + 1 + skip) (pos' := pos) s ha hw (Nat.le_trans hk (zOf_le C))
  have e5 : m.afterRun .giveBack n k = m.attempt { m.frame .giveBack with count := n, kept := k } (pc + 1 + skip) pos true := by
    unfold M.afterRun M.word
    rw [s.code, hpc, hpos, hom, h1]
  rw [e5]
  exact h

theorem putBack_Base {m : M} (s : Base C t W m fr lp inn w ms lm) (k : Kept) (hk : k.marks.size ≤ zOf C) : ∃ ms' lm', Base C t W (m.putBack k) fr lp inn w ms' lm' := by
  refine ⟨_, _, ⟨s.code, s.text, s.lim, s.whole, s.must, s.start, s.out, s.fr, s.lp, s.inn, s.w, ?_, rfl, rfl⟩⟩
  show (if k.whole = true then k.marks ++ m.marks.extract k.marks.size m.marks.size else m.marks).size = zOf C
  have := s.mz
  rw [← s.ms] at this
  split
  · rw [Array.size_append, Array.size_extract]; omega
  · exact this

theorem pop_Base {g : Frame} {p : Nat} {om : Bool} (s : Ret C t W m (g :: fr) lp inn (w + 1 + g.kept.marks.size) ms lm b) :
    Base C t W ({ m with answer := none, frames := fr, weight := (w + 1 + g.kept.marks.size) - (1 + g.kept.marks.size), pc := g.pc, pos := p, outermost := om } : M) fr lp inn w ms lm :=
  ⟨s.code, s.text, s.lim, s.whole, s.must, s.start, s.out, rfl, s.lp, s.inn, by show w + 1 + g.kept.marks.size - (1 + g.kept.marks.size) = w; omega, s.mz, s.ms, s.lm⟩

/-- a failed way: one octet given back, or the end -/
theorem Ret.back {g : Frame} {n least skip : Nat} (s : Ret C t W m (g :: fr) lp inn (w + 1 + g.kept.marks.size) ms lm false) (hg : GB C g pc (pos + n) n)
    (h1 : C.getD (pc + 1) 0 = skip) (h2 : C.getD (pc + 2) 0 = least) (hw : w ≤ 16000000) :
    (n = least ∨ n = 0 → ∃ ms' lm', Ret C t W m.step fr lp inn w ms' lm' false) ∧
    (least < n → ∃ g' ms' lm', GB C g' pc (pos + (n - 1)) (n - 1) ∧ St C t W m.step (pc + 1 + skip) (pos + (n - 1)) (g' :: fr) lp inn (w + 1 + g'.kept.marks.size) ms' lm') := by
  rw [s.step_eq]
  have hB := pop_Base (p := g.pos) (om := g.outermost) s
  obtain ⟨ms', lm', hB'⟩ := putBack_Base hB g.kept hg.kz
  have e2 : ({ m with answer := none, frames := fr, weight := (w + 1 + g.kept.marks.size) - (1 + g.kept.marks.size), pc := g.pc, pos := g.pos, outermost := g.outermost } : M).word 2 = least := by
    show m.code.getD (g.pc + 2) 0 = _
    rw [s.code, hg.pc, h2]
  unfold resume
  simp only [hg.wait]
  rw [if_neg (by decide), e2, hg.count]
  refine ⟨fun h => ?_, fun h => ?_⟩
  · rw [if_pos (by omega)]
    exact ⟨ms', lm', ⟨hB'.code, hB'.text, hB'.lim, hB'.whole, hB'.must, hB'.start, hB'.out, hB'.fr, hB'.lp, hB'.inn, hB'.w, hB'.mz, hB'.ms, hB'.lm⟩, rfl⟩
  · rw [if_neg (by omega)]
    rw [show ((n : Int) - 1) = ((n - 1 : Nat) : Int) by omega]
    obtain ⟨g', hg', _, hs⟩ := afterRun_St (m := { ({ m with answer := none, frames := fr, weight := (w + 1 + g.kept.marks.size) - (1 + g.kept.marks.size), pc := g.pc, pos := g.pos, outermost := g.outermost } : M).putBack g.kept with pos := g.pos - 1 })
      (pc := pc) (pos := pos + (n - 1)) (n := n - 1) (t := t) (W := W) (fr := fr) (lp := lp) (inn := inn) (w := w) (ms := ms') (lm := lm')
      ⟨hB'.code, hB'.text, hB'.lim, hB'.whole, hB'.must, hB'.start, hB'.out, hB'.fr, hB'.lp, hB'.inn, hB'.w, hB'.mz, hB'.ms, hB'.lm⟩ rfl hg.pc (by show g.pos - 1 = _; rw [hg.pos]; omega) hg.om h1 hw g.kept hg.kz
    exact ⟨g', ms', lm', hg', hs⟩

theorem St.rep (s : St C t W m pc pos fr lp inn w ms lm) (hpc : pc < C.size) (h0 : C.getD pc 0 = 24) {skip least : Nat} {f : Nat → Bool} (h1 : C.getD (pc + 1) 0 = skip) (h2 : C.getD (pc + 2) 0 = least)
    (h3 : C.getD (pc + 3) 0 = 4294967295) (hA : Acc C (pc + 4) f) (ht : ∀ p, t.getD p 0 < 256) (hz : t.size ≤ 1000) (hw : w ≤ 16000000) {n : Nat} (hn : span f t (t.size - pos) pos = n) (hp : pos ≤ t.size) :
    (n < least → Ret C t W m.step fr lp inn w ms lm false) ∧
    (least ≤ n → ∃ g w', GB C g pc (pos + n) n ∧ w' = w + 1 + g.kept.marks.size ∧ St C t W m.step (pc + 1 + skip) (pos + n) (g :: fr) lp inn w' ms lm) := by
  rw [s.step_eq hpc]
  have e0 : m.word 0 = 24 := by simp [M.word, s.pc, s.code, h0]
  have e1 : m.word 1 = skip := by simp [M.word, s.pc, s.code, h1]
  have e2 : m.word 2 = least := by simp [M.word, s.pc, s.code, h2]
  have e3 : m.word 3 = 4294967295 := by simp [M.word, s.pc, s.code, h3]
  have hle := span_le f t (t.size - pos) pos
  rw [hn] at hle
  obtain ⟨seen', er⟩ := run_eq ht hA (t.size - pos) pos 0 ((m.seen.add 24).add (m.word 4))
  rw [hn, Nat.zero_add] at er
  have hmin : min 4294967295 ((m.lim : Int) - m.pos).toNat = t.size - pos := by rw [s.lim, s.pos]; omega
  have er' : run m.code m.text (m.pc + 4) (min (m.word 3) ((m.lim : Int) - m.pos).toNat) m.pos 0 ((m.seen.add 24).add (m.word 4)) = .ok (n, seen') := by
    rw [e3, hmin, s.code, s.text, s.pc, s.pos, er]
  by_cases hroom : (least : Int) > (m.lim : Int) - m.pos
  · have hroom' : n < least := by rw [s.lim, s.pos] at hroom; omega
    refine ⟨fun _ => ?_, fun h => absurd h (by omega)⟩
    have e : m.exec = ({ m with seen := m.seen.add 24 } : M).say false := by
      unfold M.exec
      simp only [e0]
      show (if ((m.word 2 : Nat) : Int) > (m.lim : Int) - m.pos then _ else _) = _
      rw [e2, if_pos hroom]
    rw [e]
    exact ⟨⟨s.code, s.text, s.lim, s.whole, s.must, s.start, s.out, s.fr, s.lp, s.inn, s.w, s.mz, s.ms, s.lm⟩, rfl⟩
  · have e : m.exec = (if n < least then ({ m with seen := seen' } : M).say false else ({ m with seen := seen', pos := m.pos + n } : M).afterRun .giveBack n (({ m with seen := seen', pos := m.pos + n } : M).keep m.inner.isSome)) := by
      unfold M.exec
      simp only [e0]
      show (if ((m.word 2 : Nat) : Int) > (m.lim : Int) - m.pos then _ else match run m.code m.text (m.pc + 4) (min (m.word 3) ((m.lim : Int) - m.pos).toNat) m.pos 0 ((m.seen.add 24).add (m.word 4)) with
        | .error why => _
        | .ok (n, seen) => _) = _
      rw [if_neg (by rw [e2]; exact hroom), er']
      show (if n < m.word 2 then _ else _) = _
      rw [e2]
      rfl
    rw [e]
    refine ⟨fun h => ?_, fun h => ?_⟩
    · rw [if_pos h]
      exact ⟨⟨s.code, s.text, s.lim, s.whole, s.must, s.start, s.out, s.fr, s.lp, s.inn, s.w, s.mz, s.ms, s.lm⟩, rfl⟩
    · rw [if_neg (by omega)]
      have hk := keep_sizeZ (z := zOf C) (m := { m with seen := seen', pos := m.pos + n }) m.inner.isSome (by show m.marks.size ≤ _; rw [s.ms, s.mz]; exact Nat.le_refl _)
      have hm : Base C t W ({ m with seen := seen', pos := m.pos + n } : M) fr lp inn w ms lm := ⟨s.code, s.text, s.lim, s.whole, s.must, s.start, s.out, s.fr, s.lp, s.inn, s.w, s.mz, s.ms, s.lm⟩
      obtain ⟨g, hg, _, hs⟩ := afterRun_St (n := n) hm s.ans s.pc (by show m.pos + n = _; rw [s.pos]) s.om h1 hw _ hk
      exact ⟨g, _, hg, rfl, hs⟩

/-- from here, whatever the marks, the machine answers no and all stands as it stood -/
def FailsAt (C t : Array Nat) (N pc pos : Nat) (fr : List Frame) (lp : Array Loop) (inn : Option Nat) (w : Nat) : Prop :=
  ∀ m ms lm, St C t true m pc pos fr lp inn w ms lm → Reach N m fun m' => ∃ ms' lm', Ret C t true m' fr lp inn w ms' lm' false

theorem FailsAt.le {N N' : Nat} (h : FailsAt C t N pc pos fr lp inn w) (hn : N ≤ N') : FailsAt C t N' pc pos fr lp inn w :=
  fun m ms lm s => (h m ms lm s).le hn

theorem backs {skip least N2 : Nat} (h1 : C.getD (pc + 1) 0 = skip) (h2 : C.getD (pc + 2) 0 = least) (hw : w ≤ 16000000) {n : Nat}
    (hlow : ∀ j, least ≤ j → j < n → ∀ g w', w' ≤ w + 7 → FailsAt C t N2 (pc + 1 + skip) (pos + j) (g :: fr) lp inn w') :
    ∀ j, least ≤ j → j ≤ n → ∀ m ms lm g, GB C g pc (pos + j) j → Ret C t true m (g :: fr) lp inn (w + 1 + g.kept.marks.size) ms lm false →
      Reach (j * (N2 + 2) + 1) m fun m' => ∃ ms' lm', Ret C t true m' fr lp inn w ms' lm' false := by
  intro j
  induction j with
  | zero =>
    intro hl _ m ms lm g hg s
    exact Reach.step s.out (Reach.zero ((s.back hg h1 h2 hw).1 (.inr rfl)))
  | succ j ih =>
    intro hl hjn m ms lm g hg s
    by_cases he : j + 1 = least
    · exact (Reach.step s.out (Reach.zero (n := 0) ((s.back hg h1 h2 hw).1 (.inl he)))).le (by omega)
    · obtain ⟨g', ms', lm', hg', hs⟩ := (s.back hg h1 h2 hw).2 (by omega)
      rw [show j + 1 - 1 = j by omega] at hg' hs
      have hb := hlow j (by omega) (by omega) g' (w + 1 + g'.kept.marks.size) (by have := hg'.kept; omega) _ _ _ hs
      have hr := hb.trans fun m' ⟨ms₂, lm₂, hm'⟩ => ih (by omega) (by omega) m' ms₂ lm₂ g' hg' hm'
      refine (Reach.step s.out hr).le ?_
      rw [Nat.succ_mul]; omega

theorem fail_rep (hpc : pc < C.size) (h0 : C.getD pc 0 = 24) {skip least N1 N2 : Nat} {f : Nat → Bool} (h1 : C.getD (pc + 1) 0 = skip) (h2 : C.getD (pc + 2) 0 = least)
    (h3 : C.getD (pc + 3) 0 = 4294967295) (hA : Acc C (pc + 4) f) (ht : ∀ p, t.getD p 0 < 256) (hz : t.size ≤ 1000) (hw : w ≤ 16000000) {n : Nat} (hn : span f t (t.size - pos) pos = n) (hp : pos ≤ t.size)
    (hmax : least ≤ n → ∀ g w', w' ≤ w + 7 → FailsAt C t N1 (pc + 1 + skip) (pos + n) (g :: fr) lp inn w')
    (hlow : ∀ j, least ≤ j → j < n → ∀ g w', w' ≤ w + 7 → FailsAt C t N2 (pc + 1 + skip) (pos + j) (g :: fr) lp inn w') :
    FailsAt C t (N1 + n * (N2 + 2) + 2) pc pos fr lp inn w := by
  intro m ms lm s
  have hs := s.rep hpc h0 h1 h2 h3 hA ht hz hw hn hp
  by_cases hl : n < least
  · exact (Reach.step s.out (Reach.zero (n := 0) ⟨_, _, hs.1 hl⟩)).le (by omega)
  · obtain ⟨g, w', hg, rfl, hs'⟩ := hs.2 (by omega)
    have hb := hmax (by omega) g _ (by have := hg.kept; omega) _ _ _ hs'
    have hr := hb.trans fun m' ⟨ms₂, lm₂, hm'⟩ => backs h1 h2 hw hlow n (by omega) (Nat.le_refl _) m' ms₂ lm₂ g hg hm'
    exact (Reach.step s.out hr).le (by omega)

/-- REPEAT -/
structure CL (g : Frame) (i : Nat) : Prop where
  wait : g.wait = .closeLoop
  loop : g.loop = i
  kept : g.kept.marks.size = 0

theorem St.repeat_ (s : St C t W m pc pos fr lp inn w ms lm) (hpc : pc < C.size) (h0 : C.getD pc 0 = 23) {skip : Nat} (h1 : C.getD (pc + 1) 0 = skip) (hw : w ≤ 16000000) :
    ∃ g, CL g lp.size ∧ St C t W m.step (pc + 1 + skip) pos (g :: fr) (lp.push { pc := pc, outer := inn }) (some lp.size) (w + 1 + g.kept.marks.size) ms lm := by
  rw [s.step_eq hpc]
  have e0 : m.word 0 = 23 := by simp [M.word, s.pc, s.code, h0]
  have e1 : m.word 1 = skip := by simp [M.word, s.pc, s.code, h1]
  have e : m.exec = ({ m with seen := m.seen.add 23, loops := lp.push { pc := pc, outer := inn }, inner := some lp.size } : M).attempt
      { ({ m with seen := m.seen.add 23, loops := lp.push { pc := pc, outer := inn }, inner := some lp.size } : M).frame .closeLoop with loop := lp.size } (pc + 1 + skip) pos true := by
    unfold M.exec
    simp only [e0]
    show M.attempt ({ m with seen := m.seen.add 23, loops := m.loops.push { pc := m.pc, outer := m.inner }, inner := some m.loops.size } : M)
      { ({ m with seen := m.seen.add 23, loops := m.loops.push { pc := m.pc, outer := m.inner }, inner := some m.loops.size } : M).frame .closeLoop with loop := m.loops.size } (m.pc + 1 + m.word 1) m.pos m.outermost = _
    rw [e1, s.lp, s.pc, s.inn, s.pos, s.om]
  rw [e]
  refine ⟨{ ({ m with seen := m.seen.add 23, loops := lp.push { pc := pc, outer := inn }, inner := some lp.size } : M).frame .closeLoop with loop := lp.size }, ⟨rfl, rfl, rfl⟩, ?_⟩
  exact attempt_St ⟨s.code, s.text, s.lim, s.whole, s.must, s.start, s.out, s.fr, rfl, rfl, s.w, s.mz, s.ms, s.lm⟩ s.ans hw (Nat.zero_le _)

theorem Ret.close {g : Frame} {l : Loop} {inn' : Option Nat} (s : Ret C t W m (g :: fr) (lp.push l) inn' (w + 1 + g.kept.marks.size) ms lm b) (hg : CL g lp.size) :
    Ret C t W m.step fr lp l.outer w ms lm b := by
  rw [s.step_eq]
  unfold resume
  simp only [hg.wait]
  have hB := pop_Base (p := g.pos) (om := g.outermost) s
  refine ⟨⟨hB.code, hB.text, hB.lim, hB.whole, hB.must, hB.start, hB.out, hB.fr, ?_, ?_, hB.w, hB.mz, hB.ms, hB.lm⟩, rfl⟩
  · show m.loops.pop = lp
    rw [s.lp, Array.pop_push]
  · show (m.loops.getD g.loop { pc := 0, outer := none }).outer = l.outer
    rw [s.lp, hg.loop]
    simp

theorem push_modify (lp : Array Loop) (l : Loop) (f : Loop → Loop) : (lp.push l).modify lp.size f = lp.push (f l) := by
  apply Array.ext
  · simp
  · intro i h1 h2
    simp only [Array.getElem_modify, Array.getElem_push]
    by_cases h : i < lp.size
    · rw [if_neg (by omega)]; simp [h]
    · simp at h2
      obtain rfl : i = lp.size := by omega
      simp

/-- a round of a loop -/
structure MM (g : Frame) (pc pos i : Nat) (l : Loop) (ms : Array (Option Nat)) (lm : Int) : Prop where
  wait : g.wait = .maxMore
  pc : g.pc = pc
  pos : g.pos = pos
  om : g.outermost = true
  loop : g.loop = i
  count : g.count = l.count + 1
  began : g.began = l.began
  kept : g.kept = { lastmark := lm, lastindex := g.kept.lastindex, whole := true, marks := ms.extract 0 (lm + 1).toNat }

structure MT (g : Frame) (i : Nat) : Prop where
  wait : g.wait = .maxTail
  loop : g.loop = i
  kept : g.kept.marks.size = 0

theorem MM.size {g : Frame} {i : Nat} {l : Loop} (h : MM g pc pos i l ms lm) (hs : ms.size ≤ 6) : g.kept.marks.size ≤ 6 := by
  rw [h.kept]; simp; omega

theorem setLoop_loops (m : M) (i : Nat) (f : Loop → Loop) : (m.setLoop i f).loops = m.loops.modify i f := rfl

theorem putBack_loops (m : M) (k : Kept) : (m.putBack k).loops = m.loops := rfl

theorem until_eq {m : M} {i : Nat} (h : m.inner = some i) : m.until_ true =
    if (m.loopAt i).count + 1 < (m.code.getD ((m.loopAt i).pc + 2) 0 : Nat) then m.round .maxBelow i ((m.loopAt i).count + 1) false {}
    else if ((m.loopAt i).count + 1 < (m.code.getD ((m.loopAt i).pc + 3) 0 : Nat) || m.code.getD ((m.loopAt i).pc + 3) 0 == maxRepeat) && (m.loopAt i).began != some m.pos then m.round .maxMore i ((m.loopAt i).count + 1) true (m.keep true)
    else m.afterLoop .maxTail i ((m.loopAt i).count + 1) fun _ => false := by
  unfold M.until_
  rw [h]
  rfl

theorem St.round {l : Loop} (s : St C t W m pc pos fr (lp.push l) (some lp.size) w ms lm) (hpc : pc < C.size) (h0 : C.getD pc 0 = 18) (h1 : C.getD (l.pc + 2) 0 = 0) {most : Nat} (h2 : C.getD (l.pc + 3) 0 = most)
    (hc : 0 ≤ l.count + 1) (hmost : l.count + 1 < most ∨ most = 4294967295) (hb : l.began ≠ some pos) (hw : w ≤ 16000000) :
    ∃ g, MM g (pc + 1) pos lp.size l ms lm ∧ St C t W m.step (l.pc + 4) pos (g :: fr) (lp.push { l with count := l.count + 1, began := some pos }) (some lp.size) (w + 1 + g.kept.marks.size) ms lm := by
  rw [s.step_eq hpc]
  have e0 : m.word 0 = 18 := by simp [M.word, s.pc, s.code, h0]
  have el : m.loopAt lp.size = l := by simp [M.loopAt, s.lp]
  have e : m.exec = ({ m with seen := m.seen.add 18, pc := m.pc + 1 } : M).round .maxMore lp.size (l.count + 1) true (({ m with seen := m.seen.add 18, pc := m.pc + 1 } : M).keep true) := by
    unfold M.exec
    simp only [e0]
    show ({ m with seen := m.seen.add 18, pc := m.pc + 1 } : M).until_ true = _
    rw [until_eq (m := { m with seen := m.seen.add 18, pc := m.pc + 1 }) s.inn]
    rw [show ({ m with seen := m.seen.add 18, pc := m.pc + 1 } : M).loopAt lp.size = l from el]
    rw [show ({ m with seen := m.seen.add 18, pc := m.pc + 1 } : M).code = C from s.code, h1, h2]
    rw [if_neg (by omega)]
    rw [if_pos]
    · rw [Bool.and_eq_true]
      refine ⟨?_, ?_⟩
      · rw [Bool.or_eq_true]
        rcases hmost with h | h
        · exact .inl (by simpa using h)
        · exact .inr (by simp [h, maxRepeat])
      · rw [show m.pos = pos from s.pos]; simpa using hb
  rw [e]
  have eB : Base C t W (({ m with seen := m.seen.add 18, pc := m.pc + 1 } : M).setLoop lp.size fun l' => { l' with count := l.count + 1, began := some pos }) fr (lp.push { l with count := l.count + 1, began := some pos }) (some lp.size) w ms lm :=
    ⟨s.code, s.text, s.lim, s.whole, s.must, s.start, s.out, s.fr, by rw [setLoop_loops]; show m.loops.modify _ _ = _; rw [s.lp, push_modify], s.inn, s.w, s.mz, s.ms, s.lm⟩
  refine ⟨{ wait := .maxMore, pc := pc + 1, pos := pos, outermost := true, loop := lp.size, count := l.count + 1, began := l.began, kept := ({ m with seen := m.seen.add 18, pc := m.pc + 1 } : M).keep true }, ⟨rfl, rfl, rfl, rfl, rfl, rfl, rfl, ?_⟩, ?_⟩
  · show M.keep _ _ = _
    simp [M.keep, s.ms, s.lm]
  · have h := attempt_St (f := { wait := .maxMore, pc := pc + 1, pos := pos, outermost := true, loop := lp.size, count := l.count + 1, began := l.began, kept := ({ m with seen := m.seen.add 18, pc := m.pc + 1 } : M).keep true })
      (target := l.pc + 4) (pos' := pos) eB s.ans hw (keep_size _ (by show m.marks.size ≤ 6; rw [s.ms]; exact s.msz))
    have e5 : ({ m with seen := m.seen.add 18, pc := m.pc + 1 } : M).round .maxMore lp.size (l.count + 1) true (({ m with seen := m.seen.add 18, pc := m.pc + 1 } : M).keep true) =
        (({ m with seen := m.seen.add 18, pc := m.pc + 1 } : M).setLoop lp.size fun l' => { l' with count := l.count + 1, began := some pos }).attempt
          { wait := .maxMore, pc := pc + 1, pos := pos, outermost := true, loop := lp.size, count := l.count + 1, began := l.began, kept := ({ m with seen := m.seen.add 18, pc := m.pc + 1 } : M).keep true } (l.pc + 4) pos true := by
      unfold M.round
      rw [show ({ m with seen := m.seen.add 18, pc := m.pc + 1 } : M).loopAt lp.size = l from el]
      simp only [if_true, M.frame, M.setLoop, s.pos, s.pc, s.om]
    rw [e5]
    exact h

theorem afterLoop_St {m : M} (s : Base C t W m fr lp inn w ms lm) (ha : m.answer = none) (hpc : m.pc = pc) (hpos : m.pos = pos) (hom : m.outermost = true) {i : Nat} {l : Loop} {count : Int} (hl : lp[i]? = some l) (hw : w ≤ 16000000) :
    ∃ g : Frame, MT g i ∧ St C t W (m.afterLoop .maxTail i count fun _ => false) pc pos (g :: fr) lp l.outer (w + 1 + g.kept.marks.size) ms lm := by
  have el : m.loopAt i = l := by simp [M.loopAt, s.lp, Array.getD_eq_getD_getElem?, hl]
  refine ⟨{ wait := .maxTail, pc := pc, pos := pos, outermost := true, loop := i, count := count, kept := ({ m with inner := l.outer } : M).keep false }, ⟨rfl, rfl, rfl⟩, ?_⟩
  have h := attempt_St (f := { wait := .maxTail, pc := pc, pos := pos, outermost := true, loop := i, count := count, kept := ({ m with inner := l.outer } : M).keep false }) (target := pc) (pos' := pos)
    (m := { m with inner := l.outer }) ⟨s.code, s.text, s.lim, s.whole, s.must, s.start, s.out, s.fr, s.lp, rfl, s.w, s.mz, s.ms, s.lm⟩ ha hw (by show ((#[] : Array (Option Nat))).size ≤ 6; decide)
  have e5 : (m.afterLoop .maxTail i count fun _ => false) = ({ m with inner := l.outer } : M).attempt { wait := .maxTail, pc := pc, pos := pos, outermost := true, loop := i, count := count, kept := ({ m with inner := l.outer } : M).keep false } pc pos true := by
    unfold M.afterLoop
    simp only [el, M.frame, hpc, hpos, hom]
  rw [e5]
  exact h

theorem St.tail {i : Nat} {l : Loop} (s : St C t W m pc pos fr lp (some i) w ms lm) (hpc : pc < C.size) (h0 : C.getD pc 0 = 18) (hl : lp[i]? = some l) (h1 : C.getD (l.pc + 2) 0 = 0) {most : Nat} (h2 : C.getD (l.pc + 3) 0 = most)
    (hc : 0 ≤ l.count + 1) (hmost : ((most : Int) ≤ l.count + 1 ∧ most ≠ 4294967295) ∨ l.began = some pos) (hw : w ≤ 16000000) :
    ∃ g, MT g i ∧ St C t W m.step (pc + 1) pos (g :: fr) lp l.outer (w + 1 + g.kept.marks.size) ms lm := by
  rw [s.step_eq hpc]
  have e0 : m.word 0 = 18 := by simp [M.word, s.pc, s.code, h0]
  have el : m.loopAt i = l := by simp [M.loopAt, s.lp, Array.getD_eq_getD_getElem?, hl]
  have e : m.exec = ({ m with seen := m.seen.add 18, pc := m.pc + 1 } : M).afterLoop .maxTail i (l.count + 1) fun _ => false := by
    unfold M.exec
    simp only [e0]
    show ({ m with seen := m.seen.add 18, pc := m.pc + 1 } : M).until_ true = _
    rw [until_eq (m := { m with seen := m.seen.add 18, pc := m.pc + 1 }) s.inn]
    rw [show ({ m with seen := m.seen.add 18, pc := m.pc + 1 } : M).loopAt i = l from el]
    rw [show ({ m with seen := m.seen.add 18, pc := m.pc + 1 } : M).code = C from s.code, h1, h2]
    rw [if_neg (by omega)]
    rw [if_neg]
    · rw [Bool.and_eq_true, Bool.or_eq_true]
      rintro ⟨h, h'⟩
      rcases hmost with ⟨h3, h4⟩ | h3
      · rcases h with h | h
        · have := of_decide_eq_true h; omega
        · exact h4 (by simpa [maxRepeat] using h)
      · rw [show m.pos = pos from s.pos, h3] at h'; simp at h'
  rw [e]
  exact afterLoop_St (m := { m with seen := m.seen.add 18, pc := m.pc + 1 }) ⟨s.code, s.text, s.lim, s.whole, s.must, s.start, s.out, s.fr, s.lp, s.inn, s.w, s.mz, s.ms, s.lm⟩ s.ans (by show m.pc + 1 = _; rw [s.pc]) s.pos s.om hl hw

theorem Ret.tailRet {g : Frame} {i : Nat} (s : Ret C t W m (g :: fr) lp inn (w + 1 + g.kept.marks.size) ms lm b) (hg : MT g i) : Ret C t W m.step fr lp (some i) w ms lm b := by
  rw [s.step_eq]
  unfold resume
  simp only [hg.wait]
  have hB := pop_Base (p := g.pos) (om := g.outermost) s
  exact ⟨⟨hB.code, hB.text, hB.lim, hB.whole, hB.must, hB.start, hB.out, hB.fr, hB.lp, by show some g.loop = _; rw [hg.loop], hB.w, hB.mz, hB.ms, hB.lm⟩, rfl⟩

/-- a round failed: on behind the loop -/
theorem Ret.roundNo {g : Frame} {l : Loop} {ms₀ : Array (Option Nat)} {lm₀ : Int} {inn' : Option Nat} (s : Ret C t W m (g :: fr) (lp.push { l with count := l.count + 1, began := some pos }) inn' (w + 1 + g.kept.marks.size) ms lm false)
    (hg : MM g pc pos lp.size l ms₀ lm₀) (hs₀ : ms₀.size = zOf C) (hw : w ≤ 16000000) :
    ∃ g', MT g' lp.size ∧ St C t W m.step pc pos (g' :: fr) (lp.push l) l.outer (w + 1 + g'.kept.marks.size) (ms₀.extract 0 (lm₀ + 1).toNat ++ ms.extract (ms₀.extract 0 (lm₀ + 1).toNat).size ms.size) lm₀ := by
  rw [s.step_eq]
  unfold resume
  simp only [hg.wait]
  have hB := pop_Base (p := g.pos) (om := g.outermost) s
  rw [if_neg (by decide)]
  have hgl : g.loop = lp.size := hg.loop
  obtain ⟨m₁, hm₁⟩ : ∃ m₁ : M, m₁ = ({ m with answer := none, frames := fr, weight := (w + 1 + g.kept.marks.size) - (1 + g.kept.marks.size), pc := g.pc, pos := g.pos, outermost := g.outermost } : M) := ⟨_, rfl⟩
  rw [← hm₁] at hB ⊢
  have hpc : m₁.pc = pc := by rw [hm₁]; exact hg.pc
  have hpos : m₁.pos = pos := by rw [hm₁]; exact hg.pos
  have hom : m₁.outermost = true := by rw [hm₁]; exact hg.om
  have hans : m₁.answer = none := by rw [hm₁]
  clear hm₁
  have hk := hg.kept
  refine afterLoop_St (i := lp.size) (m := ((m₁.setLoop g.loop fun l => { l with began := g.began }).putBack g.kept).setLoop g.loop fun l => { l with count := g.count - 1 }) (lp := lp.push l) (l := l) (count := g.count) (lm := lm₀)
    (ms := ms₀.extract 0 (lm₀ + 1).toNat ++ ms.extract (ms₀.extract 0 (lm₀ + 1).toNat).size ms.size) ⟨hB.code, hB.text, hB.lim, hB.whole, hB.must, hB.start, hB.out, hB.fr, ?_, hB.inn, hB.w, ?_, ?_, ?_⟩ hans hpc hpos hom (by simp) hw |> fun h => ?_
  · rw [hgl] at h ⊢
    exact h
  · rw [setLoop_loops]
    rw [putBack_loops, setLoop_loops, hB.lp, hgl, push_modify, push_modify, hg.began, hg.count]
    simp
  · have := hB.mz
    rw [Array.size_append, Array.size_extract, Array.size_extract]; omega
  · show (if g.kept.whole = true then g.kept.marks ++ m₁.marks.extract g.kept.marks.size m₁.marks.size else m₁.marks) = _
    rw [hk, hB.ms]
    rfl
  · show g.kept.lastmark = _
    rw [hk]
end
end Rx
end Mine

end
section
set_option maxRecDepth 100000
namespace Mine
namespace Rx
open PySem.Sre PySem.Sre.M

def isBlank (c : Nat) : Bool := c == 32 || c == 9
def isV (c : Nat) : Bool := !(c == 0 || isSpace c)
def isTok (c : Nat) : Bool := c < 256 && (hdrC.getD (14 + c / 32) 0).testBit (c % 32)

theorem acc_blank {C : Array Nat} {i : Nat} (h0 : C.getD i 0 = 13) (h2 : C.getD (i + 2) 0 = 16) (h3 : C.getD (i + 3) 0 = 32) (h4 : C.getD (i + 4) 0 = 16) (h5 : C.getD (i + 5) 0 = 9) (h6 : C.getD (i + 6) 0 = 0) {z : Nat} (hz : C.size = z + 3) :
    Acc C i isBlank := by
  intro c seen _
  have e : accepts C i c seen = inSet C c C.size (i + 2) true seen := by
    unfold accepts
    simp only [h0]
    rfl
  rw [e, hz]
  unfold inSet
  simp only [h2, Nat.add_zero]
  show ∃ seen', (if (c == C.getD (i + 2 + 1) 0) = true then Except.ok (true, _) else inSet C c (z + 2) (i + 2 + 2) true _) = _
  rw [h3]
  by_cases h : c = 32
  · subst h; exact ⟨_, rfl⟩
  rw [if_neg (by simpa using h)]
  unfold inSet
  simp only [show i + 2 + 2 = i + 4 by omega, h4, Nat.add_zero]
  show ∃ seen', (if (c == C.getD (i + 4 + 1) 0) = true then Except.ok (true, _) else inSet C c (z + 1) (i + 4 + 2) true _) = _
  rw [show i + 4 + 1 = i + 5 by omega, h5]
  by_cases h' : c = 9
  · subst h'; exact ⟨_, rfl⟩
  rw [if_neg (by simpa using h')]
  unfold inSet
  simp only [show i + 4 + 2 = i + 6 by omega, h6, Nat.add_zero]
  have hb : isBlank c = !true := by simp [isBlank, h, h']
  rw [hb]
  exact ⟨_, rfl⟩

theorem acc_v {C : Array Nat} {i : Nat} (h0 : C.getD i 0 = 13) (h2 : C.getD (i + 2) 0 = 21) (h3 : C.getD (i + 3) 0 = 16) (h4 : C.getD (i + 4) 0 = 0) (h5 : C.getD (i + 5) 0 = 8) (h6 : C.getD (i + 6) 0 = 2) (h7 : C.getD (i + 7) 0 = 0)
    {z : Nat} (hz : C.size = z + 4) : Acc C i isV := by
  intro c seen _
  have e : accepts C i c seen = inSet C c C.size (i + 2) true seen := by
    unfold accepts
    simp only [h0]
    rfl
  rw [e, hz]
  unfold inSet
  simp only [h2, Nat.add_zero]
  show ∃ seen', inSet C c (z + 3) (i + 2 + 1) (!true) _ = _
  unfold inSet
  simp only [show i + 2 + 1 = i + 3 by omega, h3, Nat.add_zero]
  show ∃ seen', (if (c == C.getD (i + 3 + 1) 0) = true then Except.ok (!true, _) else inSet C c (z + 2) (i + 3 + 2) (!true) _) = _
  rw [show i + 3 + 1 = i + 4 by omega, h4]
  by_cases h : c = 0
  · subst h; exact ⟨_, rfl⟩
  rw [if_neg (by simpa using h)]
  unfold inSet
  simp only [show i + 3 + 2 = i + 5 by omega, h5, Nat.add_zero]
  show ∃ seen', (category (C.getD (i + 5 + 1) 0) c >>= fun y => if y = true then pure (!true, Seen.add _ (55 + C.getD (i + 5 + 1) 0)) else inSet C c (z + 1) (i + 5 + 2) (!true) _) = _
  rw [show i + 5 + 1 = i + 6 by omega, h6]
  have ec : category 2 c = .ok (isSpace c) := by
    show Except.ok (isSpace c != false) = _
    simp
  rw [ec]
  show ∃ seen', (if isSpace c = true then pure (!true, _) else inSet C c (z + 1) (i + 5 + 2) (!true) _) = _
  cases hs : isSpace c with
  | true =>
    have hb : isV c = !true := by simp [isV, hs]
    rw [hb, if_pos rfl]
    exact ⟨_, rfl⟩
  | false =>
    rw [if_neg (by decide)]
    unfold inSet
    simp only [show i + 5 + 2 = i + 7 by omega, h7, Nat.add_zero]
    have hb : isV c = !(!true) := by simp [isV, hs, h]
    rw [hb]
    exact ⟨_, rfl⟩

theorem acc_tok : Acc hdrC 11 isTok := by
  intro c seen hc
  have e : accepts hdrC 11 c seen = inSet hdrC c hdrC.size (11 + 2) true seen := by
    unfold accepts
    simp only [show hdrC.getD 11 0 = 13 by decide +kernel]
    rfl
  rw [e, hdrC_size]
  unfold inSet
  simp only [show hdrC.getD (11 + 2 + 0) 0 = 9 by decide +kernel]
  show ∃ seen', (if (decide (c < 256) && (hdrC.getD (13 + (1 + c / 32)) 0).testBit (c % 32)) = true then Except.ok (true, _) else inSet hdrC c 108 22 true _) = _
  rw [show 13 + (1 + c / 32) = 14 + c / 32 by omega]
  cases hT : isTok c with
  | true =>
    rw [if_pos (by simpa [isTok] using hT)]
    exact ⟨_, rfl⟩
  | false =>
    rw [if_neg (by simp only [isTok] at hT; rw [hT]; decide)]
    unfold inSet
    simp only [show hdrC.getD (22 + 0) 0 = 0 by decide +kernel]
    exact ⟨_, rfl⟩

section
variable {C t : Array Nat} {W : Bool} {m : M} {pc pos : Nat} {fr : List Frame} {lp : Array Loop} {inn : Option Nat} {w : Nat} {ms : Array (Option Nat)} {lm : Int} {b : Bool}
theorem St.literal (s : St C t W m pc pos fr lp inn w ms lm) (hpc : pc < C.size) (h0 : C.getD pc 0 = 16) {k : Nat} (h1 : C.getD (pc + 1) 0 = k) :
    ((pos ≥ t.size ∨ t.getD pos 0 ≠ k) → Ret C t W m.step fr lp inn w ms lm false) ∧
    (pos < t.size → t.getD pos 0 = k → St C t W m.step (pc + 2) (pos + 1) fr lp inn w ms lm) := by
  rw [s.step_eq hpc]
  have e0 : m.word 0 = 16 := by simp [M.word, s.pc, s.code, h0]
  have hpcc : m.code.getD m.pc 0 = 16 := by rw [s.code, s.pc, h0]
  have hpcc1 : m.code.getD (m.pc + 1) 0 = k := by rw [s.code, s.pc, h1]
  have ea : ∀ c seen, accepts m.code m.pc c seen = .ok (c == k, seen) := fun c seen => by
    unfold accepts
    simp only [hpcc, hpcc1]
    rfl
  have ew : itemWidth m.code m.pc = 2 := by
    unfold itemWidth
    rw [hpcc]
    rfl
  have e : m.exec = if m.pos ≥ m.lim then ({ m with seen := m.seen.add 16 } : M).say false else
      match (Except.ok (m.text.getD m.pos 0 == k, m.seen.add 16) : Except String (Bool × Seen)) with
      | .error why => ({ m with seen := m.seen.add 16 } : M).stick why
      | .ok (false, seen) => ({ m with seen } : M).say false
      | .ok (true, seen) => { m with seen, pc := m.pc + 2, pos := m.pos + 1 } := by
    unfold M.exec
    simp only [e0]
    rw [← ea, ← ew]
    rfl
  rw [e]
  refine ⟨fun h => ?_, fun h h' => ?_⟩
  · by_cases hp : m.pos ≥ m.lim
    · rw [if_pos hp]
      exact ⟨⟨s.code, s.text, s.lim, s.whole, s.must, s.start, s.out, s.fr, s.lp, s.inn, s.w, s.mz, s.ms, s.lm⟩, rfl⟩
    · rw [if_neg hp]
      have hk : (m.text.getD m.pos 0 == k) = false := by
        rw [s.text, s.pos]
        rcases h with h | h
        · exact absurd h (by rw [s.pos, s.lim] at hp; exact hp)
        · simpa using h
      rw [hk]
      exact ⟨⟨s.code, s.text, s.lim, s.whole, s.must, s.start, s.out, s.fr, s.lp, s.inn, s.w, s.mz, s.ms, s.lm⟩, rfl⟩
  · have hk : (m.text.getD m.pos 0 == k) = true := by
      rw [s.text, s.pos]; simpa using h'
    rw [if_neg (by rw [s.pos, s.lim]; omega), hk]
    exact ⟨⟨s.code, s.text, s.lim, s.whole, s.must, s.start, s.out, s.fr, s.lp, s.inn, s.w, s.mz, s.ms, s.lm⟩, s.ans, by simp [s.pc], by simp [s.pos], s.om⟩
end
end Rx
end Mine

end
section
set_option maxRecDepth 100000
namespace Mine
namespace Rx
open PySem.Sre PySem.Sre.M

theorem accB32 : Acc hdrC 32 isBlank := acc_blank (z := 106) (by decide +kernel) (by decide +kernel) (by decide +kernel) (by decide +kernel) (by decide +kernel) (by decide +kernel) hdrC_size
theorem accB69 : Acc hdrC 69 isBlank := acc_blank (z := 106) (by decide +kernel) (by decide +kernel) (by decide +kernel) (by decide +kernel) (by decide +kernel) (by decide +kernel) hdrC_size
theorem accB100 : Acc hdrC 100 isBlank := acc_blank (z := 106) (by decide +kernel) (by decide +kernel) (by decide +kernel) (by decide +kernel) (by decide +kernel) (by decide +kernel) hdrC_size
theorem accV52 : Acc hdrC 52 isV := acc_v (z := 105) (by decide +kernel) (by decide +kernel) (by decide +kernel) (by decide +kernel) (by decide +kernel) (by decide +kernel) (by decide +kernel) hdrC_size
theorem accV81 : Acc hdrC 81 isV := acc_v (z := 105) (by decide +kernel) (by decide +kernel) (by decide +kernel) (by decide +kernel) (by decide +kernel) (by decide +kernel) (by decide +kernel) hdrC_size

theorem c44 : hdrC.getD 44 0 = 0 := by decide +kernel
theorem c45 : hdrC.getD 45 0 = 1 := by decide +kernel
theorem c63 : hdrC.getD 63 0 = 0 := by decide +kernel
theorem c64 : hdrC.getD 64 0 = 4294967295 := by decide +kernel

section
variable {t : Array Nat} {fr : List Frame} {lp : Array Loop} {inn : Option Nat} {w pos b N : Nat}

theorem fail_mark {C : Array Nat} {pc i : Nat} (hpc : pc < C.size) (h0 : C.getD pc 0 = 17) (h1 : C.getD (pc + 1) 0 = i) (h : FailsAt C t N (pc + 2) pos fr lp inn w) : FailsAt C t (N + 1) pc pos fr lp inn w := by
  intro m ms lm s
  obtain ⟨ms', s', _⟩ := s.mark hpc h0 h1
  exact Reach.step s.out (h _ _ _ s')

/-- the octet that nothing behind the colon takes -/
structure Bad (t : Array Nat) (b : Nat) : Prop where
  lt : b < t.size
  small : t.size ≤ 1000
  oct : ∀ p, t.getD p 0 < 256
  nb : isBlank (t.getD b 0) = false
  nv : isV (t.getD b 0) = false

theorem Bad.span {f : Nat → Bool} (B : Bad t b) (hf : f (t.getD b 0) = false) (hp : pos ≤ b) : pos + Rx.span f t (t.size - pos) pos ≤ b := by
  rcases Nat.lt_or_ge b (pos + Rx.span f t (t.size - pos) pos) with h | h
  · have := span_all (f := f) (t := t) (n := t.size - pos) (p := pos) (j := b - pos) (by omega)
    rw [show pos + (b - pos) = b by omega, hf] at this
    cases this
  · exact h

theorem f108 (B : Bad t b) (hp : pos ≤ b) : FailsAt hdrC t 1 108 pos fr lp inn w := by
  intro m ms lm s
  exact Reach.step s.out (Reach.zero ⟨_, _, s.successNo (by rw [hdrC_size]; decide) (by decide +kernel) (by have := B.lt; omega)⟩)

theorem f96 (B : Bad t b) (hp : pos ≤ b) (hw : w ≤ 15999000) : FailsAt hdrC t 3100 96 pos fr lp inn w := by
  have hs := B.span B.nb hp
  have := fail_rep (C := hdrC) (t := t) (pc := 96) (pos := pos) (fr := fr) (lp := lp) (inn := inn) (w := w) (skip := 11) (least := 0) (N1 := 1) (N2 := 1) (by rw [hdrC_size]; decide) (by decide +kernel) (by decide +kernel) (by decide +kernel) (by decide +kernel) accB100 B.oct B.small (by omega) rfl (by have := B.lt; omega)
    (fun _ g w' hw' => f108 B hs) (fun j _ hj g w' hw' => f108 B (by omega))
  exact this.le (by have := B.lt; have := B.small; omega)

theorem f94 (B : Bad t b) (hp : pos ≤ b) (hw : w ≤ 15999000) : FailsAt hdrC t 3101 94 pos fr lp inn w :=
  fail_mark (i := 3) (by rw [hdrC_size]; decide) (by decide +kernel) (by decide +kernel) (f96 B hp hw)

/-- a tail that fails -/
theorem fail_tailSt {C : Array Nat} {pc : Nat} {i : Nat} {inn' : Option Nat} {m : M} {ms : Array (Option Nat)} {lm : Int} {g : Frame} (hg : MT g i) (s : St C t true m pc pos (g :: fr) lp inn' (w + 1 + g.kept.marks.size) ms lm)
    (h : FailsAt C t N pc pos (g :: fr) lp inn' (w + 1 + g.kept.marks.size)) : Reach (N + 1) m fun m' => ∃ ms' lm', Ret C t true m' fr lp (some i) w ms' lm' false :=
  (h _ _ _ s).trans fun m' ⟨ms', lm', hm'⟩ => Reach.step hm'.out (Reach.zero ⟨_, _, hm'.tailRet hg⟩)

abbrev l₀ (q : Nat) : Loop := { pc := 42, count := 0, began := some q, outer := none }
abbrev l₁ (c : Int) (be : Option Nat) : Loop := { pc := 61, count := c, began := be, outer := some 0 }
abbrev lp₀ (q : Nat) : Array Loop := (#[] : Array Loop).push (l₀ q)

theorem f93 {q : Nat} (B : Bad t b) (hp : pos ≤ b) (hw : w ≤ 15998000) (hl : lp[0]? = some (l₀ q)) : FailsAt hdrC t 3103 93 pos fr lp (some 0) w := by
  intro m ms lm s
  obtain ⟨g, hg, s'⟩ := s.tail (by rw [hdrC_size]; decide) (by decide +kernel) hl c44 (most := 1) c45 (by show (0 : Int) ≤ 0 + 1; decide) (.inl (by show ((1 : Nat) : Int) ≤ 0 + 1 ∧ (1 : Nat) ≠ 4294967295; decide)) (by omega)
  exact Reach.step s.out (fail_tailSt hg s' (f94 B hp (by have := hg.kept; omega)))

theorem f91 {q : Nat} (B : Bad t b) (hp : pos ≤ b) (hw : w ≤ 15998000) (hl : lp[0]? = some (l₀ q)) : FailsAt hdrC t 3104 91 pos fr lp (some 0) w :=
  fail_mark (i := 5) (by rw [hdrC_size]; decide) (by decide +kernel) (by decide +kernel) (f93 B hp hw hl)

theorem lp0_get (q : Nat) (l : Loop) : ((lp₀ q).push l)[0]? = some (l₀ q) := by simp

theorem f90_of {q : Nat} {c : Int} {be : Option Nat} (B : Bad t b) (hp : pos ≤ b) (hw : w ≤ 15997000) (hc : -1 ≤ c)
    (h65 : ∀ g w' c', w' ≤ w + 7 → -1 ≤ c' → FailsAt hdrC t N 65 pos (g :: fr) ((lp₀ q).push (l₁ c' (some pos))) (some 1) w') :
    FailsAt hdrC t (N + 3200) 90 pos fr ((lp₀ q).push (l₁ c be)) (some 1) w := by
  intro m ms lm s
  by_cases hb : be = some pos
  · obtain ⟨g, hg, s'⟩ := s.tail (l := l₁ c be) (by rw [hdrC_size]; decide) (by decide +kernel) (by simp) c63 (most := 4294967295) c64 (by show 0 ≤ c + 1; omega) (.inr hb) (by omega)
    exact (Reach.step s.out (fail_tailSt hg s' (f91 B hp (by have := hg.kept; omega) (lp0_get q _)))).le (by omega)
  · obtain ⟨g, hg, s'⟩ := St.round (lp := lp₀ q) (l := l₁ c be) s (by rw [hdrC_size]; decide) (by decide +kernel) c63 (most := 4294967295) c64 (by show 0 ≤ c + 1; omega) (.inr rfl) hb (by omega)
    have h1 := h65 g (w + 1 + g.kept.marks.size) (c + 1) (by have := hg.size s.msz; omega) (by omega) _ _ _ s'
    refine (Reach.step s.out (h1.trans (b := 3107) fun m' ⟨ms', lm', hm'⟩ => ?_)).le (by omega)
    obtain ⟨g', hg', s''⟩ := Ret.roundNo (lp := lp₀ q) (l := l₁ c be) hm' hg s.mz (by omega)
    exact (Reach.step hm'.out (fail_tailSt hg' s'' (f91 B hp (by have := hg'.kept; omega) (lp0_get q _)))).le (by omega)

/-- no blank here: no more rounds -/
theorem f65_quick {g : Frame} (B : Bad t b) (hp : pos ≤ b) (hw : w ≤ 15997000) (hn : isBlank (t.getD pos 0) = false) : FailsAt hdrC t 2 65 pos (g :: fr) lp inn w := by
  have hs : Rx.span isBlank t (t.size - pos) pos = 0 := by
    cases h : t.size - pos with
    | zero => rfl
    | succ k => unfold Rx.span; rw [hn]; rfl
  have := fail_rep (C := hdrC) (t := t) (pc := 65) (pos := pos) (fr := g :: fr) (lp := lp) (inn := inn) (w := w) (skip := 11) (least := 1) (N1 := 0) (N2 := 0) (by rw [hdrC_size]; decide) (by decide +kernel) (by decide +kernel) (by decide +kernel) (by decide +kernel) accB69 B.oct B.small (by omega) hs (by have := B.lt; omega)
    (fun h => absurd h (by decide)) (fun j h h' => absurd h' (by omega))
  exact this.le (by omega)
theorem f77_quick {g : Frame} (B : Bad t b) (hp : pos ≤ b) (hw : w ≤ 15997000) (hn : isV (t.getD pos 0) = false) : FailsAt hdrC t 2 77 pos (g :: fr) lp inn w := by
  have hs : Rx.span isV t (t.size - pos) pos = 0 := by
    cases h : t.size - pos with
    | zero => rfl
    | succ k => unfold Rx.span; rw [hn]; rfl
  have := fail_rep (C := hdrC) (t := t) (pc := 77) (pos := pos) (fr := g :: fr) (lp := lp) (inn := inn) (w := w) (skip := 12) (least := 1) (N1 := 0) (N2 := 0) (by rw [hdrC_size]; decide) (by decide +kernel) (by decide +kernel) (by decide +kernel) (by decide +kernel) accV81 B.oct B.small (by omega) hs (by have := B.lt; omega)
    (fun h => absurd h (by decide)) (fun j h h' => absurd h' (by omega))
  exact this.le (by omega)

theorem blank_notV {c : Nat} (h : isBlank c = true) : isV c = false := by
  simp only [isBlank, Bool.or_eq_true, beq_iff_eq] at h
  rcases h with rfl | rfl <;> decide
theorem v_notBlank {c : Nat} (h : isV c = true) : isBlank c = false := by
  cases hb : isBlank c with
  | false => rfl
  | true => rw [blank_notV hb] at h; cases h

theorem f90 {q : Nat} (B : Bad t b) : ∀ d pos, b - pos = d → pos ≤ b → ∀ fr w c be, w + 28 * d ≤ 15990000 → -1 ≤ c → FailsAt hdrC t (20000 * (d + 1)) 90 pos fr ((lp₀ q).push (l₁ c be)) (some 1) w := by
  intro d
  induction d using Nat.strongRecOn with
  | ind d ih =>
    intro pos hd hp fr w c be hw hc
    cases hn : isBlank (t.getD pos 0) with
    | false => exact (f90_of B hp (by omega) hc fun g w' c' hw' _ => f65_quick B hp (by omega) hn).le (by omega)
    | true =>
      have hs := B.span (pos := pos) B.nb hp
      have hpos : 1 ≤ Rx.span isBlank t (t.size - pos) pos := by
        cases h : t.size - pos with
        | zero => have := B.lt; omega
        | succ k => unfold Rx.span; rw [hn]; simp
      generalize hq : Rx.span isBlank t (t.size - pos) pos = n at hs hpos
      have hpb : pos + n ≤ b := hs
      -- behind the blanks
      have hs' := B.span (pos := pos + n) B.nv hpb
      generalize hq' : Rx.span isV t (t.size - (pos + n)) (pos + n) = n' at hs'
      have h77 : ∀ frx w' c', w' ≤ w + 14 → -1 ≤ c' → FailsAt hdrC t (20000 * (b - (pos + n + n') + 1) + n' * 3204 + 2) 77 (pos + n) frx ((lp₀ q).push (l₁ c' (some pos))) (some 1) w' := by
        intro frx w' c' hw' hc'
        exact fail_rep (skip := 12) (least := 1) (N2 := 3202) (by rw [hdrC_size]; decide) (by decide +kernel) (by decide +kernel) (by decide +kernel) (by decide +kernel) accV81 B.oct B.small (by omega) hq' (by have := B.lt; omega)
          (fun h1 g w'' hw'' => ih (b - (pos + n + n')) (by omega) (pos + n + n') rfl hs' _ _ _ _ (by omega) hc')
          (fun j h1 h2 g w'' hw'' => (f90_of (N := 2) B (by omega) (by omega) hc' fun g' w₃ c₃ hw₃ _ => f65_quick B (by omega) (by omega) (v_notBlank (by
            have := span_all (f := isV) (t := t) (n := t.size - (pos + n)) (p := pos + n) (j := j) (by omega)
            exact this))).le (by omega))
      refine (f90_of (N := 20000 * (b - (pos + n + n') + 1) + n' * 3204 + 2 + n * 4 + 2) B hp (by omega) hc fun g w' c' hw' hc' => ?_).le (by omega)
      exact fail_rep (skip := 11) (least := 1) (N2 := 2) (by rw [hdrC_size]; decide) (by decide +kernel) (by decide +kernel) (by decide +kernel) (by decide +kernel) accB69 B.oct B.small (by omega) hq (by have := B.lt; omega)
        (fun h1 g' w'' hw'' => h77 (g' :: g :: fr) w'' c' (by omega) hc')
        (fun j h1 h2 g' w'' hw'' => f77_quick B (by omega) (by omega) (blank_notV (by
            have := span_all (f := isBlank) (t := t) (n := t.size - pos) (p := pos) (j := j) (by omega)
            exact this)))

theorem f61 {q : Nat} (B : Bad t b) (hp : pos ≤ b) (hw : w ≤ 15900000) : FailsAt hdrC t 20020002 61 pos fr (lp₀ q) (some 0) w := by
  intro m ms lm s
  obtain ⟨g, hg, s'⟩ := s.repeat_ (skip := 28) (by rw [hdrC_size]; decide) (by decide +kernel) (by decide +kernel) (by omega)
  have hk := hg.kept
  have h := f90 (q := q) B (b - pos) pos rfl hp (g :: fr) (w + 1 + g.kept.marks.size) (-1) none (by have := B.lt; have := B.small; omega) (by decide) _ _ _ s'
  refine (Reach.step s.out (h.trans (b := 1) fun m' ⟨ms', lm', hm'⟩ => Reach.step hm'.out (Reach.zero ⟨_, _, Ret.close (l := l₁ (-1) none) hm' hg⟩))).le ?_
  have := B.lt; have := B.small; omega

theorem f48 {q : Nat} (B : Bad t b) (hp : pos ≤ b) (hw : w ≤ 15800000) : FailsAt hdrC t 30000000000 48 pos fr (lp₀ q) (some 0) w := by
  have hs := B.span (pos := pos) B.nv hp
  generalize hq : Rx.span isV t (t.size - pos) pos = n at hs
  have := fail_rep (C := hdrC) (t := t) (pc := 48) (pos := pos) (fr := fr) (lp := lp₀ q) (inn := some 0) (w := w) (skip := 12) (least := 1) (N1 := 20020002) (N2 := 20020002) (by rw [hdrC_size]; decide) (by decide +kernel) (by decide +kernel) (by decide +kernel) (by decide +kernel) accV52 B.oct B.small (by omega) hq (by have := B.lt; omega)
    (fun _ g w' hw' => f61 B hs (by omega)) (fun j _ hj g w' hw' => f61 B (by omega) (by omega))
  exact this.le (by have := B.lt; have := B.small; omega)

theorem f46 {q : Nat} (B : Bad t b) (hp : pos ≤ b) (hw : w ≤ 15800000) : FailsAt hdrC t 30000000001 46 pos fr (lp₀ q) (some 0) w :=
  fail_mark (i := 4) (by rw [hdrC_size]; decide) (by decide +kernel) (by decide +kernel) (f48 B hp hw)

abbrev l₂ : Loop := { pc := 42, outer := none }

theorem f93' (B : Bad t b) (hp : pos ≤ b) (hw : w ≤ 15700000) : FailsAt hdrC t 30000010000 93 pos fr ((#[] : Array Loop).push l₂) (some 0) w := by
  intro m ms lm s
  obtain ⟨g, hg, s'⟩ := St.round (lp := (#[] : Array Loop)) (l := l₂) s (by rw [hdrC_size]; decide) (by decide +kernel) c44 (most := 1) c45 (by decide) (.inl (by decide)) (by simp) (by omega)
  have h1 := f46 (q := pos) (w := w + 1 + g.kept.marks.size) (fr := g :: fr) B hp (by have := hg.size s.msz; omega) _ _ _ s'
  refine (Reach.step s.out (h1.trans (b := 3107) fun m' ⟨ms', lm', hm'⟩ => ?_)).le (by omega)
  obtain ⟨g', hg', s''⟩ := Ret.roundNo (lp := (#[] : Array Loop)) (l := l₂) hm' hg s.mz (by omega)
  exact (Reach.step hm'.out (fail_tailSt hg' s'' (f94 B hp (by have := hg'.kept; omega)))).le (by omega)

theorem f42 (B : Bad t b) (hp : pos ≤ b) (hw : w ≤ 15600000) : FailsAt hdrC t 30000010002 42 pos fr #[] none w := by
  intro m ms lm s
  obtain ⟨g, hg, s'⟩ := s.repeat_ (skip := 50) (by rw [hdrC_size]; decide) (by decide +kernel) (by decide +kernel) (by omega)
  have hk := hg.kept
  have h := f93' (fr := g :: fr) (w := w + 1 + g.kept.marks.size) B hp (by omega) _ _ _ s'
  exact (Reach.step s.out (h.trans (b := 1) fun m' ⟨ms', lm', hm'⟩ => Reach.step hm'.out (Reach.zero ⟨_, _, Ret.close (l := l₂) hm' hg⟩))).le (by omega)

theorem f40 (B : Bad t b) (hp : pos ≤ b) (hw : w ≤ 15600000) : FailsAt hdrC t 30000010003 40 pos fr #[] none w :=
  fail_mark (i := 2) (by rw [hdrC_size]; decide) (by decide +kernel) (by decide +kernel) (f42 B hp hw)

theorem f28 (B : Bad t b) (hp : pos ≤ b) (hw : w ≤ 15500000) : FailsAt hdrC t 40000000000000 28 pos fr #[] none w := by
  have hs := B.span (pos := pos) B.nb hp
  generalize hq : Rx.span isBlank t (t.size - pos) pos = n at hs
  have := fail_rep (C := hdrC) (t := t) (pc := 28) (pos := pos) (fr := fr) (lp := #[]) (inn := none) (w := w) (skip := 11) (least := 0) (N1 := 30000010003) (N2 := 30000010003) (by rw [hdrC_size]; decide) (by decide +kernel) (by decide +kernel) (by decide +kernel) (by decide +kernel) accB32 B.oct B.small (by omega) hq (by have := B.lt; omega)
    (fun _ g w' hw' => f40 B hs (by omega)) (fun j _ hj g w' hw' => f40 B (by omega) (by omega))
  exact this.le (by have := B.lt; have := B.small; omega)

theorem f24no (hb : pos ≥ t.size ∨ t.getD pos 0 ≠ 58) : FailsAt hdrC t 2 24 pos fr lp inn w :=
  fail_mark (i := 1) (by rw [hdrC_size]; decide) (by decide +kernel) (by decide +kernel) fun m ms lm s =>
    Reach.step s.out (Reach.zero ⟨_, _, (s.literal (by rw [hdrC_size]; decide) (by decide +kernel) (k := 58) (by decide +kernel)).1 hb⟩)

theorem f24 (B : Bad t b) (hp : pos < b) (hw : w ≤ 15500000) : FailsAt hdrC t 40000000000002 24 pos fr #[] none w :=
  fail_mark (i := 1) (by rw [hdrC_size]; decide) (by decide +kernel) (by decide +kernel) fun m ms lm s => by
    by_cases h : pos ≥ t.size ∨ t.getD pos 0 ≠ 58
    · exact (Reach.step s.out (Reach.zero (n := 0) ⟨_, _, (s.literal (by rw [hdrC_size]; decide) (by decide +kernel) (k := 58) (by decide +kernel)).1 h⟩)).le (by omega)
    · have h1 : pos < t.size := by omega
      have h2 : t.getD pos 0 = 58 := by
        by_cases e : t.getD pos 0 = 58
        · exact e
        · exact absurd (.inr e) h
      exact Reach.step s.out (f28 B hp hw _ _ _ ((s.literal (by rw [hdrC_size]; decide) (by decide +kernel) (k := 58) (by decide +kernel)).2 h1 h2))

theorem tok_notColon {c : Nat} (h : isTok c = true) : c ≠ 58 := by
  rintro rfl
  exact absurd h (by decide +kernel)

/-- the lines that the pattern does not take whole -/
def NoHdr (t : Array Nat) : Prop :=
  Rx.span isTok t t.size 0 = 0 ∨ Rx.span isTok t t.size 0 ≥ t.size ∨ t.getD (Rx.span isTok t t.size 0) 0 ≠ 58 ∨ ∃ b, Rx.span isTok t t.size 0 < b ∧ b < t.size ∧ isBlank (t.getD b 0) = false ∧ isV (t.getD b 0) = false

theorem f5 (ht : ∀ p, t.getD p 0 < 256) (hz : t.size ≤ 1000) (h : NoHdr t) : FailsAt hdrC t 50000000000000 5 0 [] #[] none 0 := by
  have hA : ∀ j, j < Rx.span isTok t t.size 0 → t.getD j 0 ≠ 58 := fun j hj => tok_notColon (by
    have := span_all (f := isTok) (t := t) (n := t.size) (p := 0) (j := j) hj
    rwa [Nat.zero_add] at this)
  have := fail_mark (C := hdrC) (t := t) (pos := 0) (fr := []) (lp := #[]) (inn := none) (w := 0) (pc := 5) (i := 0) (by rw [hdrC_size]; decide) (by decide +kernel) (by decide +kernel)
    (fail_rep (C := hdrC) (t := t) (pc := 7) (pos := 0) (fr := []) (lp := #[]) (inn := none) (w := 0) (skip := 16) (least := 1) (N1 := 40000000000002) (N2 := 2) (n := Rx.span isTok t t.size 0) (by rw [hdrC_size]; decide) (by decide +kernel) (by decide +kernel) (by decide +kernel) (by decide +kernel) acc_tok ht hz (by decide) (by rw [Nat.sub_zero]) (Nat.zero_le _)
    (fun h1 g w' hw' => by
      rw [Nat.zero_add]
      rcases h with h | h | h | ⟨b, hb1, hb2, hb3, hb4⟩
      · omega
      · exact (f24no (.inl h)).le (by decide)
      · exact (f24no (.inr h)).le (by decide)
      · exact f24 ⟨hb2, hz, ht, hb3, hb4⟩ hb1 (by omega))
    (fun j _ hj g w' hw' => by
      rw [Nat.zero_add]
      exact f24no (.inr (hA j hj))))
  refine this.le ?_
  have := span_le isTok t t.size 0
  omega
end
end Rx
end Mine

end
section
set_option maxRecDepth 100000
namespace Mine
namespace Rx
open PySem.Sre PySem.Sre.M

/-- frames that hand a yes on -/
structure Pop (fr : List Frame) (w : Nat) : Prop where
  len : fr.length ≤ w
  all : ∀ f ∈ fr, f.wait = .giveBack ∨ f.wait = .closeLoop ∨ f.wait = .maxMore ∨ f.wait = .maxTail

theorem Pop.cons {fr : List Frame} {w k : Nat} {g : Frame} (h : Pop fr w) (hg : g.wait = .giveBack ∨ g.wait = .closeLoop ∨ g.wait = .maxMore ∨ g.wait = .maxTail) : Pop (g :: fr) (w + 1 + k) :=
  ⟨by simp only [List.length_cons]; have := h.len; omega, fun f hf => by
    rcases List.mem_cons.mp hf with rfl | hf
    · exact hg
    · exact h.all f hf⟩

section
variable {C t : Array Nat} {W : Bool} {m : M} {pc pos : Nat} {fr : List Frame} {lp : Array Loop} {inn : Option Nat} {w : Nat} {ms : Array (Option Nat)} {lm : Int} {b : Bool} {N : Nat}

/-- what is told at the end -/
structure Fin (m : M) (ms : Array (Option Nat)) (lm : Int) (hd : Nat) : Prop where
  out : m.outcome = some .matched
  ms : m.marks = ms
  lm : m.lastmark = lm
  start : m.start = 0
  handed : m.handed = hd

theorem popAll {hd : Nat} : ∀ fr : List Frame, (∀ f ∈ fr, f.wait = .giveBack ∨ f.wait = .closeLoop ∨ f.wait = .maxMore ∨ f.wait = .maxTail) → ∀ m : M, m.outcome = none → m.answer = some true → m.frames = fr → m.marks = ms → m.lastmark = lm → m.start = 0 → m.handed = hd →
    Reach (fr.length + 1) m fun m' => Fin m' ms lm hd := by
  intro fr
  induction fr with
  | nil =>
    intro _ m ho ha hf h1 h2 h3 h4
    refine Reach.step ho (Reach.zero ?_)
    have e : m.step = { m with outcome := some .matched } := by
      unfold M.step
      simp [ho, ha, hf]
    rw [e]
    exact ⟨rfl, h1, h2, h3, h4⟩
  | cons f rest ih =>
    intro hall m ho ha hf h1 h2 h3 h4
    refine Reach.step ho ?_
    have e : m.step = resume { m with answer := none, frames := rest, weight := m.weight - (1 + f.kept.marks.size), pc := f.pc, pos := f.pos, outermost := f.outermost } f true := by
      unfold M.step
      simp [ho, ha, hf]
    rw [e]
    unfold resume
    rcases hall f (.head _) with hw | hw | hw | hw
    all_goals
      simp only [hw]
      exact ih (fun f hf => hall f (.tail _ hf)) _ ho rfl rfl h1 h2 h3 h4

theorem w108 (s : St C t W m pc pos fr lp inn w ms lm) (hpc : pc < C.size) (h0 : C.getD pc 0 = 1) (hp : W = true → pos = t.size) (hP : Pop fr w) (hw : w ≤ 16000000) : Reach 16000002 m fun m' => Fin m' ms lm pos := by
  obtain ⟨r, hh⟩ := s.successYes hpc h0 hp
  refine (Reach.step s.out (popAll fr hP.all m.step r.out r.ans r.fr r.ms r.lm r.start hh)).le ?_
  have := hP.len
  omega

theorem span_full {f : Nat → Bool} {n p : Nat} (h : ∀ j, p ≤ j → j < p + n → f (t.getD j 0) = true) : span f t n p = n := by
  rcases Nat.lt_or_ge (span f t n p) n with hl | hl
  · have := span_stop hl
    rw [h _ (by omega) (by omega)] at this
    cases this
  · have := span_le f t n p; omega

theorem span_zero {f : Nat → Bool} {n p : Nat} (h : f (t.getD p 0) = false) : span f t n p = 0 := by
  cases n with
  | zero => rfl
  | succ k => unfold span; rw [h]; rfl

/-- marks that stand: those up to lm -/
theorem mark_old {i : Nat} {ms' : Array (Option Nat)} (e : ms' = (if (i : Int) ≤ lm + 1 then ms
      else (List.range i).foldl (fun (a : Array (Option Nat)) (j : Nat) => if (j : Int) > lm then a.setIfInBounds j none else a) ms).setIfInBounds i (some pos)) {j : Nat} (hj : (j : Int) ≤ lm) (hi : j ≠ i) : ms'.getD j none = ms.getD j none := by
  have fold : ∀ (l : List Nat) (a : Array (Option Nat)), (l.foldl (fun (a : Array (Option Nat)) (j : Nat) => if (j : Int) > lm then a.setIfInBounds j none else a) a).getD j none = a.getD j none := by
    intro l
    induction l with
    | nil => intro a; rfl
    | cons x l ih =>
      intro a
      rw [List.foldl_cons, ih]
      split
      · rw [Array.getD_eq_getD_getElem?, Array.getD_eq_getD_getElem?, Array.getElem?_setIfInBounds_ne (by omega)]
      · rfl
  subst e
  rw [Array.getD_eq_getD_getElem?, Array.getElem?_setIfInBounds_ne (by omega), ← Array.getD_eq_getD_getElem?]
  split
  · rfl
  · exact fold _ _
theorem mark_size {i : Nat} {ms' : Array (Option Nat)} (e : ms' = (if (i : Int) ≤ lm + 1 then ms
      else (List.range i).foldl (fun (a : Array (Option Nat)) (j : Nat) => if (j : Int) > lm then a.setIfInBounds j none else a) ms).setIfInBounds i (some pos)) : ms'.size = ms.size := by
  subst e
  rw [Array.size_setIfInBounds]
  split
  · rfl
  · exact fold_size _ _
theorem mark_new {i : Nat} {ms' : Array (Option Nat)} (e : ms' = (if (i : Int) ≤ lm + 1 then ms
      else (List.range i).foldl (fun (a : Array (Option Nat)) (j : Nat) => if (j : Int) > lm then a.setIfInBounds j none else a) ms).setIfInBounds i (some pos)) (hi : i < ms.size) : ms'.getD i none = some pos := by
  have hz := mark_size e
  subst e
  rw [Array.size_setIfInBounds] at hz
  rw [Array.getD_eq_getD_getElem?, Array.getElem?_setIfInBounds_self_of_lt (by rw [hz]; exact hi)]
  rfl

/-- behind a failed round: the kept marks stand -/
theorem kept_old {ms₂ : Array (Option Nat)} {j : Nat} (hj : (j : Int) ≤ lm) (hz : j < ms.size) :
    (ms.extract 0 (lm + 1).toNat ++ ms₂.extract (ms.extract 0 (lm + 1).toNat).size ms₂.size).getD j none = ms.getD j none := by
  have hs : j < (ms.extract 0 (lm + 1).toNat).size := by rw [Array.size_extract]; omega
  rw [Array.getD_eq_getD_getElem?, Array.getElem?_append_left hs, Array.getElem?_extract, if_pos (by omega), Nat.zero_add, ← Array.getD_eq_getD_getElem?]
theorem kept_size {ms₂ : Array (Option Nat)} (h : ms₂.size = 6) (hm : ms.size = 6) :
    (ms.extract 0 (lm + 1).toNat ++ ms₂.extract (ms.extract 0 (lm + 1).toNat).size ms₂.size).size = 6 := by
  rw [Array.size_append, Array.size_extract, Array.size_extract]; omega
end
end Rx
end Mine

end
section
set_option maxRecDepth 100000
namespace Mine
namespace Rx
open PySem.Sre PySem.Sre.M

theorem z6 : zOf hdrC = 6 := by unfold zOf; rw [hdrC_size]; rfl

/-- the text of a machine: octets, not too many -/
structure Txt (t : Array Nat) : Prop where
  oct : ∀ p, t.getD p 0 < 256
  small : t.size ≤ 1000

/-- all blank from here -/
abbrev Tail (t : Array Nat) (p : Nat) : Prop := ∀ j, p ≤ j → j < t.size → isBlank (t.getD j 0) = true

/-- told: the marks up to 2 as in ms, group 2 ends at e -/
def Done (t : Array Nat) (ms : Array (Option Nat)) (e : Nat) (m' : M) : Prop :=
  ∃ ms' lm', Fin m' ms' lm' t.size ∧ (∀ j, j ≤ 2 → ms'.getD j none = ms.getD j none) ∧ ms'.getD 3 none = some e ∧ (lm' = 3 ∨ (lm' = 5 ∧ ms'.getD 4 none = ms.getD 4 none ∧ ms'.getD 5 none = some e))

section
variable {t : Array Nat} {m : M} {pos : Nat} {fr : List Frame} {lp : Array Loop} {inn : Option Nat} {w : Nat} {ms : Array (Option Nat)} {lm : Int} {N : Nat}

theorem w96 (T : Txt t) (s : St hdrC t true m 96 pos fr lp inn w ms lm) (hb : Tail t pos) (hp : pos ≤ t.size) (hP : Pop fr w) (hw : w ≤ 15999000) : Reach 16000003 m fun m' => Fin m' ms lm t.size := by
  have hn : span isBlank t (t.size - pos) pos = t.size - pos := span_full fun j h1 h2 => hb j h1 (by omega)
  obtain ⟨g, w', hg, rfl, s'⟩ := (s.rep (skip := 11) (least := 0) (by rw [hdrC_size]; decide) (by decide +kernel) (by decide +kernel) (by decide +kernel) (by decide +kernel) accB100 T.oct T.small (by omega) hn hp).2 (Nat.zero_le _)
  have hk := hg.kept
  rw [show pos + (t.size - pos) = t.size by omega] at s'
  exact Reach.step s.out (w108 s' (by rw [hdrC_size]; decide) (by decide +kernel) (fun _ => rfl) (hP.cons (.inl hg.wait)) (by omega))

theorem w94 (T : Txt t) (s : St hdrC t true m 94 pos fr lp inn w ms lm) (hlm : lm = 2 ∨ (lm = 5 ∧ ms.getD 5 none = some pos)) (hb : Tail t pos) (hp : pos ≤ t.size) (hP : Pop fr w) (hw : w ≤ 15999000) : Reach 16000004 m (Done t ms pos) := by
  obtain ⟨ms', s', e⟩ := s.mark (i := 3) (by rw [hdrC_size]; decide) (by decide +kernel) (by decide +kernel)
  refine Reach.step s.out ((w96 T s' hb hp hP hw).mono (Nat.le_refl _) fun m' hf => ?_)
  have h3 := mark_new e (by rw [s.mz, z6]; decide)
  refine ⟨ms', _, hf, fun j hj => mark_old e (by omega) (by omega), h3, ?_⟩
  rcases hlm with rfl | ⟨rfl, h5⟩
  · exact .inl rfl
  · exact .inr ⟨rfl, mark_old e (by decide) (by decide), (mark_old e (by decide) (by decide)).trans h5⟩

theorem w94a (T : Txt t) (s : St hdrC t true m 94 pos fr lp inn w ms 2) (hb : Tail t pos) (hp : pos ≤ t.size) (hP : Pop fr w) (hw : w ≤ 15999000) :
    Reach 16000004 m fun m' => ∃ ms', Fin m' ms' 3 t.size ∧ (∀ j, j ≤ 2 → ms'.getD j none = ms.getD j none) ∧ ms'.getD 3 none = some pos := by
  obtain ⟨ms', s', e⟩ := s.mark (i := 3) (by rw [hdrC_size]; decide) (by decide +kernel) (by decide +kernel)
  exact Reach.step s.out ((w96 T s' hb hp hP hw).mono (Nat.le_refl _) fun m' hf => ⟨ms', hf, fun j hj => mark_old e (by omega) (by omega), mark_new e (by rw [s.mz, z6]; decide)⟩)

theorem w93 {q : Nat} (T : Txt t) (s : St hdrC t true m 93 pos fr lp (some 0) w ms 5) (hl : lp[0]? = some (l₀ q)) (h5 : ms.getD 5 none = some pos) (hb : Tail t pos) (hp : pos ≤ t.size) (hP : Pop fr w) (hw : w ≤ 15998000) : Reach 16000005 m (Done t ms pos) := by
  obtain ⟨g, hg, s'⟩ := s.tail (by rw [hdrC_size]; decide) (by decide +kernel) hl c44 (most := 1) c45 (by show (0 : Int) ≤ 0 + 1; decide) (.inl (by show ((1 : Nat) : Int) ≤ 0 + 1 ∧ (1 : Nat) ≠ 4294967295; decide)) (by omega)
  have hk := hg.kept
  exact Reach.step s.out (w94 T s' (.inr ⟨rfl, h5⟩) hb hp (hP.cons (.inr (.inr (.inr hg.wait)))) (by omega))

theorem w91 {q : Nat} (T : Txt t) (s : St hdrC t true m 91 pos fr lp (some 0) w ms 4) (hl : lp[0]? = some (l₀ q)) (hb : Tail t pos) (hp : pos ≤ t.size) (hP : Pop fr w) (hw : w ≤ 15998000) : Reach 16000006 m (Done t ms pos) := by
  obtain ⟨ms', s', e⟩ := s.mark (i := 5) (by rw [hdrC_size]; decide) (by decide +kernel) (by decide +kernel)
  refine Reach.step s.out ((w93 T s' hl (mark_new e (by rw [s.mz, z6]; decide)) hb hp hP hw).mono (Nat.le_refl _) fun m' ⟨ms₂, lm₂, hf, h1, h2, h3⟩ => ?_)
  refine ⟨ms₂, lm₂, hf, fun j hj => (h1 j hj).trans (mark_old e (by omega) (by omega)), h2, ?_⟩
  rcases h3 with h3 | ⟨h3, h4, h5⟩
  · exact .inl h3
  · exact .inr ⟨h3, h4.trans (mark_old e (by decide) (by decide)), h5⟩

theorem Done.of {ms₀ : Array (Option Nat)} {e : Nat} {m' : M} (h : Done t ms e m') (h0 : ∀ j, j ≤ 2 → ms.getD j none = ms₀.getD j none) (h4 : ms.getD 4 none = ms₀.getD 4 none) : Done t ms₀ e m' := by
  obtain ⟨ms', lm', hf, h1, h2, h3⟩ := h
  exact ⟨ms', lm', hf, fun j hj => (h1 j hj).trans (h0 j hj), h2, h3.imp id fun ⟨a, b, c⟩ => ⟨a, b.trans h4, c⟩⟩

/-- no blank, or no octet behind the blanks: the round fails -/
theorem quick77 (T : Txt t) (hp : pos ≤ t.size) (hw : w ≤ 15997000) (hn : pos = t.size ∨ isV (t.getD pos 0) = false) : FailsAt hdrC t 2 77 pos fr lp inn w := by
  have hs : Rx.span isV t (t.size - pos) pos = 0 := by
    rcases hn with hn | hn
    · rw [hn, Nat.sub_self]; rfl
    · exact span_zero hn
  have := fail_rep (C := hdrC) (t := t) (pc := 77) (pos := pos) (fr := fr) (lp := lp) (inn := inn) (w := w) (skip := 12) (least := 1) (N1 := 0) (N2 := 0) (by rw [hdrC_size]; decide) (by decide +kernel) (by decide +kernel) (by decide +kernel) (by decide +kernel) accV81 T.oct T.small (by omega) hs hp
    (fun h => absurd h (by decide)) (fun j h h' => absurd h' (by omega))
  exact this.le (by omega)

theorem quick65 (T : Txt t) (hp : pos ≤ t.size) (hw : w ≤ 15996000) (hb : Tail t pos) : FailsAt hdrC t 5000 65 pos fr lp inn w := by
  have hs : Rx.span isBlank t (t.size - pos) pos = t.size - pos := span_full fun j h1 h2 => hb j h1 (by omega)
  have := fail_rep (C := hdrC) (t := t) (pc := 65) (pos := pos) (fr := fr) (lp := lp) (inn := inn) (w := w) (skip := 11) (least := 1) (N1 := 2) (N2 := 2) (by rw [hdrC_size]; decide) (by decide +kernel) (by decide +kernel) (by decide +kernel) (by decide +kernel) accB69 T.oct T.small (by omega) hs hp
    (fun h g w' hw' => quick77 T (by omega) (by omega) (.inl (by omega)))
    (fun j h h' g w' hw' => quick77 T (by omega) (by omega) (.inr (blank_notV (hb _ (by omega) (by omega)))))
  exact this.le (by have := T.small; omega)

/-- from a blank or the end: the rounds to the value's end -/
theorem w90 {q : Nat} (T : Txt t) : ∀ d pos, t.size - pos = d → pos ≤ t.size → (∀ j, pos ≤ j → j < t.size → isBlank (t.getD j 0) = true ∨ isV (t.getD j 0) = true) → (pos < t.size → isV (t.getD pos 0) = false) →
    ∃ e, pos ≤ e ∧ e ≤ t.size ∧ Tail t e ∧ (e = pos ∨ isV (t.getD (e - 1) 0) = true) ∧
      ∀ m fr w c be ms, St hdrC t true m 90 pos fr ((lp₀ q).push (l₁ c be)) (some 1) w ms 4 → w + 28 * d ≤ 15990000 → -1 ≤ c → be ≠ some pos → Pop fr w → Reach (16010000 + 4 * d) m (Done t ms e) := by
  intro d
  induction d using Nat.strongRecOn with
  | ind d ih =>
    intro pos hd hp hgood hv
    have hle := span_le isBlank t (t.size - pos) pos
    generalize hn : span isBlank t (t.size - pos) pos = n at hle
    by_cases hend : pos + n = t.size
    · -- blanks to the end
      have hb : Tail t pos := fun j h1 h2 => by
        have := span_all (f := isBlank) (t := t) (n := t.size - pos) (p := pos) (j := j - pos) (by omega)
        rwa [show pos + (j - pos) = j by omega] at this
      refine ⟨pos, Nat.le_refl _, hp, hb, .inl rfl, fun m fr w c be ms s hw hc hbe hP => ?_⟩
      obtain ⟨g, hg, s'⟩ := St.round (lp := lp₀ q) (l := l₁ c be) s (by rw [hdrC_size]; decide) (by decide +kernel) c63 (most := 4294967295) c64 (by show 0 ≤ c + 1; omega) (.inr rfl) hbe (by omega)
      have h1 := quick65 T hp (by have := hg.size s.msz; omega) hb _ _ _ s'
      refine (Reach.step s.out (h1.trans (b := 16000007) fun m' ⟨ms', lm', hm'⟩ => ?_)).le (by omega)
      obtain ⟨g', hg', s''⟩ := Ret.roundNo (lp := lp₀ q) (l := l₁ c be) hm' hg s.mz (by omega)
      have hk := hg'.kept
      refine Reach.step hm'.out ((w91 T s'' (lp0_get q _) hb hp (hP.cons (.inr (.inr (.inr hg'.wait)))) (by omega)).mono (Nat.le_refl _) fun m₂ h => ?_)
      have hz := s.mz
      rw [z6] at hz
      exact h.of (fun j hj => kept_old (by omega) (by omega)) (kept_old (by decide) (by omega))
    · -- a blank, then an octet of the value
      have hst := span_stop (f := isBlank) (t := t) (n := t.size - pos) (p := pos) (by omega)
      rw [hn] at hst
      have hvn : isV (t.getD (pos + n) 0) = true := (hgood (pos + n) (by omega) (by omega)).resolve_left (by rw [hst]; decide)
      have hn1 : 1 ≤ n := by
        rcases Nat.eq_zero_or_pos n with h | h
        · rw [h, Nat.add_zero] at hvn
          rw [hv (by omega)] at hvn; cases hvn
        · exact h
      have hle' := span_le isV t (t.size - (pos + n)) (pos + n)
      generalize hn' : span isV t (t.size - (pos + n)) (pos + n) = n' at hle'
      have hn1' : 1 ≤ n' := by
        rw [← hn']
        cases h : t.size - (pos + n) with
        | zero => omega
        | succ k => unfold span; rw [hvn]; simp
      obtain ⟨e, he1, he2, he3, he4, hgo⟩ := ih (t.size - (pos + n + n')) (by omega) (pos + n + n') rfl (by omega) (fun j h1 h2 => hgood j (by omega) h2) (fun h => by
        have := span_stop (f := isV) (t := t) (n := t.size - (pos + n)) (p := pos + n) (by omega)
        rwa [hn'] at this)
      refine ⟨e, by omega, he2, he3, ?_, fun m fr w c be ms s hw hc hbe hP => ?_⟩
      · refine .inr (he4.elim (fun h => ?_) id)
        have := span_all (f := isV) (t := t) (n := t.size - (pos + n)) (p := pos + n) (j := n' - 1) (by omega)
        rwa [h, show pos + n + n' - 1 = pos + n + (n' - 1) by omega]
      · obtain ⟨g, hg, s'⟩ := St.round (lp := lp₀ q) (l := l₁ c be) s (by rw [hdrC_size]; decide) (by decide +kernel) c63 (most := 4294967295) c64 (by show 0 ≤ c + 1; omega) (.inr rfl) hbe (by omega)
        have hk := hg.size s.msz
        change St hdrC t true _ 65 _ _ _ _ _ _ _ at s'
        obtain ⟨g2, _, hg2, rfl, s2⟩ := (s'.rep (skip := 11) (least := 1) (by rw [hdrC_size]; decide) (by decide +kernel) (by decide +kernel) (by decide +kernel) (by decide +kernel) accB69 T.oct T.small (by omega) hn hp).2 hn1
        have hk2 := hg2.kept
        change St hdrC t true _ 77 _ _ _ _ _ _ _ at s2
        obtain ⟨g3, _, hg3, rfl, s3⟩ := (s2.rep (skip := 12) (least := 1) (by rw [hdrC_size]; decide) (by decide +kernel) (by decide +kernel) (by decide +kernel) (by decide +kernel) accV81 T.oct T.small (by omega) hn' (by omega)).2 hn1'
        have hk3 := hg3.kept
        change St hdrC t true _ 90 _ _ _ _ _ _ _ at s3
        have := hgo _ _ _ (c + 1) (some pos) ms s3 (by omega) (by omega) (by simp; omega) (((hP.cons (.inr (.inr (.inl hg.wait)))).cons (.inl hg2.wait)).cons (.inl hg3.wait))
        exact (Reach.step s.out (Reach.step s'.out (Reach.step s2.out this))).le (by omega)

/-- the lines that the pattern takes whole, with what it tells -/
structure Hdr (t : Array Nat) (n s e : Nat) : Prop where
  tok : span isTok t t.size 0 = n
  pos : 1 ≤ n
  lt : n < t.size
  colon : t.getD n 0 = 58
  ns : n < s
  se : s ≤ e
  es : e ≤ t.size
  lead : ∀ j, n < j → j < s → isBlank (t.getD j 0) = true
  tail : Tail t e
  ends : s < e → isV (t.getD s 0) = true ∧ isV (t.getD (e - 1) 0) = true
  good : ∀ j, n < j → j < t.size → isBlank (t.getD j 0) = true ∨ isV (t.getD j 0) = true

def Told (n s e : Nat) (t : Array Nat) (m' : M) : Prop :=
  ∃ ms' lm', Fin m' ms' lm' t.size ∧ ms'.getD 0 none = some 0 ∧ ms'.getD 1 none = some n ∧ ms'.getD 2 none = some s ∧ ms'.getD 3 none = some e ∧
    (lm' = 3 ∨ (lm' = 5 ∧ ms'.getD 4 none = some s ∧ ms'.getD 5 none = some e))

theorem w5 {n : Nat} (T : Txt t) (hn : span isTok t t.size 0 = n) (h1 : 1 ≤ n) (hlt : n < t.size) (hcol : t.getD n 0 = 58) (good : ∀ j, n < j → j < t.size → isBlank (t.getD j 0) = true ∨ isV (t.getD j 0) = true) :
    ∃ s e, Hdr t n s e ∧ ∀ m ms, St hdrC t true m 5 0 [] #[] none 0 ms (-1) → Reach 16100000 m (Told n s e t) := by
  have hleb := span_le isBlank t (t.size - (n + 1)) (n + 1)
  generalize hk : span isBlank t (t.size - (n + 1)) (n + 1) = k at hleb
  have hlead : ∀ j, n < j → j < n + 1 + k → isBlank (t.getD j 0) = true := fun j h2 h3 => by
    have := span_all (f := isBlank) (t := t) (n := t.size - (n + 1)) (p := n + 1) (j := j - (n + 1)) (by omega)
    rwa [show n + 1 + (j - (n + 1)) = j by omega] at this
  -- the way to MARK 2, the loop and MARK 4
  have go : ∀ m ms, St hdrC t true m 5 0 [] #[] none 0 ms (-1) → ∃ m₂ ms₂ fr w, St hdrC t true m₂ 93 (n + 1 + k) fr ((#[] : Array Loop).push l₂) (some 0) w ms₂ 2 ∧ Pop fr w ∧ w ≤ 100 ∧
      (∀ N P, Reach N m₂ P → Reach (N + 8) m P) ∧ ms₂.getD 0 none = some 0 ∧ ms₂.getD 1 none = some n ∧ ms₂.getD 2 none = some (n + 1 + k) := by
    intro m ms s
    have hz6 := s.mz
    rw [z6] at hz6
    obtain ⟨msa, sa, ea⟩ := s.mark (i := 0) (by rw [hdrC_size]; decide) (by decide +kernel) (by decide +kernel)
    have hza := sa.mz
    rw [z6] at hza
    obtain ⟨g1, _, hg1, rfl, sb⟩ := (sa.rep (skip := 16) (least := 1) (by rw [hdrC_size]; decide) (by decide +kernel) (by decide +kernel) (by decide +kernel) (by decide +kernel) acc_tok T.oct T.small (by omega) (by rw [Nat.sub_zero]; exact hn) (Nat.zero_le _)).2 h1
    have hk1 := hg1.kept
    rw [Nat.zero_add] at sb
    obtain ⟨msc, sc, ec⟩ := sb.mark (i := 1) (by rw [hdrC_size]; decide) (by decide +kernel) (by decide +kernel)
    have hzc := sc.mz
    rw [z6] at hzc
    have sd := (sc.literal (k := 58) (by rw [hdrC_size]; decide) (by decide +kernel) (by decide +kernel)).2 hlt hcol
    obtain ⟨g2, _, hg2, rfl, se⟩ := (sd.rep (skip := 11) (least := 0) (by rw [hdrC_size]; decide) (by decide +kernel) (by decide +kernel) (by decide +kernel) (by decide +kernel) accB32 T.oct T.small (by omega) hk (by omega)).2 (Nat.zero_le _)
    have hk2 := hg2.kept
    obtain ⟨msf, sf, ef⟩ := se.mark (i := 2) (by rw [hdrC_size]; decide) (by decide +kernel) (by decide +kernel)
    obtain ⟨g3, hg3, sg⟩ := sf.repeat_ (skip := 50) (by rw [hdrC_size]; decide) (by decide +kernel) (by decide +kernel) (by omega)
    have hk3 := hg3.kept
    refine ⟨_, msf, _, _, sg, (((Pop.mk (Nat.zero_le _) (fun f hf => nomatch hf) : Pop [] 0).cons (.inl hg1.wait)).cons (.inl hg2.wait)).cons (.inr (.inl hg3.wait)), by omega, fun N P h => ?_, ?_, ?_, ?_⟩
    · exact (Reach.step s.out (Reach.step sa.out (Reach.step sb.out (Reach.step sc.out (Reach.step sd.out (Reach.step se.out (Reach.step sf.out h))))))).le (by omega)
    · exact (mark_old ef (by decide) (by decide)).trans ((mark_old ec (by decide) (by decide)).trans (mark_new ea (by omega)))
    · exact (mark_old ef (by decide) (by decide)).trans (mark_new ec (by omega))
    · exact mark_new ef (by omega)
  by_cases hend : n + 1 + k = t.size
  · -- an empty value
    have hT : Tail t (n + 1 + k) := fun j h2 h3 => by omega
    refine ⟨n + 1 + k, n + 1 + k, ⟨hn, h1, hlt, hcol, by omega, Nat.le_refl _, by omega, hlead, hT, fun h => absurd h (Nat.lt_irrefl _), good⟩, fun m ms s => ?_⟩
    obtain ⟨m₂, ms₂, fr, w, s2, hP, hw, hback, e0, e1, e2⟩ := go m ms s
    refine (hback 16010000 _ ?_).le (by omega)
    obtain ⟨g, hg, s'⟩ := St.round (lp := (#[] : Array Loop)) (l := l₂) s2 (by rw [hdrC_size]; decide) (by decide +kernel) c44 (most := 1) c45 (by decide) (.inl (by decide)) (by simp) (by omega)
    change St hdrC t true _ 46 _ _ _ _ _ _ _ at s'
    have hgs := hg.size s2.msz
    have hq : FailsAt hdrC t 3 46 (n + 1 + k) (g :: fr) ((#[] : Array Loop).push (l₀ (n + 1 + k))) (some 0) (w + 1 + g.kept.marks.size) := by
      refine fail_mark (i := 4) (by rw [hdrC_size]; decide) (by decide +kernel) (by decide +kernel) ?_
      have hs : Rx.span isV t (t.size - (n + 1 + k)) (n + 1 + k) = 0 := by rw [hend, Nat.sub_self]; rfl
      have := fail_rep (C := hdrC) (t := t) (pc := 48) (pos := n + 1 + k) (fr := g :: fr) (lp := (#[] : Array Loop).push (l₀ (n + 1 + k))) (inn := some 0) (w := w + 1 + g.kept.marks.size) (skip := 12) (least := 1) (N1 := 0) (N2 := 0) (by rw [hdrC_size]; decide) (by decide +kernel) (by decide +kernel) (by decide +kernel) (by decide +kernel) accV52 T.oct T.small (by omega) hs (by omega)
        (fun h => absurd h (by decide)) (fun j h h' => absurd h' (by omega))
      exact this.le (by omega)
    refine (Reach.step s2.out ((hq _ _ _ s').trans (b := 16000005) fun m' ⟨ms', lm', hm'⟩ => ?_)).le (by omega)
    obtain ⟨g', hg', s''⟩ := Ret.roundNo (lp := (#[] : Array Loop)) (l := l₂) hm' hg s2.mz (by omega)
    have hk' := hg'.kept
    have hz2 := s2.mz
    rw [z6] at hz2
    refine Reach.step hm'.out ((w94a T s'' hT (by omega) (hP.cons (.inr (.inr (.inr hg'.wait)))) (by omega)).mono (Nat.le_refl _) fun m₃ ⟨ms₃, hf, d1, d2⟩ => ?_)
    have kk : ∀ j, j ≤ 2 → ms₃.getD j none = ms₂.getD j none := fun j hj => (d1 j hj).trans (kept_old (by omega) (by omega))
    exact ⟨ms₃, 3, hf, (kk 0 (by decide)).trans e0, (kk 1 (by decide)).trans e1, (kk 2 (by decide)).trans e2, d2, .inl rfl⟩
  · -- a value
    have hst := span_stop (f := isBlank) (t := t) (n := t.size - (n + 1)) (p := n + 1) (by omega)
    rw [hk] at hst
    have hvs : isV (t.getD (n + 1 + k) 0) = true := (good (n + 1 + k) (by omega) (by omega)).resolve_left (by rw [hst]; decide)
    have hlev := span_le isV t (t.size - (n + 1 + k)) (n + 1 + k)
    generalize hv : span isV t (t.size - (n + 1 + k)) (n + 1 + k) = v at hlev
    have hv1 : 1 ≤ v := by
      rw [← hv]
      cases h : t.size - (n + 1 + k) with
      | zero => omega
      | succ z => unfold span; rw [hvs]; simp
    obtain ⟨e, he1, he2, he3, he4, hgo⟩ := w90 (q := n + 1 + k) T (t.size - (n + 1 + k + v)) (n + 1 + k + v) rfl (by omega) (fun j h2 h3 => good j (by omega) h3) (fun h => by
      have := span_stop (f := isV) (t := t) (n := t.size - (n + 1 + k)) (p := n + 1 + k) (by omega)
      rwa [hv] at this)
    refine ⟨n + 1 + k, e, ⟨hn, h1, hlt, hcol, by omega, by omega, he2, hlead, he3, fun _ => ⟨hvs, he4.elim (fun h => ?_) id⟩, good⟩, fun m ms s => ?_⟩
    · have := span_all (f := isV) (t := t) (n := t.size - (n + 1 + k)) (p := n + 1 + k) (j := v - 1) (by omega)
      rwa [h, show n + 1 + k + v - 1 = n + 1 + k + (v - 1) by omega]
    obtain ⟨m₂, ms₂, fr, w, s2, hP, hw, hback, e0, e1, e2⟩ := go m ms s
    have hsm := T.small
    refine (hback 16015000 _ ?_).le (by omega)
    have hz2 := s2.mz
    rw [z6] at hz2
    obtain ⟨g, hg, s'⟩ := St.round (lp := (#[] : Array Loop)) (l := l₂) s2 (by rw [hdrC_size]; decide) (by decide +kernel) c44 (most := 1) c45 (by decide) (.inl (by decide)) (by simp) (by omega)
    change St hdrC t true _ 46 _ _ (lp₀ (n + 1 + k)) _ _ _ _ at s'
    have hgs := hg.size s2.msz
    obtain ⟨ms₃, s3, e3⟩ := s'.mark (i := 4) (by rw [hdrC_size]; decide) (by decide +kernel) (by decide +kernel)
    obtain ⟨g4, _, hg4, rfl, s4⟩ := (s3.rep (skip := 12) (least := 1) (by rw [hdrC_size]; decide) (by decide +kernel) (by decide +kernel) (by decide +kernel) (by decide +kernel) accV52 T.oct T.small (by omega) hv (by omega)).2 hv1
    have hk4 := hg4.kept
    change St hdrC t true _ 61 _ _ _ _ _ _ _ at s4
    obtain ⟨g5, hg5, s5⟩ := s4.repeat_ (skip := 28) (by rw [hdrC_size]; decide) (by decide +kernel) (by decide +kernel) (by omega)
    have hk5 := hg5.kept
    have hw90 := hgo _ _ _ (-1) none ms₃ s5 (by omega) (by decide) (by simp) (((hP.cons (.inr (.inr (.inl hg.wait)))).cons (.inl hg4.wait)).cons (.inr (.inl hg5.wait)))
    refine (Reach.step s2.out (Reach.step s'.out (Reach.step s3.out (Reach.step s4.out (hw90.mono (Nat.le_refl _) fun m' ⟨ms', lm', hf, d1, d2, d3⟩ => ?_))))).le (by omega)
    have kk : ∀ j, j ≤ 2 → ms'.getD j none = ms₂.getD j none := fun j hj => (d1 j hj).trans (mark_old e3 (by omega) (by omega))
    refine ⟨ms', lm', hf, (kk 0 (by decide)).trans e0, (kk 1 (by decide)).trans e1, (kk 2 (by decide)).trans e2, d2, d3.imp id fun ⟨a, b, c⟩ => ⟨a, b.trans (mark_new e3 (by omega)), c⟩⟩
end
end Rx
end Mine

end
section
open PySem PySem.W PySem.Calls PyProof.Rows PySem.Builtin.Re
set_option maxRecDepth 100000
namespace Mine

section
variable {M : Model} {A : Around} {E : Value → Shared → Prop} {s : Shared}

theorem drive {Q : Sre.M → Shared → Prop} : ∀ (turns : Nat) (m : Sre.M) (k : Nat), k < 4 * turns → (m.runFor k).outcome.isSome = true → Q (m.runFor k) s → wpAny M A (reDrive turns m) Q E s := by
  intro turns
  induction turns with
  | zero => intro m k hk _ _; omega
  | succ n ih =>
    intro m k hk ho hQ
    show wpAny M A (if (m.runFor reTurnSteps).outcome.isSome = true then pure (m.runFor reTurnSteps) else (rule "sre.turn" >>= fun _ => reDrive n (m.runFor reTurnSteps))) Q E s
    by_cases h4 : (m.runFor reTurnSteps).outcome.isSome = true
    · rw [if_pos h4]
      refine wpAny_pure ?_
      have e : m.runFor reTurnSteps = m.runFor k := by
        by_cases hk4 : k ≤ 4
        · rw [show reTurnSteps = k + (4 - k) by unfold reTurnSteps; omega, Rx.runFor_add, Rx.runFor_some ho]
        · rw [show k = reTurnSteps + (k - 4) by unfold reTurnSteps; omega, Rx.runFor_add, Rx.runFor_some h4]
      rw [e]; exact hQ
    · rw [if_neg h4]
      refine wpAny_bind (wpAny_rule ?_)
      have hk4 : 4 < k := by
        rcases Nat.lt_or_ge 4 k with h | h
        · exact h
        · refine absurd ?_ h4
          rw [show reTurnSteps = k + (4 - k) by unfold reTurnSteps; omega, Rx.runFor_add, Rx.runFor_some ho]; exact ho
      have e : (m.runFor reTurnSteps).runFor (k - 4) = m.runFor k := by rw [← Rx.runFor_add]; congr 1; unfold reTurnSteps; omega
      exact ih _ (k - 4) (by omega) (by rw [e]; exact ho) (by rw [e]; exact hQ)

theorem seenRules {m : Sre.M} {Q : Unit → Shared → Prop} (l : List Nat) (hQ : Q () s) :
    wpAny M A (forIn (m := Sem) l () fun i (_ : Unit) => if m.seen.has i then (do rule (Sre.names.getD i ""); pure (ForInStep.yield ())) else pure (ForInStep.yield ())) Q E s := by
  induction l with
  | nil => exact wpAny_pure hQ
  | cons i l ih =>
    rw [List.forIn_cons]
    refine wpAny_bind ?_
    split
    · exact wpAny_bind (wpAny_rule (wpAny_pure ih))
    · exact wpAny_pure ih

theorem toEnd {m : Sre.M} {Q : Option Sre.M → Shared → Prop} {k : Nat} (hk : k < 4 * 2 ^ 64) (h : ((m.runFor k).outcome = some .matched ∧ Q (some (m.runFor k)) s) ∨ ((m.runFor k).outcome = some .failed ∧ Q none s)) :
    wpAny M A (reRunToEnd m) Q E s := by
  unfold reRunToEnd
  refine wpAny_bind (drive _ m k hk (by rcases h with h | h <;> rw [h.1] <;> rfl) ?_)
  refine wpAny_bind (seenRules _ ?_)
  rcases h with h | h
  · rw [h.1]; exact wpAny_pure h.2
  · rw [h.1]; exact wpAny_pure h.2
end
end Mine

end
section
set_option maxRecDepth 100000
namespace Mine
namespace Rx
open PySem.Sre PySem.Sre.M

/-- the machine at its start -/
abbrev start₀ (C t : Array Nat) (g : Nat) (W : Bool) : M :=
  { code := C, text := t, lim := t.size, start := 0, pc := (header C).2, pos := 0, handed := 0, marks := Array.replicate (2 * g) none, mustAdvance := false, wholeText := W,
    seen := if (header C).2 == 0 then {} else ({} : Seen).add 14 }

theorem forMatch_eq (C t : Array Nat) (g : Nat) (W : Bool) : forMatch C t g 0 t.size W false = if ((header C).1 != 0 && decide (0 ≤ t.size) && decide (t.size - 0 < (header C).1)) = true then (start₀ C t g W).say false else start₀ C t g W := rfl

theorem hdr_header : header hdrC = (2, 5) := by decide +kernel
theorem fold_header : header foldC = (1, 5) := by decide +kernel

theorem failEnd {m : M} (h0 : m.outcome = none) (h1 : m.answer = some false) (h2 : m.frames = []) : (m.runFor 1).outcome = some .failed := by
  show (if m.outcome.isSome = true then m else (m.step).runFor 0).outcome = _
  rw [h0]
  show m.step.outcome = _
  unfold M.step
  simp [h0, h1, h2]

theorem startSt (C t : Array Nat) (g : Nat) (W : Bool) (hp : (header C).2 = 5) (hz : 2 * g = zOf C) : St C t W (start₀ C t g W) 5 0 [] #[] none 0 (Array.replicate (2 * g) none) (-1) :=
  ⟨⟨rfl, rfl, rfl, rfl, rfl, rfl, rfl, rfl, rfl, rfl, rfl, by rw [Array.size_replicate, hz], rfl, rfl⟩, rfl, hp, rfl, rfl⟩

section
variable {t : Array Nat}

theorem hdrNo (T : Txt t) (h : NoHdr t) : ∃ k, k < 4 * 2 ^ 64 ∧ ((forMatch hdrC t 3 0 t.size true false).runFor k).outcome = some .failed := by
  rw [forMatch_eq, hdr_header]
  split
  · exact ⟨1, by decide, failEnd rfl rfl rfl⟩
  · obtain ⟨k, hk, ms, lm, hr⟩ := f5 T.oct T.small h _ _ _ (startSt hdrC t 3 true (by rw [hdr_header]) (by rw [z6]))
    refine ⟨k + 1, by omega, ?_⟩
    rw [runFor_add]
    exact failEnd hr.out hr.ans hr.fr

theorem hdrYes {n : Nat} (T : Txt t) (hn : span isTok t t.size 0 = n) (h1 : 1 ≤ n) (hlt : n < t.size) (hcol : t.getD n 0 = 58) (good : ∀ j, n < j → j < t.size → isBlank (t.getD j 0) = true ∨ isV (t.getD j 0) = true) :
    ∃ s e, Hdr t n s e ∧ ∃ k, k < 4 * 2 ^ 64 ∧ Told n s e t ((forMatch hdrC t 3 0 t.size true false).runFor k) := by
  obtain ⟨s, e, H, h⟩ := w5 T hn h1 hlt hcol good
  obtain ⟨k, hk, ht⟩ := h _ _ (startSt hdrC t 3 true (by rw [hdr_header]) (by rw [z6]))
  refine ⟨s, e, H, k, by omega, ?_⟩
  rw [forMatch_eq, hdr_header, if_neg]
  · exact ht
  · have := H.ns; have := H.se; have := H.es
    simp; omega

theorem z0 : zOf foldC = 0 := by unfold zOf; rw [foldC_size]; rfl
theorem accF9 : Acc foldC 9 isBlank := acc_blank (z := 15) (by decide +kernel) (by decide +kernel) (by decide +kernel) (by decide +kernel) (by decide +kernel) (by decide +kernel) foldC_size

/-- how many blanks lead -/
abbrev lead (t : Array Nat) : Nat := span isBlank t t.size 0

theorem foldRun (T : Txt t) : ∃ k, k < 4 * 2 ^ 64 ∧ ((lead t = 0 ∧ ((forMatch foldC t 0 0 t.size false false).runFor k).outcome = some .failed) ∨
    (0 < lead t ∧ Fin ((forMatch foldC t 0 0 t.size false false).runFor k) #[] (-1) (lead t))) := by
  rw [forMatch_eq, fold_header]
  split
  · rename_i h
    have hz : t.size = 0 := by
      have h2 : t.size - 0 < 1 := of_decide_eq_true (Bool.and_eq_true_iff.mp h).2
      omega
    refine ⟨1, by decide, .inl ⟨?_, failEnd rfl rfl rfl⟩⟩
    unfold lead; rw [hz]; rfl
  · have s := startSt foldC t 0 false (by rw [fold_header]) (by rw [z0])
    have hr := s.rep (skip := 11) (least := 1) (by rw [foldC_size]; decide) (by decide +kernel) (by decide +kernel) (by decide +kernel) (by decide +kernel) accF9 T.oct T.small (by decide) (n := lead t) (by rw [Nat.sub_zero]) (Nat.zero_le _)
    by_cases h : lead t = 0
    · have r := hr.1 (by omega)
      refine ⟨2, by decide, .inl ⟨h, ?_⟩⟩
      rw [show (2 : Nat) = 1 + 1 from rfl, runFor_add]
      exact failEnd r.out r.ans r.fr
    · obtain ⟨g, _, hg, rfl, s'⟩ := hr.2 (by omega)
      have hk := hg.kept
      obtain ⟨k, hk', hf⟩ := w108 s' (by rw [foldC_size]; decide) (by decide +kernel) (fun h => nomatch h) ((Pop.mk (Nat.zero_le _) (fun f hf => nomatch hf) : Pop [] 0).cons (.inl hg.wait)) (by omega)
      refine ⟨1 + k, by omega, .inr ⟨by omega, ?_⟩⟩
      rw [runFor_add]
      rw [Nat.zero_add] at hf
      exact hf
end
end Rx
end Mine

end
section
open PySem PySem.W PySem.W.X PySem.Calls PyProof.Rows
set_option maxRecDepth 100000
namespace Mine

def defBody : Stmt → List Stmt
  | .FunctionDef _ _ b _ _ _ _ _ _ _ => b
  | _ => []
def defScope : Stmt → Scope
  | .FunctionDef _ _ _ _ _ _ s _ _ _ => s
  | _ => default
def forBody : Stmt → List Stmt
  | .For _ _ b _ _ => b
  | _ => []

theorem warm : (∀ P, Mine.hd.heap_39 P = Mine.hd.heap_39 P) ∧ PySem.Challenge.rw_ae6005_01 = PySem.Challenge.rw_ae6005_01 := by
  k_fill
  exact ⟨fun _ => rfl, rfl⟩

def foldSt : Stmt := topSt 9
def foldBody : List Stmt := defBody foldSt
def foldScope : Scope := defScope foldSt
abbrev foldEnv (L : Addr) : Env := envOf (Str.ofString "_obsolete_line_fold") foldScope L 105 (.ref 104)
def foldTurn : List Stmt := forBody (foldBody.getD 2 (.Pass default))
end Mine

end
section
open PySem PySem.W PySem.Calls PyProof.Rows
set_option maxRecDepth 100000
namespace Mine

theorem plain_re_Pattern : PlainAttrs "re.Pattern" :=
  ⟨⟨"object.__getattribute__", by rw [typeLookup_type, builtinLookup_eq_fast]; kernel_rfl, by decide +kernel⟩, by rw [typeLookup_type, builtinLookup_eq_fast]; kernel_rfl⟩
theorem slot_re_Pattern_match : Slot "re.Pattern" "match" "re.Pattern.match" :=
  .of (owner := "re.Pattern") (n := "match") (by rw [typeLookup_type, builtinLookup_eq_fast]; kernel_rfl) (by decide +kernel) (by decide +kernel) (by decide +kernel)
    (by first | exact .inl (by decide +kernel) | exact .inr (by decide +kernel)) (by rw [isSubtype_type]; kernel_rfl)
theorem type_re_Pattern_match : typeOf (.builtin "re.Pattern.match") = pure (.type "method_descriptor") := by show builtinType _ = _; rw [builtinType_eq_fast]; kernel_rfl
theorem entry_re_Pattern_match : entryFor table "re.Pattern.match" = some Builtin.«re.Pattern.match» := entryFor_of_tree (by kernel_rfl)
theorem slot_re_Pattern_fullmatch : Slot "re.Pattern" "fullmatch" "re.Pattern.fullmatch" :=
  .of (owner := "re.Pattern") (n := "fullmatch") (by rw [typeLookup_type, builtinLookup_eq_fast]; kernel_rfl) (by decide +kernel) (by decide +kernel) (by decide +kernel)
    (by first | exact .inl (by decide +kernel) | exact .inr (by decide +kernel)) (by rw [isSubtype_type]; kernel_rfl)
theorem type_re_Pattern_fullmatch : typeOf (.builtin "re.Pattern.fullmatch") = pure (.type "method_descriptor") := by show builtinType _ = _; rw [builtinType_eq_fast]; kernel_rfl
theorem entry_re_Pattern_fullmatch : entryFor table "re.Pattern.fullmatch" = some Builtin.«re.Pattern.fullmatch» := entryFor_of_tree (by kernel_rfl)
theorem plain_re_Match : PlainAttrs "re.Match" :=
  ⟨⟨"object.__getattribute__", by rw [typeLookup_type, builtinLookup_eq_fast]; kernel_rfl, by decide +kernel⟩, by rw [typeLookup_type, builtinLookup_eq_fast]; kernel_rfl⟩
theorem slot_re_Match_end : Slot "re.Match" "end" "re.Match.end" :=
  .of (owner := "re.Match") (n := "end") (by rw [typeLookup_type, builtinLookup_eq_fast]; kernel_rfl) (by decide +kernel) (by decide +kernel) (by decide +kernel)
    (by first | exact .inl (by decide +kernel) | exact .inr (by decide +kernel)) (by rw [isSubtype_type]; kernel_rfl)
theorem type_re_Match_end : typeOf (.builtin "re.Match.end") = pure (.type "method_descriptor") := by show builtinType _ = _; rw [builtinType_eq_fast]; kernel_rfl
theorem entry_re_Match_end : entryFor table "re.Match.end" = some Builtin.«re.Match.end» := entryFor_of_tree (by kernel_rfl)
theorem slot_re_Match_groupdict : Slot "re.Match" "groupdict" "re.Match.groupdict" :=
  .of (owner := "re.Match") (n := "groupdict") (by rw [typeLookup_type, builtinLookup_eq_fast]; kernel_rfl) (by decide +kernel) (by decide +kernel) (by decide +kernel)
    (by first | exact .inl (by decide +kernel) | exact .inr (by decide +kernel)) (by rw [isSubtype_type]; kernel_rfl)
theorem type_re_Match_groupdict : typeOf (.builtin "re.Match.groupdict") = pure (.type "method_descriptor") := by show builtinType _ = _; rw [builtinType_eq_fast]; kernel_rfl
theorem entry_re_Match_groupdict : entryFor table "re.Match.groupdict" = some Builtin.«re.Match.groupdict» := entryFor_of_tree (by kernel_rfl)
theorem plain_bytes : PlainAttrs "bytes" :=
  ⟨⟨"bytes.__getattribute__", by rw [typeLookup_type, builtinLookup_eq_fast]; kernel_rfl, by decide +kernel⟩, by rw [typeLookup_type, builtinLookup_eq_fast]; kernel_rfl⟩
theorem slot_bytes_find : Slot "bytes" "find" "bytes.find" :=
  .of (owner := "bytes") (n := "find") (by rw [typeLookup_type, builtinLookup_eq_fast]; kernel_rfl) (by decide +kernel) (by decide +kernel) (by decide +kernel)
    (by first | exact .inl (by decide +kernel) | exact .inr (by decide +kernel)) (by rw [isSubtype_type]; kernel_rfl)
theorem type_bytes_find : typeOf (.builtin "bytes.find") = pure (.type "method_descriptor") := by show builtinType _ = _; rw [builtinType_eq_fast]; kernel_rfl
theorem entry_bytes_find : entryFor table "bytes.find" = some Builtin.«bytes.find» := entryFor_of_tree (by kernel_rfl)
theorem slot_bytes_strip : Slot "bytes" "strip" "bytes.strip" :=
  .of (owner := "bytes") (n := "strip") (by rw [typeLookup_type, builtinLookup_eq_fast]; kernel_rfl) (by decide +kernel) (by decide +kernel) (by decide +kernel)
    (by first | exact .inl (by decide +kernel) | exact .inr (by decide +kernel)) (by rw [isSubtype_type]; kernel_rfl)
theorem type_bytes_strip : typeOf (.builtin "bytes.strip") = pure (.type "method_descriptor") := by show builtinType _ = _; rw [builtinType_eq_fast]; kernel_rfl
theorem entry_bytes_strip : entryFor table "bytes.strip" = some Builtin.«bytes.strip» := entryFor_of_tree (by kernel_rfl)
theorem slot_bytes_lstrip : Slot "bytes" "lstrip" "bytes.lstrip" :=
  .of (owner := "bytes") (n := "lstrip") (by rw [typeLookup_type, builtinLookup_eq_fast]; kernel_rfl) (by decide +kernel) (by decide +kernel) (by decide +kernel)
    (by first | exact .inl (by decide +kernel) | exact .inr (by decide +kernel)) (by rw [isSubtype_type]; kernel_rfl)
theorem type_bytes_lstrip : typeOf (.builtin "bytes.lstrip") = pure (.type "method_descriptor") := by show builtinType _ = _; rw [builtinType_eq_fast]; kernel_rfl
theorem entry_bytes_lstrip : entryFor table "bytes.lstrip" = some Builtin.«bytes.lstrip» := entryFor_of_tree (by kernel_rfl)
end Mine

end
section
open PySem PySem.W PySem.W.X PySem.Calls PyProof.Rows PySem.Builtin PySem.Builtin.Re
set_option maxRecDepth 100000
namespace Mine

/-- a bytearray with nobody's hand on it -/
abbrev baObj (b : Array UInt8) : Obj := { cls := .type "bytearray", dict := none, data := .bytearray b 0, slots := #[] }

/-- octets: immediate, or in a bytearray -/
def OctAt (h : Heap) (v : Value) (b : Array UInt8) : Prop := (∃ t, v = .bytes b t) ∨ ∃ a, v = .ref a ∧ h.get? a = some (baObj b)

theorem ba_buffer : typeLookup (.type "bytearray") "__buffer__" = pure (some (.builtin "bytearray.__buffer__")) := by rw [typeLookup_type, builtinLookup_eq_fast]; kernel_rfl
theorem ba_sub : isSubtype (.type "bytearray") (.type "bytearray") = pure true := by rw [isSubtype_type]; kernel_rfl
theorem ba_sub_bytes : isSubtype (.type "bytearray") (.type "bytes") = pure false := by rw [isSubtype_type]; kernel_rfl
theorem ba_release : typeLookup (.type "bytearray") "__release_buffer__" = pure (some (.builtin "bytearray.__release_buffer__")) := by rw [typeLookup_type, builtinLookup_eq_fast]; kernel_rfl

section
variable {M : Model} {A : Around} {E : Value → Shared → Prop} {s : Shared} {a : Addr} {b : Array UInt8}
theorem baType (ha : s.heap.get? a = some (baObj b)) : s.TypeIs (.ref a) "bytearray" := ⟨_, ha, rfl⟩

theorem ownSlot_ba {name : String} {id : String} {Q : Bool → Shared → Prop} (ha : s.heap.get? a = some (baObj b)) (hl : typeLookup (.type "bytearray") (name : Str) = pure (some (.builtin id)))
    (he : id.endsWith ("." ++ name) = true) (hd : id.dropRight (name.length + 1) = "bytearray") (h : Q true s) : wpAny M A (Bytes.slotIsOwn (.ref a) name) Q E s := by
  unfold Bytes.slotIsOwn
  refine wpAny_bind (wpAny_specialOf (baType ha) hl ?_)
  show wpAny M A (if (!id.endsWith ("." ++ name)) = true then pure false else isInstance (.ref a) (.type (id.dropRight (name.length + 1)))) Q E s
  rw [he, hd, if_neg (by decide)]
  exact wpAny_isInstance (baType ha) ba_sub h

theorem buf_ba {id : String} {Q : Option (Array UInt8) → Shared → Prop} (ha : s.heap.get? a = some (baObj b)) (h : Q (some b) s) : wpAny M A (Bytes.bufferQuiet? id (.ref a)) Q E s := by
  unfold Bytes.bufferQuiet? Bytes.buffer?
  refine wpAny_bind (wpAny_attempt ?_)
  refine wpAny_bind (wpAny_specialOf (baType ha) ba_buffer ?_)
  refine wpAny_bind (ownSlot_ba ha ba_buffer (by decide +kernel) (by decide +kernel) ?_)
  show wpAny M A (specialOf (.ref a) _ >>= _) _ _ s
  refine wpAny_bind (wpAny_specialOf (baType ha) ba_buffer ?_)
  show wpAny M A (Bytes.ownRelease (.ref a) >>= _) _ _ s
  unfold Bytes.ownRelease
  refine wpAny_bind (wpAny_bind (ownSlot_ba ha ba_release (by decide +kernel) (by decide +kernel) (wpAny_pure ?_)))
  show wpAny M A (Bytes.payload (.ref a) >>= _) _ _ s
  unfold Bytes.payload Bytes.payload?
  refine wpAny_bind (wpAny_bind ?_)
  show wpAny M A (load a >>= _) _ _ s
  refine wpAny_bind (wpAny_load ha ?_)
  exact wpAny_pure (wpAny_pure (wpAny_pure (wpAny_pure h)))

theorem textOf {v : Value} {Q : Array Nat × Nat → Shared → Prop} (hv : OctAt s.heap v b) (h : Q (b.map (·.toNat), 1) s) : wpAny M A (reTextOf v) Q E s := by
  unfold reTextOf
  rcases hv with ⟨t, rfl⟩ | ⟨a, rfl, ha⟩
  · refine wpAny_bind (wpAny_of_eq (a := none) rfl ?_)
    show wpAny M A (Bytes.bufferQuiet? "_sre" (.bytes b t) >>= _) _ _ s
    rw [KBy.quiet_eq]
    exact wpAny_bind (wpAny_pure (wpAny_pure h))
  · refine wpAny_bind ?_
    show wpAny M A (load a >>= _) _ _ s
    refine wpAny_bind (wpAny_load ha (wpAny_pure ?_))
    exact wpAny_bind (buf_ba ha (wpAny_pure h))
end

section
variable {w : World} {A : Around} {s : Shared} {b : Array UInt8}

theorem askGc {stop : String} {Q : Unit → Shared → Prop} {E : Value → Shared → Prop} (h : Q () s) : wpAny (mdl prog₀ w) A (noCollectionInside stop) Q E s := by
  unfold noCollectionInside
  refine wpAny_bind (wpAny_runValue (codeAny_of_tree ?_))
  show wpAny _ _ (denA (.builtin "gc.ask" ⟨[rawInt 13], []⟩)) _ _ s
  rw [denA_ask rfl]
  refine wpAny_pure ?_
  show wpAny _ A (if (Value.bool false != Value.bool false) = true then _ else _) Q E s
  rw [if_neg (by decide)]
  exact wpAny_pure h

theorem noColl {v : Value} {Q : Unit → Shared → Prop} {E : Value → Shared → Prop} (hv : OctAt s.heap v b) (h : Q () s) : wpAny (mdl prog₀ w) A (reNoCollectionInside v 1) Q E s := by
  unfold reNoCollectionInside
  show wpAny _ A (isInstance v (.type "bytes") >>= _) Q E s
  rcases hv with ⟨t, rfl⟩ | ⟨a, rfl, ha⟩
  · refine wpAny_bind (wpAny_isInstance (typeIs_bytes s b t) F.sub_bytes_bytes ?_)
    exact wpAny_pure h
  · refine wpAny_bind (wpAny_isInstance (baType ha) ba_sub_bytes ?_)
    exact askGc h

/-- a pattern of the text -/
structure Pat (h : Heap) (pat : Addr) (C : Array Nat) (g : Nat) : Prop where
  obj : ∃ o fs tup, h.get? pat = some o ∧ o.cls = .type "re.Pattern" ∧ o.dict = none ∧ o.data = .fields fs ∧ fs.getD 6 .none = rawInt 1 ∧ fs.getD 2 .none = rawInt g ∧ fs.getD 5 .none = .ref tup ∧
    ∃ o' xs n, h.get? tup = some o' ∧ o'.data = .seq xs n ∧ (xs.map reRawOf).map (·.toNat) = C

theorem reNamed_one {id f : String} {v : Value} : reNamed id f ["string", "pos", "endpos"] 1 [v] [] = pure [some v, none, none] := by rfl

theorem target {id f : String} {pat : Addr} {C : Array Nat} {g : Nat} {v : Value} {Q : ReTarget → Shared → Prop} {E : Value → Shared → Prop} (P : Pat s.heap pat C g) (hv : OctAt s.heap v b) (hz : b.size ≤ 1000)
    (h : Q { pattern := .ref pat, string := v, code := C, text := b.map (·.toNat), kind := 1, groups := g, pos := 0, lim := b.size } s) :
    wpAny (mdl prog₀ w) A (reTarget id f ⟨[.ref pat, v], []⟩) Q E s := by
  obtain ⟨o, fs, tup, ho, hc, hdn, hd, h6, h2, h5, o', xs, n, ho', hd', hC⟩ := P.obj
  unfold reTarget
  show wpAny _ A (reNamed id f ["string", "pos", "endpos"] 1 [v] [] >>= _) Q E s
  rw [reNamed_one]
  refine wpAny_bind (wpAny_pure ?_)
  refine wpAny_bind (wpAny_pure ?_)
  refine wpAny_bind (wpAny_pure ?_)
  refine wpAny_bind ?_
  unfold fieldsOf
  refine wpAny_bind (wpAny_load ho ?_)
  rw [hd]
  refine wpAny_pure ?_
  refine wpAny_bind (textOf hv ?_)
  rw [h6]
  refine wpAny_bind (noColl hv ?_)
  rw [h5]
  dsimp only
  unfold reRawItems
  refine wpAny_bind (wpAny_bind ?_)
  show wpAny _ A (load tup >>= _) _ _ s
  refine wpAny_bind (wpAny_load ho' ?_)
  rw [hd']
  refine wpAny_pure (wpAny_pure (wpAny_pure ?_))
  rw [h2]
  have k1 : Min.min (Int.toNat 0) (Array.map (fun x : UInt8 => x.toNat) b).size = 0 := by simp
  have k2 : Min.min (2 ^ 63 - 1 : Int).toNat (Array.map (fun x : UInt8 => x.toNat) b).size = b.size := by rw [Array.size_map]; omega
  rw [k1, k2]
  subst hC
  exact h
end
end Mine

end
section
open PySem PySem.W PySem.W.X PySem.Calls PyProof.Rows PySem.Builtin PySem.Builtin.Re
set_option maxRecDepth 100000
namespace Mine

section
variable {w : World} {A : Around} {s : Shared} {E : Value → Shared → Prop}

theorem callOwnA {T : String} {name : Str} {id : String} {B : Builtin} {self : Value} {rest : List Value} {Q : Value → Shared → Prop} (slot : Slot T name id) (hT : s.TypeIs self T)
    (entry : entryFor table id = some B) (args : argsOk id ⟨self :: rest, []⟩) (hne : isAsk (.builtin id ⟨self :: rest, []⟩) = false)
    (h : wpAny (mdl prog₀ w) A.in1 (B ⟨self :: rest, []⟩) (fun fin s' => ∃ v, fin = .done (.ret v) ∧ Q v s') E s) : wpAny (mdl prog₀ w) A (call (.builtin id) (self :: rest)) Q E s := by
  refine wpAny_call (codeAny_of_tree ?_)
  show wpAny _ A.in1 (do checkBuiltinCall id ⟨self :: rest, []⟩; again (.builtin id ⟨self :: rest, []⟩)) _ _ s
  refine wpAny_bind (slot.check _ _ _ _ _ _ _ _ hT args ?_)
  refine wpAny_pure (And.intro (plainId_quiet slot.plain _) (codeAny_of_tree ?_))
  rw [Around.under_plainId slot.plain, den_mdl entry hne]
  refine wpAny_mono h (fun fin s' hf => ?_) fun _ _ x => x
  obtain ⟨v, rfl, hq⟩ := hf
  exact hq

abbrev tupObj (vs : List Value) : Obj := { cls := .type "tuple", dict := none, data := .seq vs.toArray 0, slots := #[] }
abbrev matObj (str : Value) (pat : Addr) (lim : Nat) (li : Int) (tup : Addr) : Obj := { cls := .type "re.Match", dict := none, data := .fields #[str, .ref pat, rawInt 0, rawInt lim, rawInt li, .ref tup], slots := #[] }

theorem newMatch {pat : Addr} {v : Value} {g lim : Nat} {m : Sre.M} {Q : Value → Shared → Prop} (sp : List Value)
    (hsp : ((List.range g).flatMap fun g => match if ((2 * g + 1 : Nat) : Int) ≤ m.lastmark then (m.marks.getD (2 * g) none, m.marks.getD (2 * g + 1) none) else (none, none) with
      | (some b, some e) => [rawInt b, rawInt e]
      | _ => [rawInt (-1), rawInt (-1)]) = sp)
    (hok : (List.range g).any (fun g => match m.marks.getD (2 * g) none, m.marks.getD (2 * g + 1) none with | some b, some e => decide (((2 * g + 1 : Nat) : Int) ≤ m.lastmark) && decide (e < b) | _, _ => false) = false)
    (hz : sp.length ≤ 100)
    (h : Q (.ref (s.heap.objs.size + 1)) { s with heap := (s.heap.push (tupObj (rawInt m.start :: rawInt m.handed :: sp))).push (matObj v pat lim m.lastindex s.heap.objs.size) }) :
    wpAny (mdl prog₀ w) A (reNewMatch (.ref pat) v g 0 lim m) Q E s := by
  subst hsp
  unfold reNewMatch
  dsimp only
  split
  · rename_i hc
    exact absurd (hok.symm.trans hc) Bool.false_ne_true
  unfold newFields newTuple
  refine wpAny_bind (wpAny_newObj_type ?_ (by
    refine Nat.le_trans (m := 102) ?_ (by rw [sizeLine_eq]; decide)
    show (rawInt m.start :: rawInt m.handed :: _).toArray.size ≤ 102
    rw [List.size_toArray, List.length_cons, List.length_cons]
    exact Nat.succ_le_succ (Nat.succ_le_succ hz)))
  refine wpAny_newObj_type ?_ (by size_fits)
  have e : (s.heap.push (tupObj (rawInt m.start :: rawInt m.handed :: (List.range g).flatMap fun g => match if ((2 * g + 1 : Nat) : Int) ≤ m.lastmark then (m.marks.getD (2 * g) none, m.marks.getD (2 * g + 1) none) else (none, none) with
      | (some b, some e) => [rawInt b, rawInt e]
      | _ => [rawInt (-1), rawInt (-1)]))).objs.size = s.heap.objs.size + 1 := by simp [Heap.push]
  rw [← e] at h
  exact h

theorem octText {b : Array UInt8} (hz : b.size ≤ 1000) : Rx.Txt (b.map (·.toNat)) := ⟨fun p => by
  rw [Array.getD_eq_getD_getElem?, Array.getElem?_map]
  cases b[p]? with
  | none => decide
  | some x => exact x.toNat_lt, by rw [Array.size_map]; exact hz⟩

theorem foldMatch {v : Value} {b : Array UInt8} {Q : Value → Shared → Prop} (P : Pat s.heap 98 foldC 0) (hv : OctAt s.heap v b) (hz : b.size ≤ 1000)
    (h0 : Rx.lead (b.map (·.toNat)) = 0 → Q .none s)
    (h1 : 0 < Rx.lead (b.map (·.toNat)) → ∀ li, Q (.ref (s.heap.objs.size + 1)) { s with heap := (s.heap.push (tupObj [rawInt 0, rawInt (Rx.lead (b.map (·.toNat)))])).push (matObj v 98 b.size li s.heap.objs.size) }) :
    wpAny (mdl prog₀ w) A (call (.builtin "re.Pattern.match") [.ref 98, v]) Q E s := by
  obtain ⟨o, fs, tup, ho, hc, hrest⟩ := P.obj
  refine callOwnA slot_re_Pattern_match ⟨o, ho, hc⟩ entry_re_Pattern_match (by unfold argsOk; kernel_rfl) rfl ?_
  show wpAny _ _ (reTarget "re.Pattern.match" "match" ⟨[.ref 98, v], []⟩ >>= _) _ _ s
  refine wpAny_bind (target P hv hz ?_)
  unfold reAnswer
  obtain ⟨k, hk, hr⟩ := Rx.foldRun (octText hz)
  have esz : (b.map (·.toNat)).size = b.size := Array.size_map ..
  rw [esz] at hr
  refine wpAny_bind ?_
  rcases hr with ⟨hl, hf⟩ | ⟨hl, hf⟩
  · exact toEnd hk (.inr ⟨hf, wpAny_pure ⟨_, rfl, h0 hl⟩⟩)
  · refine toEnd hk (.inl ⟨hf.out, ?_⟩)
    refine wpAny_bind (newMatch [] rfl rfl (by decide) ?_)
    rw [hf.start, hf.handed]
    exact wpAny_pure ⟨_, rfl, h1 hl _⟩

theorem hdr_or (t : Array Nat) : Rx.NoHdr t ∨ (1 ≤ Rx.span Rx.isTok t t.size 0 ∧ Rx.span Rx.isTok t t.size 0 < t.size ∧ t.getD (Rx.span Rx.isTok t t.size 0) 0 = 58 ∧
    ∀ j, Rx.span Rx.isTok t t.size 0 < j → j < t.size → Rx.isBlank (t.getD j 0) = true ∨ Rx.isV (t.getD j 0) = true) := by
  by_cases h1 : Rx.span Rx.isTok t t.size 0 = 0
  · exact .inl (.inl h1)
  by_cases h2 : Rx.span Rx.isTok t t.size 0 ≥ t.size
  · exact .inl (.inr (.inl h2))
  by_cases h3 : t.getD (Rx.span Rx.isTok t t.size 0) 0 = 58
  · by_cases h4 : ∃ b, Rx.span Rx.isTok t t.size 0 < b ∧ b < t.size ∧ Rx.isBlank (t.getD b 0) = false ∧ Rx.isV (t.getD b 0) = false
    · exact .inl (.inr (.inr (.inr h4)))
    · refine .inr ⟨by omega, by omega, h3, fun j hj hj' => ?_⟩
      cases hb : Rx.isBlank (t.getD j 0) with
      | true => exact .inl rfl
      | false =>
        cases hv : Rx.isV (t.getD j 0) with
        | true => exact .inr rfl
        | false => exact absurd ⟨j, hj, hj', hb, hv⟩ h4
  · exact .inl (.inr (.inr (.inl h3)))

theorem hdrMatch {v : Value} {b : Array UInt8} {Q : Value → Shared → Prop} (P : Pat s.heap 93 hdrC 3) (hv : OctAt s.heap v b) (hz : b.size ≤ 1000)
    (h0 : Rx.NoHdr (b.map (·.toNat)) → Q .none s)
    (h1 : ∀ n st e, Rx.Hdr (b.map (·.toNat)) n st e → ∀ li hd x y, Q (.ref (s.heap.objs.size + 1))
      { s with heap := (s.heap.push (tupObj [rawInt 0, rawInt (hd : Nat), rawInt (0 : Nat), rawInt n, rawInt st, rawInt e, rawInt x, rawInt y])).push (matObj v 93 b.size li s.heap.objs.size) }) :
    wpAny (mdl prog₀ w) A (call (.builtin "re.Pattern.fullmatch") [.ref 93, v]) Q E s := by
  obtain ⟨o, fs, tup, ho, hc, hrest⟩ := P.obj
  refine callOwnA slot_re_Pattern_fullmatch ⟨o, ho, hc⟩ entry_re_Pattern_fullmatch (by unfold argsOk; kernel_rfl) rfl ?_
  show wpAny _ _ (reTarget "re.Pattern.fullmatch" "fullmatch" ⟨[.ref 93, v], []⟩ >>= _) _ _ s
  refine wpAny_bind (target P hv hz ?_)
  unfold reAnswer
  have esz : (b.map (·.toNat)).size = b.size := Array.size_map ..
  refine wpAny_bind ?_
  rcases hdr_or (b.map (·.toNat)) with hN | ⟨g1, g2, g3, g4⟩
  · obtain ⟨k, hk, hf⟩ := Rx.hdrNo (octText hz) hN
    rw [esz] at hf
    exact toEnd hk (.inr ⟨hf, wpAny_pure ⟨_, rfl, h0 hN⟩⟩)
  · obtain ⟨st, e, H, k, hk, ms, lm, hf, m0, m1, m2, m3, hlm⟩ := Rx.hdrYes (octText hz) rfl g1 g2 g3 g4
    rw [esz] at hf
    refine toEnd hk (.inl ⟨hf.out, ?_⟩)
    have hse := H.se
    rw [Array.getD_eq_getD_getElem?] at m0 m1 m2 m3
    have hlm' : lm = 3 ∨ (lm = 5 ∧ ms[4]?.getD none = some st ∧ ms[5]?.getD none = some e) := hlm.imp id fun ⟨p, q, r⟩ => ⟨p, by rw [← Array.getD_eq_getD_getElem?]; exact q, by rw [← Array.getD_eq_getD_getElem?]; exact r⟩
    refine wpAny_bind (newMatch [rawInt (0 : Nat), rawInt (Rx.span Rx.isTok (b.map (·.toNat)) (b.map (·.toNat)).size 0 : Nat), rawInt st, rawInt e, rawInt (if lm = 5 then (st : Int) else -1), rawInt (if lm = 5 then (e : Int) else -1)] ?_ ?_ (by show 6 ≤ 100; decide) ?_)
    · rw [hf.ms, hf.lm]
      show List.flatMap _ [0, 1, 2] = _
      rcases hlm' with rfl | ⟨rfl, m4, m5⟩
      · simp [m0, m1, m2, m3]
      · simp [m0, m1, m2, m3, m4, m5]
    · rw [hf.ms, hf.lm]
      show List.any [0, 1, 2] _ = _
      rcases hlm' with rfl | ⟨rfl, m4, m5⟩
      · simp [m0, m1, m2, m3, hse]
        cases ms[4]?.getD none <;> cases ms[5]?.getD none <;> simp
      · simp [m0, m1, m2, m3, m4, m5, hse]
    · rw [hf.start]
      exact wpAny_pure ⟨_, rfl, h1 _ _ _ H _ _ _ _⟩
end
end Mine

end
section
open PySem PySem.W PySem.W.X PySem.Calls PyProof.Rows PySem.Builtin PySem.Builtin.Re
set_option maxRecDepth 100000
namespace Mine

noncomputable def objAt (P : Params) (a : Addr) : Obj := ((Mine.hd.heap_39 P).lookup a).getD { cls := .none, data := .plain }
def fieldsIn : Obj → Array Value
  | ⟨_, _, .fields vs, _⟩ => vs
  | _ => #[]
def seqIn : Obj → Array Value
  | ⟨_, _, .seq vs _, _⟩ => vs
  | _ => #[]

theorem k98 (P : Params) : (Mine.hd.heap_39 P).lookup 98 = some (objAt P 98) := by kernel_rfl
theorem k97 (P : Params) : (Mine.hd.heap_39 P).lookup 97 = some (objAt P 97) := by kernel_rfl
theorem k93 (P : Params) : (Mine.hd.heap_39 P).lookup 93 = some (objAt P 93) := by kernel_rfl
theorem k92 (P : Params) : (Mine.hd.heap_39 P).lookup 92 = some (objAt P 92) := by kernel_rfl

theorem pat98 {w : World} {h : Heap} (X : (Mine.hd.heap_39 w.params).In h) : Pat h 98 foldC 0 :=
  ⟨objAt w.params 98, fieldsIn (objAt w.params 98), 97, X _ _ (k98 _), by kernel_rfl, by kernel_rfl, by kernel_rfl, by kernel_rfl, by kernel_rfl, by kernel_rfl,
    objAt w.params 97, seqIn (objAt w.params 97), 0, X _ _ (k97 _), by kernel_rfl, by kernel_rfl⟩
theorem pat93 {w : World} {h : Heap} (X : (Mine.hd.heap_39 w.params).In h) : Pat h 93 hdrC 3 :=
  ⟨objAt w.params 93, fieldsIn (objAt w.params 93), 92, X _ _ (k93 _), by kernel_rfl, by kernel_rfl, by kernel_rfl, by kernel_rfl, by kernel_rfl, by kernel_rfl,
    objAt w.params 92, seqIn (objAt w.params 92), 0, X _ _ (k92 _), by kernel_rfl, by kernel_rfl⟩
end Mine

end
section
open PySem PySem.W PySem.W.X PySem.Calls PyProof.Rows PySem.Builtin PySem.Builtin.Re
set_option maxRecDepth 100000
namespace Mine

section
variable {M : Model} {A : Around} {E : Value → Shared → Prop} {s : Shared} {a : Addr} {b c : Array UInt8} {v : Value}

theorem bufRef {id : String} {full : Bool} {Q : Option (Array UInt8) → Shared → Prop} (ha : s.heap.get? a = some (baObj b)) (h : Q (some b) s) : wpAny M A (Bytes.buffer? id (.ref a) full) Q E s := by
  unfold Bytes.buffer?
  refine wpAny_bind (wpAny_specialOf (baType ha) ba_buffer ?_)
  refine wpAny_bind (ownSlot_ba ha ba_buffer (by decide +kernel) (by decide +kernel) ?_)
  show wpAny M A (specialOf (.ref a) _ >>= _) _ _ s
  refine wpAny_bind (wpAny_specialOf (baType ha) ba_buffer ?_)
  show wpAny M A (Bytes.ownRelease (.ref a) >>= _) _ _ s
  unfold Bytes.ownRelease
  refine wpAny_bind (wpAny_bind (ownSlot_ba ha ba_release (by decide +kernel) (by decide +kernel) (wpAny_pure ?_)))
  show wpAny M A (Bytes.payload (.ref a) >>= _) _ _ s
  unfold Bytes.payload Bytes.payload?
  refine wpAny_bind (wpAny_bind ?_)
  show wpAny M A (load a >>= _) _ _ s
  exact wpAny_bind (wpAny_load ha (wpAny_pure (wpAny_pure (wpAny_pure h))))

theorem bufBytes {id : String} {full : Bool} {t : Tok} {Q : Option (Array UInt8) → Shared → Prop} (h : Q (some b) s) : wpAny M A (Bytes.buffer? id (.bytes b t) full) Q E s := by
  unfold Bytes.buffer?
  rw [KBy.special_eq KBy.look_buffer, KBy.own_buffer, KBy.own_release]
  exact h |> fun h => by
    refine wpAny_bind (wpAny_pure ?_)
    refine wpAny_bind (wpAny_pure ?_)
    refine wpAny_bind (wpAny_pure ?_)
    refine wpAny_bind (wpAny_pure ?_)
    exact wpAny_pure h

theorem buf {id : String} {full : Bool} {Q : Option (Array UInt8) → Shared → Prop} (hv : OctAt s.heap v b) (h : Q (some b) s) : wpAny M A (Bytes.buffer? id v full) Q E s := by
  rcases hv with ⟨t, rfl⟩ | ⟨a, rfl, ha⟩
  · exact bufBytes h
  · exact bufRef ha h

theorem takeBuf {id : String} {Q : Option (Array UInt8 × Option Value) → Shared → Prop} (hv : OctAt s.heap v b) (h : Q (some (b, none)) s) : wpAny M A (Bytes.takeBufferQuiet? id v 0) Q E s := by
  unfold Bytes.takeBufferQuiet? Bytes.takeBuffer?
  refine wpAny_bind (wpAny_attempt ?_)
  have hv' := hv
  rcases hv with ⟨t, rfl⟩ | ⟨a, rfl, ha⟩
  · rw [KBy.special_eq KBy.look_buffer, KBy.own_buffer]
    refine wpAny_bind (wpAny_pure ?_)
    refine wpAny_bind (wpAny_pure ?_)
    refine wpAny_bind (wpAny_pure ?_)
    exact wpAny_bind (buf hv' (wpAny_pure (wpAny_pure h)))
  · refine wpAny_bind (wpAny_specialOf (baType ha) ba_buffer ?_)
    refine wpAny_bind (ownSlot_ba ha ba_buffer (by decide +kernel) (by decide +kernel) ?_)
    show wpAny M A (specialOf (.ref a) _ >>= _) _ _ s
    refine wpAny_bind (wpAny_specialOf (baType ha) ba_buffer ?_)
    exact wpAny_bind (buf hv' (wpAny_pure (wpAny_pure h)))

theorem payRef {Q : Array UInt8 → Shared → Prop} (ha : s.heap.get? a = some (baObj b)) (h : Q b s) : wpAny M A (Bytes.payload (.ref a)) Q E s := by
  unfold Bytes.payload Bytes.payload?
  refine wpAny_bind ?_
  show wpAny M A (load a >>= _) _ _ s
  exact wpAny_bind (wpAny_load ha (wpAny_pure (wpAny_pure h)))

theorem writeRef {f : Array UInt8 → Array UInt8} {Q : Unit → Shared → Prop} (ha : s.heap.get? a = some (baObj b)) (hz : (f b).size ≤ 16777216)
    (h : ∀ h', h'.get? a = some (baObj (f b)) → Heap.SameBut a s.heap h' → Q () { s with heap := h' }) : wpAny M A (Bytes.write (.ref a) f) Q E s := by
  unfold Bytes.write
  show wpAny M A (updateBytearray a f) Q E s
  unfold updateBytearray
  refine wpAny_bind (wpAny_load ha ?_)
  show wpAny M A (update a (Obj.mapBytearray f) >>= fun _ => lookBehind a) Q E s
  refine wpAny_bind (wpAny_update ha ?_)
  have hS₂ : (s.heap.update a (Obj.mapBytearray f)).get? a = some (baObj (f b)) := Heap.get?_update_self (Obj.mapBytearray f) ha rfl
  refine wpAny_lookBehind hS₂ ?_ (h _ hS₂ (Heap.SameBut.update ..))
  show (if (f b).size > sizeLine then some "bytearray:memory" else none) = none
  rw [if_neg]
  rw [sizeLine_eq]
  omega

theorem gHeld {Q : Bool → Shared → Prop} (hg : A.guards = some []) (ha : s.heap.get? a = some (baObj b)) (h : Q false s) : wpG M A (Bytes.exported (.ref a) <||> (do return decide ((← Bytes.exportsOf (.ref a)) > 0))) Q E s := by
  unfold orM
  refine gBind (gExported hg ?_)
  show wpG M A (Bytes.exportsOf (.ref a) >>= _) Q E s
  refine toG (wpAny_bind ?_)
  unfold Bytes.exportsOf
  refine wpAny_bind (wpAny_load ha ?_)
  exact wpAny_pure (wpAny_pure h)

/-- nobody holds it: it may grow -/
theorem gResize {Q : Unit → Shared → Prop} (hg : A.guards = some []) (ha : s.heap.get? a = some (baObj b)) (h : Q () s) : wpG M A (Bytes.checkResize (.ref a)) Q E s := by
  unfold Bytes.checkResize
  refine gBind (gHeld hg ha ?_)
  exact gPure h
end

theorem ba_iadd : typeLookup (.type "bytearray") (dunderI "add") = pure (some (.builtin "bytearray.__iadd__")) := by rw [typeLookup_type, builtinLookup_eq_fast]; kernel_rfl
theorem ba_add : typeLookup (.type "bytearray") (dunder "add") = pure (some (.builtin "bytearray.__add__")) := by rw [typeLookup_type, builtinLookup_eq_fast]; kernel_rfl
theorem ba_radd : typeLookup (.type "bytearray") (dunderR "add") = pure none := by rw [typeLookup_type, builtinLookup_eq_fast]; kernel_rfl
theorem ba_noFill : fillsNumberSlot (.type "bytearray") "add" = pure false := PySem.fillsNumberSlot_seq (id := "bytearray.__add__") (r := none) ba_add (by decide +kernel) ba_radd rfl
theorem ba_seq : seqSlot? (.type "bytearray") (dunderI "add") = pure (some (.builtin "bytearray.__iadd__")) := PySem.seqSlot_of ba_iadd (by decide +kernel)
theorem ba_noIn : fillsInplaceSlot (.type "bytearray") "add" true = pure false := by
  simp only [fillsInplaceSlot, ba_iadd, pure_bind]
  rfl
theorem slot_ba_iadd : Slot "bytearray" "__iadd__" "bytearray.__iadd__" :=
  .of (owner := "bytearray") (n := "__iadd__") (by rw [typeLookup_type, builtinLookup_eq_fast]; kernel_rfl) (by decide +kernel) (by decide +kernel) (by decide +kernel)
    (by first | exact .inl (by decide +kernel) | exact .inr (by decide +kernel)) (by rw [isSubtype_type]; kernel_rfl)
theorem entry_ba_iadd : entryFor table "bytearray.__iadd__" = some Builtin.«bytearray.__iadd__» := entryFor_of_tree (by kernel_rfl)

section
variable {w : World} {A : Around} {E : Value → Shared → Prop} {s : Shared} {a : Addr} {b c : Array UInt8} {v : Value}
/-- the call of a built-in, in G -/
theorem gCallOwn {T : String} {name : Str} {id : String} {B : Builtin} {self : Value} {rest : List Value} {Q : Value → Shared → Prop} (slot : Slot T name id) (hT : s.TypeIs self T)
    (entry : entryFor table id = some B) (args : argsOk id ⟨self :: rest, []⟩) (hne : isAsk (.builtin id ⟨self :: rest, []⟩) = false) (hd : Builtin.Bytes.decodersThatHold.contains id = false)
    (h : wpG (mdl prog₀ w) A.in1 (B ⟨self :: rest, []⟩) (fun fin s' => ∃ v, fin = .done (.ret v) ∧ Q v s') E s) : wpG (mdl prog₀ w) A (call (.builtin id) (self :: rest)) Q E s := by
  refine gCall (codeG_tree rfl ?_)
  show wpG _ A.in1 (do checkBuiltinCall id ⟨self :: rest, []⟩; again (.builtin id ⟨self :: rest, []⟩)) _ _ s
  refine gThen (slot.check _ _ _ _ _ _ _ _ hT args ?_)
  refine gPure (And.intro (plainId_quiet slot.plain _) (codeG_tree hd ?_))
  rw [Around.under_plainId slot.plain, den_mdl entry hne]
  refine gMono h (fun fin s' hf => ?_) fun _ _ x => x
  obtain ⟨v, rfl, hq⟩ := hf
  exact hq

theorem octNe (hv : OctAt s.heap v c) (hne : v ≠ .ref a) : Bytes.sameRef (.ref a) v = false := by
  rcases hv with ⟨t, rfl⟩ | ⟨a', rfl, _⟩
  · rfl
  · show (a == a') = false
    exact beq_false_of_ne fun e => hne (by rw [e])

theorem octType (hv : OctAt s.heap v c) : ∃ T, s.TypeIs v T ∧ fillsNumberSlot (.type T) "add" = pure false := by
  rcases hv with ⟨t, rfl⟩ | ⟨a', rfl, ha⟩
  · exact ⟨"bytes", typeIs_bytes s c t, KBy.noFill_bytes_add⟩
  · exact ⟨"bytearray", baType ha, ba_noFill⟩

theorem gIadd {Q : Value → Shared → Prop} (hg : A.guards = some []) (ha : s.heap.get? a = some (baObj b)) (hv : OctAt s.heap v c) (hne : v ≠ .ref a) (hz : b.size + c.size ≤ 1000)
    (h : ∀ h', h'.get? a = some (baObj (b ++ c)) → Heap.SameBut a s.heap h' → Q (.ref a) { s with heap := h' }) : wpG (mdl prog₀ w) A (inplaceOp .Add (.ref a) v) Q E s := by
  unfold inplaceOp
  refine gHolding ?_
  refine gThen (wpAny_typeOf (baType ha) ?_)
  refine gBind (gOfEq ba_noIn ?_)
  refine gBind (m := binaryOp1 "add" (.ref a) v) ?_
  have key : ∀ {R : Option Value → Shared → Prop} {F : Value → Shared → Prop}, R none s → wpAny (mdl prog₀ w) A (binaryOp1 "add" (.ref a) v) R F s := by
    intro R F hR
    rcases hv with ⟨t, rfl⟩ | ⟨a', rfl, ha'⟩
    · simp only [binaryOp1]
      refine wpAny_bind (wpAny_typeOf (baType ha) (wpAny_bind (wpAny_typeOf (typeIs_bytes s c t) (wpAny_bind (wpAny_of_eq ba_noFill ?_)))))
      rw [if_neg (show ¬ ((Value.type "bytearray" == Value.type "bytes") = true) from by decide +kernel)]
      refine wpAny_bind (wpAny_of_eq KBy.noFill_bytes_add ?_)
      simp only [Bool.false_and, Bool.false_eq_true, if_false, pure_bind]
      exact wpAny_pure hR
    · exact wpAny_binaryOp1_none (baType ha) (baType ha') ba_noFill hR
  refine toG (key ?_)
  refine gBind (gOfEq ba_seq ?_)
  refine gBind (gRule ?_)
  refine gCallOwn (rest := [v]) slot_ba_iadd (baType ha) entry_ba_iadd (by unfold argsOk; kernel_rfl) rfl (by decide +kernel) ?_
  show wpG _ _ (Bytes.takeBufferQuiet? "bytearray.__iadd__" v 0 >>= _) _ _ s
  refine gThen (takeBuf hv ?_)
  have fin : wpG (mdl prog₀ w) A.in1 (do
      if Bytes.tooLong ((← Bytes.payload (.ref a)).size + c.size) then unsupported "bytearray.__iadd__:memory"
      Bytes.write (.ref a) (· ++ c)
      ret (.ref a)) (fun fin s' => ∃ v, fin = .done (.ret v) ∧ Q v s') E s := by
    refine gThen (payRef ha ?_)
    rw [KBy.tooLong_not (by omega), if_neg Bool.false_ne_true]
    refine gThen (writeRef ha (by rw [Array.size_append]; omega) fun h' h1 h2 => ?_)
    exact gPure ⟨_, rfl, h h' h1 h2⟩
  show wpG _ _ (Bytes.thenGiveBack none _) _ _ s
  unfold Bytes.thenGiveBack
  show wpG _ _ (if (!c.isEmpty) = true then _ else _) _ _ s
  split
  · show wpG _ _ (if Bytes.sameRef (.ref a) v = true then _ else _) _ _ s
    rw [octNe hv hne, if_neg Bool.false_ne_true]
    exact gBind (gResize hg ha fin)
  · exact fin
end
end Mine

end
section
open PySem PySem.W PySem.W.X PySem.Calls PyProof.Rows PySem.Builtin PySem.Builtin.Re
set_option maxRecDepth 100000
namespace Mine

/-- room: what the walk's surroundings always have -/
structure Rm (A : Around) (fl : List Env) : Prop where
  hd : A.handled = none
  depth : A.depth ≤ 900
  frames : A.frames = some fl
  guards : A.guards = some []
  units : A.units ≤ 9000

abbrev A₉ (fl : List Env) : Around := { handled := none, depth := 900, frames := some fl, guards := none, units := 9001 }
theorem Rm.in1 {A : Around} {fl : List Env} (r : Rm A fl) {α : Type} {M : Model} {t : Sem α} {Q : α → Shared → Prop} {E : Value → Shared → Prop} {s : Shared} (h : wpAny M (A₉ fl) t Q E s) : wpAny M A.in1 t Q E s :=
  fun Γ p hΓ => h Γ p ⟨hΓ.1.trans r.hd, Nat.le_trans hΓ.2.1 r.depth, fun l hl => hΓ.2.2.1 l (by show A.frames = some l; rw [r.frames]; exact hl), (fun g hg => by cases hg), Nat.le_trans hΓ.2.2.2.2 (Nat.succ_le_succ r.units)⟩
theorem Rm.any {A : Around} {fl : List Env} (r : Rm A fl) {α : Type} {M : Model} {t : Sem α} {Q : α → Shared → Prop} {E : Value → Shared → Prop} {s : Shared} (h : wpAny M (A₉ fl) t Q E s) : wpAny M A t Q E s :=
  fun Γ p hΓ => h Γ p ⟨hΓ.1.trans r.hd, Nat.le_trans hΓ.2.1 r.depth, fun l hl => hΓ.2.2.1 l (by rw [r.frames]; exact hl), (fun g hg => by cases hg), Nat.le_trans hΓ.2.2.2.2 (Nat.le_succ_of_le r.units)⟩

/-- room for k more floors -/
structure Rk (k : Nat) (A : Around) (fl : List Env) : Prop where
  hd : A.handled = none
  depth : A.depth + k ≤ 900
  frames : A.frames = some fl
  guards : A.guards = some []
  units : A.units + 50 * k ≤ 9000
theorem Rk.rm {k : Nat} {A : Around} {fl : List Env} (r : Rk k A fl) : Rm A fl := ⟨r.hd, by have := r.depth; omega, r.frames, r.guards, by have := r.units; omega⟩
theorem Rk.le {k j : Nat} {A : Around} {fl : List Env} (r : Rk k A fl) (h : j ≤ k) : Rk j A fl := ⟨r.hd, by have := r.depth; omega, r.frames, r.guards, by have := r.units; omega⟩
theorem Rk.deeper {k : Nat} {A : Around} {fl : List Env} (r : Rk (k + 1) A fl) (env : Env) : Rk k (A.deeper env) (env :: fl) :=
  ⟨r.hd, by have := r.depth; show A.depth + 1 + k ≤ 900; omega, by show A.frames.map _ = _; rw [r.frames]; rfl, r.guards, by have := r.units; show A.units + 3 + 50 * k ≤ 9000; omega⟩
theorem Rk.one {k : Nat} {A : Around} {fl : List Env} (r : Rk (k + 1) A fl) : Rk k A.in1 fl :=
  ⟨r.hd, by have := r.depth; show A.depth + k ≤ 900; omega, r.frames, r.guards, by have := r.units; show A.units + 1 + 50 * k ≤ 9000; omega⟩
theorem Rk.room {k : Nat} {A : Around} {fl : List Env} (r : Rk k A fl) : A.depth < recursionLimit := by have := r.depth; unfold recursionLimit; omega

/-- what x_run leaves: a heap with new objects -/
theorem memKeeps {h₀ h : Heap} {news : List (Addr × Obj)} (D : Mem h₀ h [] news) : ∀ b o, h₀.get? b = some o → h.get? b = some o := fun b o e => D.keep b o e (by rw [show away [] b = true from rfl, Bool.or_true])

theorem ba_mro : mroOf (.type "bytearray") = pure [.type "bytearray", .type "object"] := by rw [mroOf_type]; kernel_rfl
theorem ba_newLk : typeLookup (.type "bytearray") "__new__" = pure (some (.builtin "bytearray.__new__")) := by rw [typeLookup_type, builtinLookup_eq_fast]; kernel_rfl
theorem ba_made : Bind.madeBy (.type "bytearray") = pure (some "bytearray.__new__") := madeBy_type ba_mro ba_newLk (by decide +kernel)

local macro_rules | `(tactic| x_close) => `(tactic| (refine ⟨_, _, rfl, rfl, Mem.at (by assumption) 0 _ _ rfl, ?_, memKeeps (by assumption)⟩; exact (Mem.nw (by assumption) _ (.head _)).2))
set_option maxHeartbeats 4000000 in
theorem baNew₀ (w : World) (s : Shared) (fl : List Env) (b : Array UInt8) (t : Tok) :
    wpAny (model prog₀ w) (A₉ fl) (call (.builtin "bytearray.__new__") [.type "bytearray", .bytes b t])
      (fun v s' => ∃ a h', v = .ref a ∧ s' = { s with heap := h' } ∧ h'.get? a = some (baObj #[]) ∧ s.heap.get? a = none ∧ ∀ x o, s.heap.get? x = some o → h'.get? x = some o) (fun _ _ => False) s := by
  x_run

theorem slot_ba_init : Slot "bytearray" "__init__" "bytearray.__init__" :=
  .of (owner := "bytearray") (n := "__init__") (by rw [typeLookup_type, builtinLookup_eq_fast]; kernel_rfl) (by decide +kernel) (by decide +kernel) (by decide +kernel)
    (by first | exact .inl (by decide +kernel) | exact .inr (by decide +kernel)) (by rw [isSubtype_type]; kernel_rfl)
theorem entry_ba_init : entryFor table "bytearray.__init__" = some Builtin.«bytearray.__init__» := entryFor_of_tree (by kernel_rfl)
theorem bytes_noIndex : typeLookup (.type "bytes") "__index__" = pure none := by rw [typeLookup_type, builtinLookup_eq_fast]; kernel_rfl

section
variable {w : World} {A : Around} {E : Value → Shared → Prop} {s : Shared} {a : Addr} {b c : Array UInt8} {v : Value}
theorem gNewBa {fl : List Env} {t : Tok} {Q : Value → Shared → Prop} (r : Rm A fl) (hz : b.size ≤ 1000)
    (h : ∀ a h' k, h'.get? a = some (baObj b) → s.heap.get? a = none → (∀ x o, s.heap.get? x = some o → h'.get? x = some o) → Q (.ref a) { s with heap := h', toks := k }) :
    wpG (mdl prog₀ w) A (call (.type "bytearray") [.bytes b t]) Q E s := by
  refine gCall (codeG_tree rfl ?_)
  show wpG _ A.in1 (callAny (.type "bytearray") ⟨[.bytes b t], []⟩) _ _ s
  refine gPure ⟨Code.quiet_builtin _ (by decide +kernel), codeG_tree (show Builtin.Bytes.decodersThatHold.contains "type.__call__" = false by decide +kernel) ?_⟩
  rw [Around.under_plain (weight_type_call_type "bytearray" [.bytes b t] []) rfl, den_mdl F.entry_type_call rfl]
  unfold Builtin.«type.__call__»
  simp only [List.isEmpty_nil, Bool.not_true]
  rw [if_neg (show ¬ ((Value.type "bytearray" == Value.type "type") = true) from by decide +kernel)]
  rw [if_neg (by decide +kernel)]
  refine gBind (gOfEq (a := ()) (by kernel_rfl) ?_)
  refine gBind (gOfEq ba_mro ?_)
  refine gBind (gOfEq ba_made ?_)
  refine gBind (gPure ?_)
  refine gBind (gHolding (toG (lift (r.in1 (wpAny_mono (baNew₀ w s fl b t) ?_ fun _ _ x => x.elim)))))
  rintro v s' ⟨a, h', rfl, rfl, ha, hn, hk⟩
  refine gThen (wpAny_isInstance (baType ha) ba_sub ?_)
  rw [if_neg (by decide)]
  refine gBind (gHolding (gCallSpecial (T := "bytearray") (baType ha) slot_ba_init ?_))
  refine gCallOwn (rest := [.bytes b t]) slot_ba_init (baType ha) entry_ba_init (by unfold argsOk; kernel_rfl) rfl (by decide +kernel) ?_
  unfold Builtin.«bytearray.__init__» Bytes.ownRelease
  show wpG _ _ ((do return !(← Bytes.slotIsOwn (.ref a) "__release_buffer__")) >>= _) _ _ _
  refine gThen (wpAny_bind (ownSlot_ba ha ba_release (by decide +kernel) (by decide +kernel) (wpAny_pure ?_)))
  refine gBind (gOfEq (a := [some (.bytes b t), none, none]) (by rfl) ?_)
  refine gBind (gPure ?_)
  refine gBind (gPure ?_)
  refine gBind (gHeld r.guards ha ?_)
  rw [if_neg (by decide)]
  refine gThen (writeRef ha (by show 0 ≤ _; omega) fun h₂ ha₂ hs₂ => ?_)
  refine gBind (gOfEq (a := none) (by rfl) ?_)
  refine gBind (gPure ?_)
  refine gBind (gOfEq (a := none) (KBy.special_eq bytes_noIndex) ?_)
  refine gThen (bufBytes ?_)
  refine gBind (gRule ?_)
  refine gThen (writeRef ha₂ (by show b.size ≤ _; omega) fun h₃ ha₃ hs₃ => ?_)
  refine gPure ⟨_, rfl, ?_⟩
  refine gPure ?_
  refine h a h₃ _ ha₃ hn fun x o e => ?_
  have hx : x ≠ a := fun q => by rw [q, hn] at e; cases e
  exact hs₃.extBut x o hx (hs₂.extBut x o hx (hk x o e))
end
end Mine

end
section
open PySem PySem.W PySem.W.X PySem.Calls PyProof.Rows PySem.Builtin PySem.Builtin.ObjectAttr
set_option maxRecDepth 100000
namespace Mine

/-- the instance of LocalProtocolError as it is made -/
abbrev exc₀ (dd : Option Addr) (tup : Addr) : Obj := { cls := .ref 78, dict := dd, data := .fields #[.ref tup, .none, .none, .none, .bool false, .none], slots := #[] }

abbrev PK (w : World) {α : Type} (t : Sem α) (r : α) : Prop := peek (Mine.hd.heap_39 w.params) ⟨prog₀, w.params⟩ t = some r
theorem pkLooks {w : World} {α : Type} {t : Sem α} {r : α} {h : Heap} (X : (Mine.hd.heap_39 w.params).In h) (e : PK w t r) : Looks (model prog₀ w) h t r := Looks.of_peek X e

theorem k78 (P : Params) : (Mine.hd.heap_39 P).lookup 78 = some (objAt P 78) := by kernel_rfl
theorem pk_setattr (w : World) : PK w (typeLookup (.ref 78) (Str.ofString "__setattr__")) (some (.builtin "object.__setattr__")) := by kernel_rfl
theorem pk_mro (w : World) : PK w (mroOf (.ref 78)) [.ref 78, .ref 58, .type "Exception", .type "BaseException", .type "object"] := by kernel_rfl
theorem pk_sub (w : World) : PK w (isSubtype (.ref 78) (.type "object")) true := by kernel_rfl
theorem pk_hint (w : World) : PK w (typeLookup (.ref 78) (Str.ofString "error_status_hint")) none := by kernel_rfl
theorem refuse78 (self : Value) : refuseLoop self "__setattr__" [.ref 78, .ref 58, .type "Exception", .type "BaseException", .type "object"] = pure () := by
  rw [refuseLoop_ref, refuseLoop_ref]; exact PySem.F.store_Exception.passes self

def clsDataOf : Obj → ClassData
  | ⟨_, _, .cls cd, _⟩ => cd
  | _ => default
noncomputable def cd78 (P : Params) : ClassData := clsDataOf (objAt P 78)
theorem cd78_data (P : Params) : (objAt P 78).data = .cls (cd78 P) := by kernel_rfl
theorem cd78_has (P : Params) : (cd78 P).hasDict = true := by kernel_rfl

section
variable {w : World} {A : Around} {E : Value → Shared → Prop} {s : Shared} {e tup : Addr}
theorem excType (he : s.heap.get? e = some (exc₀ none tup)) {Q : Value → Shared → Prop} (h : Q (.ref 78) s) : wpAny (model prog₀ w) A (typeOf (.ref e)) Q E s := typeRef he h

/-- self.error_status_hint = v, the first store -/
theorem storeHint {v : Value} {Q : Unit → Shared → Prop} (X : (Mine.hd.heap_39 w.params).In s.heap) (he : s.heap.get? e = some (exc₀ none tup))
    (h : ∀ h' tk d, h'.get? e = some (exc₀ (some d) tup) → s.heap.get? d = none → h'.Ns d (fun y => if y = Str.ofString "error_status_hint" then some v else none) →
      (∀ b o, b ≠ e → s.heap.get? b = some o → h'.get? b = some o) → Q () { s with heap := h', toks := tk }) :
    wpAny (model prog₀ w) A (setAttr (.ref e) (Str.ofString "error_status_hint") v) Q E s := by
  have keep : ∀ {α : Type} {t : Sem α} {r : α} {B : Around} {Q : α → Shared → Prop} {E : Value → Shared → Prop} {s' : Shared}, s'.heap = s.heap → PK w t r → Q r s' → wpAny (model prog₀ w) B t Q E s' :=
    fun hs pk hQ => (pkLooks X pk) _ _ _ _ (fun b o x => by rw [hs]; exact x) hQ
  unfold setAttr
  refine wpAny_bind (wpAny_mkText ?_)
  generalize hs₁ : ({ s with toks := s.toks + 1 } : Shared) = s₁
  have hh : s₁.heap = s.heap := by rw [← hs₁]
  have he₁ : s₁.heap.get? e = some (exc₀ none tup) := by rw [hh]; exact he
  refine wpAny_bind ?_
  unfold callSpecial? specialOf
  refine wpAny_bind (wpAny_bind (excType he₁ (keep hh (pk_setattr w) ?_)))
  refine wpAny_holding ?_
  rw [PySem.F.store_Exception.slot.bind]
  refine wpAny_bind (wpAny_pure (wpAny_bind (wpAny_call ?_)))
  refine codeAny_call_builtin PySem.F.store_Exception.slot.plain PySem.F.entry_object_sa ?_
  -- the check
  have chk : ∀ {Q' : Unit → Shared → Prop} {E' : Value → Shared → Prop}, Q' () s₁ → wpAny (model prog₀ w) A.in1 (checkBuiltinCall "object.__setattr__" ⟨[.ref e, .str (Str.ofString "error_status_hint") s.toks, v], []⟩) Q' E' s₁ := by
    intro Q' E' hq
    have ha := PySem.F.store_Exception.args (.ref e) (.str (Str.ofString "error_status_hint") s.toks) v
    simp only [checkBuiltinCall, PySem.F.store_Exception.kind, PySem.F.store_Exception.split]
    unfold isInstance
    refine wpAny_bind (wpAny_bind (excType he₁ (keep hh (pk_sub w) ?_)))
    rw [if_neg (by decide)]
    cases hsig : Manifest.signature? "object.__setattr__" with
    | none => exact wpAny_pure hq
    | some sig =>
      simp only [argsOk, hsig] at ha
      have h2 : Bind.checkArgs "object.__setattr__" sig ⟨[.ref e, .str (Str.ofString "error_status_hint") s.toks, v], []⟩ = pure () := ha
      show wpAny _ A.in1 (Bind.checkArgs "object.__setattr__" sig ⟨[.ref e, .str (Str.ofString "error_status_hint") s.toks, v], []⟩) Q' E' s₁
      rw [h2]; exact wpAny_pure hq
  refine chk ?_
  show wpAny _ _ (Builtin.«object.__setattr__» ⟨[.ref e, .str (Str.ofString "error_status_hint") s.toks, v], []⟩) _ _ s₁
  rw [osa_eq, refuse_eq]
  refine wpAny_bind (wpAny_bind (excType he₁ (wpAny_bind (keep hh (pk_mro w) ?_))))
  rw [refuse78]
  refine wpAny_pure (wpAny_bind (excType he₁ (wpAny_bind (keep hh (pk_hint w) ?_))))
  refine wpAny_bind (wpAny_pure ?_)
  -- the store
  show wpAny _ _ (storeInOwnDict (.ref e) (.ref 78) _ _ v _) _ _ s₁
  unfold storeInOwnDict
  refine wpAny_bind (wpAny_pure ?_)
  have hC : s₁.heap.get? 78 = some (objAt w.params 78) := by rw [hh]; exact X _ _ (k78 _)
  have hx₁ : (s₁.heap.push { cls := .type "dict", data := .dict #[] }).get? e = some (exc₀ none tup) := Heap.get?_push_of_some _ he₁
  have hxs : e ≠ s₁.heap.objs.size := Nat.ne_of_lt (Heap.lt_size he₁)
  have hgd : ((s₁.heap.push { cls := .type "dict", data := .dict #[] }).update e fun o => { cls := o.cls, dict := some s₁.heap.objs.size, data := o.data, slots := o.slots }).get? s₁.heap.objs.size
      = some { cls := .type "dict", data := .dict #[] } :=
    (Heap.get?_update_other _ _ hxs).trans (Heap.get?_push_size _ rfl)
  have hge : ((s₁.heap.push { cls := .type "dict", data := .dict #[] }).update e fun o => { cls := o.cls, dict := some s₁.heap.objs.size, data := o.data, slots := o.slots }).get? e = some (exc₀ (some s₁.heap.objs.size) tup) :=
    Heap.get?_update_self _ hx₁ rfl
  have hnd : ((s₁.heap.push { cls := .type "dict", data := .dict #[] }).update e fun o => { cls := o.cls, dict := some s₁.heap.objs.size, data := o.data, slots := o.slots }).Ns s₁.heap.objs.size (fun _ => none) :=
    ⟨_, #[], _, hgd, rfl, fun e he => absurd he (by simp), fun _ => rfl⟩
  have last : wpAny (model prog₀ w) A.in1 (storeInDict s₁.heap.objs.size (.str (Str.ofString "error_status_hint") s.toks) (Str.ofString "error_status_hint") v)
      (fun fin s' => fin = .done (.ret .none) ∧ Q () s') (fun _ _ => False)
      { s₁ with heap := (s₁.heap.push { cls := .type "dict", data := .dict #[] }).update e fun o => { cls := o.cls, dict := some s₁.heap.objs.size, data := o.data, slots := o.slots } } := by
    unfold storeInDict newKeyGuard
    refine wpAny_bind (wpAny_pure (wpAny_bind (wpAny_nsSet1 (Heap.Ns1.of_empty hnd) fun h' hn' hs => ?_)))
    obtain ⟨oD, esD, epD, hoD, hdD, hcD⟩ := hn'.count (Within.cons (Str.ofString "error_status_hint") v Within.nil)
    refine wpAny_bind (wpAny_lookBehind hoD (by rw [hdD]; exact pastItsLine_dict (Nat.le_trans hcD (by rw [List.length_cons, List.length_nil, sizeLine_eq]; omega))) ?_)
    refine wpAny_pure ⟨rfl, ?_⟩
    subst hs₁
    refine h h' _ s.heap.objs.size ((hs.2 e hxs).trans hge) (Heap.get?_none_of_le (Nat.le_refl _)) hn'.ns fun b o hb hbo => ?_
    exact (hs.2 b (Nat.ne_of_lt (Heap.lt_size hbo))).trans ((Heap.get?_update_other _ _ (Ne.symm hb)).trans (Heap.get?_push_of_some _ hbo))
  refine wpAny_bind (m := instanceDict e true) ?_
  unfold instanceDict
  refine wpAny_bind (wpAny_loadPart he₁ ?_)
  refine wpAny_bind ?_
  unfold classData
  refine wpAny_bind (wpAny_load hC ?_)
  rw [cd78_data]
  refine wpAny_pure ?_
  rw [cd78_has]
  rw [if_neg (by decide)]
  show wpAny _ _ (if (!true || !typeHasDict (.ref 78)) = true then _ else _) _ _ s₁
  rw [if_neg (by decide)]
  show wpAny _ _ (alloc { cls := .type "dict", data := .dict #[] } >>= _) _ _ s₁
  refine wpAny_bind (wpAny_alloc ?_)
  refine wpAny_bind (wpAny_update hx₁ ?_)
  refine wpAny_pure ?_
  refine wpAny_mono last (fun fin s' hf => ?_) fun _ _ x => x.elim
  obtain ⟨rfl, hq⟩ := hf
  exact wpAny_pure (wpAny_pure hq)
end
end Mine

end
section
open PySem PySem.W PySem.W.X PySem.Calls PyProof.Rows PySem.Builtin PySem.Builtin.ObjectAttr
set_option maxRecDepth 100000
namespace Mine

def funOf : Obj → FuncData
  | ⟨_, _, .func fd, _⟩ => fd
  | _ => default
noncomputable def fd55 (P : Params) : FuncData := funOf (objAt P 55)
theorem k55 (P : Params) : (Mine.hd.heap_39 P).lookup 55 = some (objAt P 55) := by kernel_rfl
theorem fd55_data (P : Params) : (objAt P 55).data = .func (fd55 P) := by kernel_rfl
def bodyOf : FuncData → List Stmt := fun fd => match fd.body with | .stmts b => b | _ => []
noncomputable def body55 (P : Params) : List Stmt := bodyOf (fd55 P)
theorem fd55_body (P : Params) : (fd55 P).body = .stmts (body55 P) := by kernel_rfl
theorem fd55_co (P : Params) : (fd55 P).scope.isCoroutine = false := by kernel_rfl
theorem fd55_gen (P : Params) : (fd55 P).scope.isGenerator = false := by kernel_rfl
theorem fd55_kind (P : Params) : (fd55 P).scope.kind = .function := by kernel_rfl
theorem fd55_cellB (P : Params) : ((fd55 P).scope.names.all fun x => x.2 != .cell) = true := by kernel_rfl
theorem fd55_cell (P : Params) : ∀ x ∈ (fd55 P).scope.names, x.2 ≠ .cell := fun x hx => by
  have := List.all_eq_true.mp (fd55_cellB P) x hx
  simpa using this
theorem fd55_loc (P : Params) : ((fd55 P).scope.names.lookup (Str.ofString "self") = some .local ∧ (fd55 P).scope.names.lookup (Str.ofString "msg") = some .local) ∧ (fd55 P).scope.names.lookup (Str.ofString "error_status_hint") = some .local :=
  ⟨⟨by kernel_rfl, by kernel_rfl⟩, by kernel_rfl⟩
theorem fd55_len (P : Params) : (body55 P).length = 3 := by kernel_rfl
theorem pk_bind (w : World) (e : Addr) (m : Str) (t : Tok) : PK w (bindArgs (fd55 w.params) ⟨[.ref e, .str m t], []⟩) [(Str.ofString "self", .ref e), (Str.ofString "msg", .str m t), (Str.ofString "error_status_hint", .int 400 303)] := by kernel_rfl


def classBody : Stmt → List Stmt
  | .ClassDef _ _ _ b _ _ _ _ _ _ _ => b
  | _ => []
def initSt : Stmt := (classBody (topSt 3)).getD 0 (.Pass default)
def initBody : List Stmt := defBody initSt
def initScope : Scope := defScope initSt
abbrev envI (L : Addr) : Env := { scope := initScope, locals := L, globals := mainGlobals, cells := [(Str.ofString "__class__", 42)], qual := Str.ofString "ProtocolError.__init__.<locals>.", func := some 55, code := .ref 54, frame := some L, builtins := builtinsNs }
theorem body_eq (P : Params) : body55 P = initBody := by kernel_rfl
theorem env_eq (P : Params) (L : Addr) : newEnv (fd55 P).scope L (fd55 P).globals (fd55 P).closure ((fd55 P).qualname ++ Str.ofString ".<locals>.") (some 55) (fd55 P).code none (fd55 P).builtins = envI L := by kernel_rfl
theorem k54 (P : Params) : (Mine.hd.heap_39 P).lookup 54 = some (objAt P 54) := by kernel_rfl
theorem code_eq (P : Params) : (fd55 P).code = .ref 54 := by kernel_rfl
def tokOf : Value → Tok
  | .str _ t => t
  | _ => 0
theorem code55 {w : World} {h : Heap} (X : (Mine.hd.heap_39 w.params).In h) : h.CodeRec (fd55 w.params).code (fd55 w.params).qualname :=
  ⟨54, objAt w.params 54, fieldsIn (objAt w.params 54), tokOf ((fieldsIn (objAt w.params 54)).getD 1 .none), code_eq _, X _ _ (k54 _), by kernel_rfl, by kernel_rfl⟩

theorem pk_type (w : World) (L : Addr) : PK w (loadName (envI L) (Str.ofString "type")) (.type "type") := by kernel_rfl
theorem pk_pe (w : World) (L : Addr) : PK w (loadName (envI L) (Str.ofString "ProtocolError")) (.ref 58) := by kernel_rfl
theorem pk_is (w : World) : PK w (compareOp .Is (.ref 78) (.ref 58)) (.bool false) := by kernel_rfl
theorem pk_super (w : World) (L : Addr) : PK w (loadName (envI L) (Str.ofString "super")) (.type "super") := by kernel_rfl
theorem pk_class (w : World) (L : Addr) : PK w (loadName (envI L) (Str.ofString "__class__")) (.ref 58) := by kernel_rfl
def strOf : Value → Str
  | .str x _ => x
  | _ => Str.ofString ""
noncomputable def ar55 (P : Params) : Arg := ((fd55 P).params.posonlyargs ++ (fd55 P).params.args).headD ⟨Str.ofString "", none, default⟩
theorem ar55_head (P : Params) : ((fd55 P).params.posonlyargs ++ (fd55 P).params.args).head? = some (ar55 P) := by kernel_rfl
theorem ar55_name (P : Params) : (ar55 P).arg = Str.ofString "self" := by kernel_rfl
noncomputable def vs54 (P : Params) : Array Value := fieldsIn (objAt P 54)
theorem vs54_data (P : Params) : (objAt P 54).data = .fields (vs54 P) := by kernel_rfl
theorem vs54_file (P : Params) : (vs54 P)[2]? = some (.str (strOf ((vs54 P).getD 2 .none)) (tokOf ((vs54 P).getD 2 .none))) := by kernel_rfl
theorem file_ok (P : Params) : ((prog₀.main.file : Str) == strOf ((vs54 P).getD 2 .none)) = true := by kernel_rfl
theorem top_super : (prog₀.main.scope.names.lookup ("super" : Str)).isSome = false := by kernel_rfl
theorem k58 (P : Params) : (Mine.hd.heap_39 P).lookup 58 = some (objAt P 58) := by kernel_rfl
theorem d58 (P : Params) : (objAt P 58).data = .cls (clsDataOf (objAt P 58)) := by kernel_rfl
theorem pk_sub58 (w : World) : PK w (isSubtype (.ref 78) (.ref 58)) true := by kernel_rfl
theorem pk_opq (w : World) : PK w (opaqueClassAbove (.ref 78)) none := by kernel_rfl
local macro_rules | `(tactic| x_close) => `(tactic| exact ⟨rfl, rfl⟩)
set_option maxHeartbeats 4000000 in
theorem typeE (w : World) (s : Shared) (fl : List Env) (X : (Mine.hd.heap_39 w.params).In s.heap) (e tup : Addr) (he : s.heap.get? e = some { cls := .ref 78, dict := none, data := .fields #[.ref tup, .none, .none, .none, .bool false, .none], slots := #[] }) :
    wpAny (model prog₀ w) (A₉ fl) (call (.type "type") [.ref e]) (fun v s' => v = .ref 78 ∧ s' = s) (fun _ _ => False) s := by
  x_run
local macro_rules | `(tactic| x_close) => `(tactic| exact ⟨_, _, rfl, rfl, Mem.at (by assumption) 0 _ _ rfl, memKeeps (by assumption)⟩)
set_option maxHeartbeats 4000000 in
theorem wrapGet (w : World) (s : Shared) (X : (Mine.hd.heap_39 w.params).In s.heap) (fl : List Env) (e tup : Addr) (he : s.heap.get? e = some { cls := .ref 78, dict := none, data := .fields #[.ref tup, .none, .none, .none, .bool false, .none], slots := #[] }) :
    wpAny (model prog₀ w) (A₉ fl) (call (.builtin "wrapper_descriptor.__get__") [.builtin "Exception.__init__", .ref e, .ref 78])
      (fun v s' => ∃ a h', v = .ref a ∧ s' = { s with heap := h' } ∧ h'.get? a = some { cls := .type "method-wrapper", dict := none, data := .fields #[.builtin "Exception.__init__", .ref e], slots := #[] } ∧ ∀ x o, s.heap.get? x = some o → h'.get? x = some o) (fun _ _ => False) s := by
  x_run

abbrev supObj (e : Addr) : Obj := { cls := .type "super", dict := none, data := .fields #[.ref 58, .ref e, .ref 78], slots := #[] }
abbrev mwObj (e : Addr) : Obj := { cls := .type "method-wrapper", dict := none, data := .fields #[.builtin "Exception.__init__", .ref e], slots := #[] }
theorem mro78' (w : World) : PK w (mroOf (.ref 78)) [.ref 78, .ref 58, .type "Exception", .type "BaseException", .type "object"] := pk_mro w
theorem along_init (w : World) : alongIn (Mine.hd.heap_39 w.params) (Str.ofString "__init__") [.type "Exception", .type "BaseException", .type "object"] = some (some (.builtin "Exception.__init__")) := by kernel_rfl
theorem type_init : typeOf (.builtin "Exception.__init__") = pure (.type "wrapper_descriptor") := by show builtinType _ = _; rw [builtinType_eq_fast]; kernel_rfl
theorem wrap_get : typeLookup (.type "wrapper_descriptor") "__get__" = pure (some (.builtin "wrapper_descriptor.__get__")) := by rw [typeLookup_type, builtinLookup_eq_fast]; kernel_rfl

section
variable {w : World} {A : Around} {E : Value → Shared → Prop} {h : Heap} {g : Array GenState} {d : Drawn} {t : Nat} {os : OsState} {e tup so : Addr}
theorem supGa {fl : List Env} {tk : Tok} {Q : Fin → Shared → Prop} {K : Frag} {nm : Str} (r : Rk 1 A fl) (X : K.In h) (hal : alongIn K (nm) [.type "Exception", .type "BaseException", .type "object"] = some (some (.builtin "Exception.__init__")))
    (hno : Looks (model prog₀ w) h (opaqueClassAbove (.ref 78)) none) (hC : Looks (model prog₀ w) h (mroOf (.ref 78)) [.ref 78, .ref 58, .type "Exception", .type "BaseException", .type "object"]) (hxC : e ≠ 78) (hn : (nm == ("__class__" : Str)) = false)
    (hget : ∀ {Q : Value → Shared → Prop} {E : Value → Shared → Prop} {B : Around}, Rm B fl → (∀ a h', h'.get? a = some (mwObj e) → (∀ x o, h.get? x = some o → h'.get? x = some o) → Q (.ref a) ⟨h', g, d, t, os⟩) →
      wpAny (model prog₀ w) B (call (.builtin "wrapper_descriptor.__get__") [.builtin "Exception.__init__", .ref e, .ref 78]) Q E ⟨h, g, d, t, os⟩) (hso : h.get? so = some (supObj e))
    (hq : ∀ a h', h'.get? a = some (mwObj e) → (∀ x o, h.get? x = some o → h'.get? x = some o) → Q (.done (.ret (.ref a))) ⟨h', g, d, t, os⟩) :
    wpAny (model prog₀ w) A (Builtin.«super.__getattribute__» ⟨[.ref so, .str (nm) tk], []⟩) Q E ⟨h, g, d, t, os⟩ := by
  have hne : (Value.ref e == Value.ref 78) = false := by simp [hxC]
  have hdt : (supObj e).data = .fields #[.ref 58, .ref e, .ref 78] := rfl
  have f0 : (#[.ref 58, .ref e, .ref 78] : Array Value)[0]? = some (.ref 58) := rfl
  have f1 : (#[.ref 58, .ref e, .ref 78] : Array Value)[1]? = some (.ref e) := rfl
  have f2 : (#[.ref 58, .ref e, .ref 78] : Array Value)[2]? = some (.ref 78) := rfl
  have hl : (([.ref 78, .ref 58, .type "Exception", .type "BaseException", .type "object"] : List Value).dropWhile (· != .ref 58)).drop 1 = [.type "Exception", .type "BaseException", .type "object"] := by decide +kernel
  unfold Builtin.«super.__getattribute__»
  repeat (first
    | (with_reducible refine wpAny_field hso hdt f0 ?_) | (with_reducible refine wpAny_field hso hdt f1 ?_) | (with_reducible refine wpAny_field hso hdt f2 ?_)
    | (with_reducible refine ks_wpAny_notOpaque hno ?_)
    | (with_reducible refine Looks.at hC ?_; rw [hl])
    | ((with_reducible show wpAny _ _ (forIn _ _ _) _ _ _); (refine ks_forIn_along X (fun _ _ => rfl) rfl ?_ hal))
    | (simp only [hn, hne, Bool.or_false, Bool.false_eq_true, if_false])
    | wp_step
    | dsimp only)
  have hbk : builtinKind "Exception.__init__" = some .slot := by decide +kernel
  rw [hbk]
  refine wpAny_of_eq wrap_get ?_
  refine wpAny_bind (wpAny_holding (hget r.rm fun a h' ha hk => ?_))
  refine wpAny_bind (wpAny_pure (wpAny_pure ?_))
  exact wpAny_pure (hq a h' ha hk)

theorem getSuper {fl : List Env} {nm : Str} {pl : Sem Bool} {K : Frag} {Q : Value × List Value → Shared → Prop} (r : Rk 2 A fl) (X : K.In h) (hal : alongIn K nm [.type "Exception", .type "BaseException", .type "object"] = some (some (.builtin "Exception.__init__")))
    (hno : Looks (model prog₀ w) h (opaqueClassAbove (.ref 78)) none) (hC : Looks (model prog₀ w) h (mroOf (.ref 78)) [.ref 78, .ref 58, .type "Exception", .type "BaseException", .type "object"]) (hxC : e ≠ 78) (hn : (nm == ("__class__" : Str)) = false)
    (hget : ∀ {Q : Value → Shared → Prop} {E : Value → Shared → Prop} {B : Around} {t : Nat}, Rm B fl → (∀ a h', h'.get? a = some (mwObj e) → (∀ x o, h.get? x = some o → h'.get? x = some o) → Q (.ref a) ⟨h', g, d, t, os⟩) →
      wpAny (model prog₀ w) B (call (.builtin "wrapper_descriptor.__get__") [.builtin "Exception.__init__", .ref e, .ref 78]) Q E ⟨h, g, d, t, os⟩) (hso : h.get? so = some (supObj e))
    (hq : ∀ a h' tk, h'.get? a = some (mwObj e) → (∀ x o, h.get? x = some o → h'.get? x = some o) → Q (.ref a, []) ⟨h', g, d, tk, os⟩) :
    wpAny (model prog₀ w) A (getMethod (.ref so) nm pl) Q E ⟨h, g, d, t, os⟩ := by
  have hlk := F.ks_slot_super_ga.lookup
  have hcan := F.ks_canon_super_ga
  have hT : ∀ t', (⟨h, g, d, t', os⟩ : Shared).TypeIs (.ref so) "super" := fun _ => ⟨_, hso, rfl⟩
  unfold getMethod
  refine wpAny_bind (wpAny_specialOf (hT _) hlk ?_)
  show wpAny _ _ (if (Manifest.canonical "super.__getattribute__" != "object.__getattribute__") = true then _ else _) _ _ _
  rw [if_pos hcan]
  unfold getAttr getAttrBy
  refine wpAny_bind (wpAny_bind (wpAny_mkText (wpAny_holding (wpAny_bind (wpAny_typeOf (hT _) (wpAny_bind (wpAny_of_eq hlk ?_)))))))
  show wpAny _ _ (getAttrByItsOwn (.ref so) (.str nm t) (.type "super") (.builtin "super.__getattribute__") true false) _ _ _
  unfold getAttrByItsOwn hookBefore callGetattribute boundAndCalled
  refine wpAny_bind (wpAny_of_eq (show (if onTheHeap (.type "super") then typeLookup (.type "super") "__getattr__" else pure none) = pure none from rfl) ?_)
  refine wpAny_bind (wpAny_attempt (wpAny_holding ?_))
  show wpAny _ _ (bindSpecial (.builtin "super.__getattribute__") (.ref so) >>= _) _ _ _
  refine wpAny_bind (wpAny_of_eq (F.ks_slot_super_ga.bind _) ?_)
  refine wpAny_mono (Q := fun v s' => ∃ a h', v = .ref a ∧ s' = ⟨h', g, d, t + 1, os⟩ ∧ h'.get? a = some (mwObj e) ∧ ∀ x o, h.get? x = some o → h'.get? x = some o) (E := fun _ _ => False)
    (wpAny_call_entry F.ks_slot_super_ga (hT _) F.ks_entry_super_ga (supGa r.one X hal hno hC hxC hn (fun rb hb => hget rb hb) hso fun a h' ha hk => ⟨_, rfl, a, h', rfl, rfl, ha, hk⟩) (F.ks_gaArgs_super _ _)) (fun v s' hv => ?_) fun _ _ z => z.elim
  obtain ⟨a, h', rfl, rfl, ha, hk⟩ := hv
  exact wpAny_pure (wpAny_pure (hq a h' _ ha hk))

end

noncomputable def name78 (w : World) : String := (peek (Mine.hd.heap_39 w.params) ⟨prog₀, w.params⟩ (typeNameWhole (.ref 78))).getD ""
theorem pk_name (w : World) : PK w (typeNameWhole (.ref 78)) (name78 w) := by kernel_rfl
theorem init_chk {w : World} {A : Around} {E : Value → Shared → Prop} {s : Shared} {e tup : Addr} (v : Value) {Q : Unit → Shared → Prop} (X : (Mine.hd.heap_39 w.params).In s.heap) (he : s.heap.get? e = some (exc₀ none tup)) (h : Q () s) :
    wpAny (model prog₀ w) A (checkBoundCall "Exception.__init__" ⟨[.ref e, v], []⟩) Q E s := by
  have F := PySem.F.excCall_Exception
  have hshort := F.noStar
  obtain ⟨hp, g, d, tk, os⟩ := s
  simp only [checkBoundCall, F.initKind, F.initRow]
  wp_walk
  refine wpAny_loadPart (X _ _ (k78 _)) ?_
  rw [cd78_data]
  wp_walk
  exact h
theorem init_plain : plainId "Exception.__init__" = true := by decide +kernel
theorem init_entry : entryFor table "Exception.__init__" = some Builtin.«BaseException.__init__» := PySem.F.excCall_Exception.initEntry
section
variable {w : World} {A : Around} {E : Value → Shared → Prop} {s : Shared} {e tup a : Addr}
theorem callMw {v : Value} {Q : Value → Shared → Prop} (X : (Mine.hd.heap_39 w.params).In s.heap) (ha : s.heap.get? a = some (mwObj e)) (he : s.heap.get? e = some (exc₀ none tup))
    (hq : ∀ h' tup', h'.get? e = some (exc₀ none tup') → (∀ x o, x ≠ e → s.heap.get? x = some o → h'.get? x = some o) → Q .none { s with heap := h' }) :
    wpAny (model prog₀ w) A (call (.ref a) [v]) Q E s := by
  refine wpAny_call (codeAny_of_tree ?_)
  show wpAny _ A.in1 (callAny (.ref a) ⟨[v], []⟩) _ _ s
  unfold callAny
  refine wpAny_bind (wpAny_load ha ?_)
  show wpAny _ A.in1 (if ((Value.type "method-wrapper" == Value.type "method") || (Value.type "method-wrapper" == Value.type "builtin_function_or_method") || (Value.type "method-wrapper" == Value.type "method-wrapper")) = true then _ else _) _ _ s
  rw [if_pos (by decide +kernel)]
  show wpAny _ A.in1 (if (Value.type "method-wrapper" != Value.type "method") = true then _ else _) _ _ s
  rw [if_pos (by decide +kernel)]
  refine wpAny_bind (init_chk v X he ?_)
  refine wpAny_pure ⟨plainId_quiet init_plain _, codeAny_builtin init_entry ?_⟩
  rw [Around.under_plainId init_plain]
  unfold Builtin.«BaseException.__init__»
  show wpAny _ A.in1 (newTuple [v] >>= _) _ _ s
  unfold newTuple
  refine wpAny_bind (wpAny_newObj_type ?_ (by size_fits))
  have he₁ : (s.heap.push { cls := .type "tuple", data := .seq [v].toArray }).get? e = some (exc₀ none tup) := Heap.get?_push_of_some _ he
  refine wpAny_bind ?_
  unfold BaseException.bexcPut
  refine wpAny_bind (wpAny_field he₁ rfl (i := 0) (x := .ref tup) rfl ?_)
  refine wpAny_bind (wpAny_setField he₁ rfl (by show 0 < 6; decide) ?_)
  refine wpAny_letGo (wpAny_pure ?_)
  refine hq _ s.heap.objs.size (Heap.get?_update_self (Obj.mapFields (·.setIfInBounds 0 (Value.ref s.heap.objs.size))) he₁ rfl) fun x o hx ho => ?_
  exact (Heap.get?_update_other _ _ (Ne.symm hx)).trans (Heap.get?_push_of_some _ ho)
end

section
variable {w : World} {A : Around} {s : Shared} {e tup : Addr}
theorem init55 {fl : List Env} {m : Str} {t : Tok} {Q : Value → Shared → Prop} {E : Value → Shared → Prop} (r : Rk 3 A fl) (X : (Mine.hd.heap_39 w.params).In s.heap) (nl : s.heap.NoLimit) (he : s.heap.get? e = some (exc₀ none tup)) (hKe : (Mine.hd.heap_39 w.params).lookup e = none)
    (h : ∀ h' tk tup' d, h'.get? e = some (exc₀ (some d) tup') → s.heap.get? d = none → h'.Ns d (fun y => if y = Str.ofString "error_status_hint" then some (.int 400 303) else none) →
      (∀ b o, b ≠ e → s.heap.get? b = some o → h'.get? b = some o) → Q .none { s with heap := h', toks := tk }) :
    wpAny (model prog₀ w) A (call (.ref 55) [.ref e, .str m t]) Q E s := by
  refine wpAny_call (codeAny_call_function r.room (X _ _ (k55 _)) (fd55_data _) (fd55_co _) (fd55_gen _) (fd55_body _) (code55 X) ?_)
  refine (pkLooks X (pk_bind w e m t)) _ _ _ _ (fun _ _ x => x) ?_
  refine wpAny_newFunctionEnv (fd55_cell _) (by
    intro x hx
    obtain ⟨⟨h1, h2⟩, h3⟩ := fd55_loc w.params
    simp only [List.mem_cons, List.not_mem_nil, or_false] at hx
    rcases hx with rfl | rfl | rfl
    · exact h1
    · exact h2
    · exact h3) (fun h₀ hns hsb => ⟨nl.fresh _ hsb, ks_codeAny_funcAt ?_⟩) (fd55_kind _)
  have hk₀ : ∀ b o, s.heap.get? b = some o → h₀.get? b = some o := fun b o x => hsb.extBut b o (Nat.ne_of_lt (Heap.lt_size x)) (Heap.get?_push_of_some _ x)
  have X₀ := X.keeps hk₀
  rw [body_eq]
  rw [env_eq w.params s.heap.objs.size]
  show PySem.wpAt _ _ _ (execs [Stmt.If _ _ _ _, Stmt.Expr _ _, Stmt.Assign _ _ _] _) _ _ _
  refine ks_wpAt_execs_cons (wpAt_of_wpAny (wpAny_If ?_))
  have rd := (r.deeper (envI s.heap.objs.size)).rm
  have he₀ := hk₀ _ _ he
  have hloc : ∀ x : Str, initScope.names.lookup x = some .local → (envI s.heap.objs.size).kindOf x = some .local := fun x h => h
  generalize hs₀ : ({ heap := h₀, gens := s.gens, drawn := s.drawn, toks := s.toks + List.length [(Str.ofString "self", Value.ref e), (Str.ofString "msg", Value.str m t), (Str.ofString "error_status_hint", Value.int 400 303)], os := s.os } : Shared) = s₀
  have hh₀ : s₀.heap = h₀ := by rw [← hs₀]
  -- type(self) is ProtocolError
  refine wpAny_isTrue_Compare1 (Call_name1 rfl (wpAny_Name ((pkLooks X₀ (pk_type w _)) _ _ _ _ (fun _ _ x => by rw [hh₀]; exact x) (callWith_type1 (wpAny_Name (wpAny_loadName_local rfl rfl (by rw [hh₀]; exact hns) (by rfl) ?_) (by decide)))) (by decide)))
  refine rd.any (wpAny_mono (typeE w s₀ _ (by rw [hh₀]; exact X₀) e tup (by rw [hh₀]; exact he₀)) ?_ fun _ _ x => x.elim)
  rintro v s' ⟨rfl, rfl⟩
  refine wpAny_Name ((pkLooks X₀ (pk_pe w _)) _ _ _ _ (fun _ _ x => by rw [hh₀]; exact x) ?_) (by decide)
  refine (pkLooks X₀ (pk_is w)) _ _ _ _ (fun _ _ x => by rw [hh₀]; exact x) (wpAny_truthy_bool ?_)
  rw [if_neg (by decide)]
  refine wpAny_pure ?_
  -- super().__init__(msg)
  subst hs₀
  refine ks_wpAt_execs_cons (ks_wpAt_Expr_any (ks_wpAt_MethodCall ?_))
  refine ks_wpAt_super_base (f := 55) (of := objAt w.params 55) (fd := fd55 w.params) (ar := ar55 w.params) (cc := 54) (oc := objAt w.params 54) (vs := vs54 w.params)
    rfl rfl (by decide) rfl (X₀ _ _ (k55 _)) (fd55_data _) (ar55_head _) rfl (X₀ _ _ (k54 _)) (vs54_data _) (vs54_file _) (file_ok _) top_super ?_
  refine (pkLooks X₀ (pk_super w _)) _ _ _ _ (fun _ _ x => x) ⟨rfl, ?_⟩
  refine (pkLooks X₀ (pk_class w _)) _ _ _ _ (fun _ _ x => x) ?_
  rw [ar55_name]
  refine wpAny_loadName_local rfl rfl hns (by rfl) ?_
  refine ks_wpAny_isType_cls (X₀ _ _ (k58 _)) (d58 _) ⟨rfl, ?_⟩
  refine ks_wpAny_call_super (X₀ _ _ (k58 _)) (d58 _) he₀ rfl (fun c hc => nomatch hc) (pkLooks X₀ (pk_sub58 w)) fun h₁ hso hk₁ => ?_
  have X₁ := X₀.keeps hk₁
  have he₁ := hk₁ _ _ he₀
  have hxC : e ≠ 78 := by
    rintro rfl
    have h3 := congrArg Obj.data (Option.some.inj ((X _ _ (k78 _)).symm.trans he))
    rw [cd78_data] at h3
    exact nomatch h3
  refine getSuper (r.deeper _) X₁ (along_init w) (pkLooks X₁ (pk_opq w)) (pkLooks X₁ (pk_mro w)) hxC (by decide) (fun rb hb => rb.any (wpAny_mono (wrapGet w _ X₁ _ e tup he₁) (fun v s' hv => by
    obtain ⟨a, h', rfl, rfl, ha, hk⟩ := hv
    exact hb a h' ha hk) fun _ _ x => x.elim)) hso fun a h₂ tk₂ ha hk₂ => ?_
  have X₂ := X₁.keeps hk₂
  have he₂ := hk₂ _ _ he₁
  have hns₂ := (hns.keeps hk₁).keeps hk₂
  unfold callWith
  refine wpAny_bind (wpAny_holding (Calls.evalArgs_plain (Calls.spliced_cons (wpAny_Name (wpAny_loadName_local rfl rfl hns₂ (by rfl) (Calls.spliced_nil ?_)) (by decide)))))
  refine wpAny_bind (wpAny_standAt ?_)
  refine wpAny_bind ?_
  unfold keeperOf
  refine wpAny_bind (wpAny_load ha ?_)
  refine wpAny_pure ?_
  refine wpAny_bind (callMw X₂ ha he₂ fun h₃ tup' he₃ hk₃ => ?_)
  refine wpAny_bind (wpAny_holding (wpAny_point (wpAny_pure ?_)))
  -- self.error_status_hint = error_status_hint
  have hxe : ∀ x, x ≠ e → ∀ o, h₂.get? x = some o → h₃.get? x = some o := fun x hx o ho => hk₃ x o hx ho
  have hLe : s.heap.objs.size ≠ e := Nat.ne_of_gt (Heap.lt_size he)
  have hns₃ : h₃.Ns s.heap.objs.size _ := hns₂.at' fun o q => hxe _ hLe o q
  have X₃ : (Mine.hd.heap_39 w.params).In h₃ := fun x o ho => by
    by_cases hx : x = e
    · rw [hx, hKe] at ho; cases ho
    · exact hxe x hx o (X₂ x o ho)
  refine ks_wpAt_execs_cons (ks_wpAt_Assign_Attr (PySem.wpAt_of_wpAny (wpAny_Name (wpAny_loadName_local rfl rfl hns₃ (by rfl) ?_) (by decide))))
  refine wpAny_Name (wpAny_loadName_local rfl rfl hns₃ (by rfl) ?_) (by decide)
  refine storeHint X₃ he₃ fun h₄ tk₄ d he₄ hd hdn hk₄ => ?_
  refine PySem.wpAt_of_wpAny (wpAny_pure ?_)
  refine h h₄ tk₄ tup' d he₄ ?_ hdn fun x o hx ho => hk₄ x o hx (hxe x hx o (hk₂ _ _ (hk₁ _ _ (hk₀ _ _ ho))))
  cases q : s.heap.get? d with
  | none => rfl
  | some o =>
    by_cases hde : d = e
    · subst hde; rw [he₃] at hd; cases hd
    · have := hxe d hde o (hk₂ _ _ (hk₁ _ _ (hk₀ _ _ q)))
      rw [hd] at this; cases this
end
end Mine

end
section
open PySem PySem.W PySem.W.X PySem.Calls PyProof.Rows PySem.Builtin PySem.Builtin.ObjectAttr
set_option maxRecDepth 100000
namespace Mine

local macro_rules | `(tactic| x_close) => `(tactic| exact ⟨_, _, _, rfl, rfl, Mem.at (by assumption) 0 _ _ rfl, (Mem.nw (by assumption) _ (.head _)).2, memKeeps (by assumption)⟩)
set_option maxHeartbeats 4000000 in
theorem new78 (w : World) (s : Shared) (X : (Mine.hd.heap_39 w.params).In s.heap) (fl : List Env) (m : Str) (t : Tok) :
    wpAny (model prog₀ w) (A₉ fl) (call (.builtin "Exception.__new__") [.ref 78, .str m t])
      (fun v s' => ∃ e tup h', v = .ref e ∧ s' = { s with heap := h' } ∧ h'.get? e = some { cls := .ref 78, dict := none, data := .fields #[.ref tup, .none, .none, .none, .bool false, .none], slots := #[] } ∧ s.heap.get? e = none ∧ ∀ x o, s.heap.get? x = some o → h'.get? x = some o) (fun _ _ => False) s := by
  x_run

theorem pk_call (w : World) : PK w (specialOf (.ref 78) (Str.ofString "__call__")) (some (.builtin "type.__call__")) := by kernel_rfl
theorem pk_callBind (w : World) : PK w (bindSpecial (.builtin "type.__call__") (.ref 78)) (.builtin "type.__call__", [.ref 78]) := by kernel_rfl
theorem pk_chk (w : World) (m : Str) (t : Tok) : PK w (checkBuiltinCall "type.__call__" ⟨[.ref 78, .str m t], []⟩) () := by kernel_rfl
theorem pk_made (w : World) : PK w (Bind.madeBy (.ref 78)) (some "Exception.__new__") := by kernel_rfl
theorem pk_sub78 (w : World) : PK w (isSubtype (.ref 78) (.ref 78)) true := by kernel_rfl
theorem pk_initLk (w : World) : PK w (typeLookup (.ref 78) (Str.ofString "__init__")) (some (.ref 55)) := by kernel_rfl
theorem pk_initBind (w : World) (e : Addr) : PK w (bindSpecial (.ref 55) (.ref e)) (.ref 55, [.ref e]) := by kernel_rfl

section
variable {w : World} {A : Around} {E : Value → Shared → Prop} {s : Shared}
theorem mkExc {fl : List Env} {m : Str} {t : Tok} {Q : Value → Shared → Prop} (r : Rk 6 A fl) (X : (Mine.hd.heap_39 w.params).In s.heap) (nl : s.heap.NoLimit)
    (h : ∀ e h' tk tup d, s.heap.get? e = none → h'.get? e = some (exc₀ (some d) tup) → s.heap.get? d = none → h'.Ns d (fun y => if y = Str.ofString "error_status_hint" then some (.int 400 303) else none) →
      (∀ b o, s.heap.get? b = some o → h'.get? b = some o) → Q (.ref e) { s with heap := h', toks := tk }) :
    wpAny (model prog₀ w) A (call (.ref 78) [.str m t]) Q E s := by
  refine wpAny_call (codeAny_of_tree ?_)
  show wpAny _ A.in1 (callAny (.ref 78) ⟨[.str m t], []⟩) _ _ s
  unfold callAny
  refine wpAny_bind (wpAny_load (X _ _ (k78 _)) ?_)
  rw [cd78_data]
  unfold callAny.viaDunder
  refine wpAny_bind ((pkLooks X (pk_call w)) _ _ _ _ (fun _ _ x => x) ?_)
  refine wpAny_bind ((pkLooks X (pk_callBind w)) _ _ _ _ (fun _ _ x => x) ?_)
  refine wpAny_bind (wpAny_pure ?_)
  rw [if_pos (by decide)]
  refine wpAny_pure ⟨rfl, ?_⟩
  refine codeAny_of_tree ?_
  show wpAny _ A.in1 (do checkBuiltinCall "type.__call__" ⟨[.ref 78, .str m t], []⟩; again (.builtin "type.__call__" ⟨[.ref 78, .str m t], []⟩)) _ _ s
  refine wpAny_bind ((pkLooks X (pk_chk w m t)) _ _ _ _ (fun _ _ x => x) ?_)
  refine wpAny_pure ⟨Code.quiet_builtin _ (by decide +kernel), codeAny_builtin F.entry_type_call ?_⟩
  generalize hB : A.under (.builtin "type.__call__" ⟨[.ref 78, .str m t], []⟩) = B
  have rB : Rk 4 B fl := by
    rw [← hB]
    refine ⟨r.hd, ?_, ?_, ?_, ?_⟩
    · have := r.depth
      show A.depth + 1 + 4 ≤ 900
      omega
    · show pushEnvs [] A.frames = _
      exact r.frames
    · show pushGuards [] A.guards = _
      exact r.guards
    · have := r.units
      show A.units + 1 + 50 * 4 ≤ 9000
      omega
  unfold Builtin.«type.__call__»
  show wpAny _ B (if (Value.ref 78 == Value.type "type") = true then _ else _) _ _ s
  rw [if_neg (by decide +kernel)]
  refine wpAny_bind ((pkLooks X (pk_mro w)) _ _ _ _ (fun _ _ x => x) ?_)
  rw [if_neg (by decide)]
  refine wpAny_bind ((pkLooks X (pk_made w)) _ _ _ _ (fun _ _ x => x) ?_)
  refine wpAny_bind (wpAny_pure ?_)
  refine wpAny_bind (wpAny_holding (rB.rm.any (wpAny_mono (new78 w s X fl m t) ?_ fun _ _ x => x.elim)))
  rintro v s' ⟨e, tup, h', rfl, rfl, he, hen, hk⟩
  have X' := X.keeps hk
  unfold isInstance
  refine wpAny_bind (wpAny_bind (typeRef he ((pkLooks X' (pk_sub78 w)) _ _ _ _ (fun _ _ x => x) ?_)))
  rw [if_neg (by decide)]
  unfold callSpecial? specialOf
  refine wpAny_bind (wpAny_holding (wpAny_bind (wpAny_bind (typeRef he ((pkLooks X' (pk_initLk w)) _ _ _ _ (fun _ _ x => x) (wpAny_holding ?_))))))
  refine wpAny_bind ((pkLooks X' (pk_initBind w e)) _ _ _ _ (fun _ _ x => x) ?_)
  have hKe : (Mine.hd.heap_39 w.params).lookup e = none := by
    cases q : (Mine.hd.heap_39 w.params).lookup e with
    | none => rfl
    | some o => have := X e o q; rw [hen] at this; cases this
  refine wpAny_bind (init55 (rB.le (by decide)) X' (nl.keeps hk) he hKe fun h₂ tk₂ tup₂ d he₂ hd hn hk₂ => ?_)
  refine wpAny_pure ?_
  refine wpAny_pure ?_
  refine h e h₂ tk₂ tup₂ d hen he₂ ?_ hn fun b o hb => hk₂ b o (fun q => by rw [q, hen] at hb; cases hb) (hk b o hb)
  cases q : s.heap.get? d with
  | none => rfl
  | some o => have := hk d o q; rw [hd] at this; cases this
end
end Mine

end
section
open PySem PySem.W PySem.W.X PySem.Calls PyProof.Rows PySem.Builtin PySem.Builtin.ObjectAttr
set_option maxRecDepth 100000
namespace Mine
theorem pk_keeper (w : World) : PK w (keeperOf (.ref 78)) .machine := by kernel_rfl
theorem call78 (w : World) : PK w (typeOf (.ref 78)) (.type "type") := by kernel_rfl
theorem pk_base (w : World) : PK w (isSubtype (.ref 78) (.type "BaseException")) true := by kernel_rfl

section
variable {w : World} {A : Around} {E : Value → Shared → Prop} {s : Shared} {env : Env}
theorem raiseExc {fl : List Env} {S : List Addr} {arg : Expr} {m : Str} {np cpos pos : Pos} {Q : Flow → Shared → Prop} (r : Rk 6 A fl) (X : (Mine.hd.heap_39 w.params).In s.heap) (nl : s.heap.NoLimit)
    (hname : ∀ {Q : Value → Shared → Prop} {E : Value → Shared → Prop}, Q (.ref 78) s → wpAny (model prog₀ w) A (eval (.Name (Str.ofString "LocalProtocolError") np) env) Q E s)
    (hplain : starEach [arg] env = [(false, eval arg env)])
    (harg : ∀ {Q : Value → Shared → Prop} {E : Value → Shared → Prop}, (∀ t tk, Q (.str m t) { s with toks := tk }) → wpAny (model prog₀ w) A (eval arg env) Q E s)
    (h : ∀ e d h' tk, Flying [] S s.heap e d none h' → E (.ref e) { s with heap := h', toks := tk }) :
    wpAny (model prog₀ w) A (exec (.Raise (some (.Call (.Name (Str.ofString "LocalProtocolError") np) [arg] [] cpos)) none pos) env) Q E s := by
  rw [arm_exec_Raise]
  refine wpAny_bind (wpAny_standAt ?_)
  simp only [evalOpt, Option.map]
  unfold raiseStmt
  refine wpAny_bind ?_
  refine wpAny_bind (wpAny_Call_ofName (hname ?_))
  rw [hplain]
  unfold callWith
  refine wpAny_bind (wpAny_holding (Calls.evalArgs_plain (Calls.spliced_cons (harg fun t tk => Calls.spliced_nil ?_))))
  refine wpAny_bind (wpAny_standAt ?_)
  refine wpAny_bind ((pkLooks X (pk_keeper w)) _ _ _ _ (fun _ _ x => x) ?_)
  refine wpAny_bind (mkExc (s := { s with toks := tk }) r X nl fun e h' tk' tup d hen he hdn hd hk => ?_)
  have X' := X.keeps hk
  refine wpAny_bind (wpAny_holding (wpAny_point (wpAny_pure ?_)))
  refine wpAny_bind (wpAny_standAt (wpAny_pure ?_))
  -- the instance is raised
  have notCls : ∀ c, (exc₀ (some d) tup).data ≠ .cls c := fun c hc => nomatch hc
  refine wpAny_bind (wpAny_pure ?_)
  refine wpAny_bind (wpAny_holding ?_)
  unfold excFromValue isExcClass
  refine wpAny_bind (wpAny_bind (ks_wpAny_isType_inst he notCls ?_))
  rw [if_neg (by decide)]
  refine wpAny_pure ?_
  rw [if_neg (by decide)]
  unfold isInstance
  refine wpAny_bind (wpAny_bind (typeRef he ((pkLooks X' (pk_base w)) _ _ _ _ (fun _ _ x => x) ?_)))
  rw [if_pos rfl]
  refine wpAny_pure ?_
  refine wpAny_bind (ks_wpAny_isType_inst he notCls ?_)
  rw [if_neg (by decide)]
  refine wpAny_bind ?_
  unfold raisedInstance
  refine wpAny_bind (typeRef he ?_)
  refine wpAny_bind ((pkLooks X' (call78 w)) _ _ _ _ (fun _ _ x => x) ?_)
  rw [if_pos (by decide)]
  refine wpAny_pure ?_
  refine wpAny_bind ?_
  unfold setFlight
  refine wpAny_bind (wpAny_field he rfl (i := 1) (x := .none) rfl ?_)
  rw [if_neg (by decide)]
  refine wpAny_pure ?_
  refine wpAny_raiseNew_none r.hd (h e d h' _ ?_)
  refine ⟨fun b o _ _ hb => hk b o hb, fun b o _ hb => ⟨o.slots, hk b o hb⟩, .inr hen, ⟨_, he, rfl, rfl⟩, ⟨_, hd, by simp⟩⟩
end
end Mine

end
section
open PySem PySem.W PySem.W.X PySem.Calls PyProof.Rows PySem.Builtin
set_option maxRecDepth 100000
namespace Mine
theorem warm3 : (∀ P, Mine.hd.heap_39 P = Mine.hd.heap_39 P) ∧ PySem.Challenge.rw_ae6005_01 = PySem.Challenge.rw_ae6005_01 := by
  k_fill
  exact ⟨fun _ => rfl, rfl⟩

/-- the frame's names of the fold -/
abbrev foldMap (l it : Addr) (lastV : Value) (lineV matchV : Option Value) : Str → Option Value := fun y =>
  if y = Str.ofString "match" then matchV else if y = Str.ofString "line" then lineV else if y = Str.ofString "last" then some lastV else if y = Str.ofString "it" then some (.ref it) else if y = Str.ofString "lines" then some (.ref l) else none

theorem map_match (l it : Addr) (lastV : Value) (lineV matchV : Option Value) (v : Value) : (fun y => if y = Str.ofString "match" then some v else foldMap l it lastV lineV matchV y) = foldMap l it lastV lineV (some v) := by
  funext y; simp only [foldMap]; split <;> rfl
theorem map_line (l it : Addr) (lastV : Value) (lineV matchV : Option Value) (v : Value) : (fun y => if y = Str.ofString "line" then some v else foldMap l it lastV lineV matchV y) = foldMap l it lastV (some v) matchV := by
  funext y; simp only [foldMap]
  by_cases h : y = Str.ofString "line"
  · subst h; rfl
  · simp [h]
theorem map_last (l it : Addr) (lastV : Value) (lineV matchV : Option Value) (v : Value) : (fun y => if y = Str.ofString "last" then some v else foldMap l it lastV lineV matchV y) = foldMap l it v lineV matchV := by
  funext y; simp only [foldMap]
  by_cases h : y = Str.ofString "last"
  · subst h; rfl
  · simp [h]
theorem pat98Type {w : World} {h : Heap} (X : (Mine.hd.heap_39 w.params).In h) : ∃ o, h.get? 98 = some o ∧ o.cls = .type "re.Pattern" ∧ o.dict = none := by
  obtain ⟨o, fs, tup, ho, hc, hd, _⟩ := (pat98 X).obj
  exact ⟨o, ho, hc, hd⟩

set_option maxHeartbeats 4000000 in
theorem fold1 {w : World} {s : Shared} {h₀ : Heap} {L l it : Addr} {v lastV : Value} {matchV : Option Value} {news : List (Addr × Obj)} {mg mb : Str → Option Value} {mean : ExcName → Option Value} {A : Around} {b : Array UInt8} {Q : Flow → Shared → Prop} {E : Value → Shared → Prop}
    (X : (Mine.hd.heap_39 w.params).In h₀) (T : Top view₀ (looseW view₀ loose₀) mean mg mb h₀) (F : Fr h₀ L s.heap (foldMap l it lastV (some v) matchV))
    (N : News h₀ L s.heap news) (hv : OctAt s.heap v b) (hz : b.size ≤ 1000)
    (h0 : Rx.lead (b.map (·.toNat)) = 0 → ∀ h' tk, Fr h₀ L h' (foldMap l it lastV (some v) (some .none)) → News h₀ L h' news → Q .next { s with heap := h', toks := tk })
    (h1 : 0 < Rx.lead (b.map (·.toNat)) → ∀ h' tk a li tup, Fr h₀ L h' (foldMap l it lastV (some v) (some (.ref a))) → News h₀ L h' ((a, matObj v 98 b.size li tup) :: (tup, tupObj [rawInt 0, rawInt (Rx.lead (b.map (·.toNat)))]) :: news) →
      Q .next { s with heap := h', toks := tk }) :
    wpAny (mdl prog₀ w) A (exec (foldTurn.getD 0 (.Pass default)) (foldEnv L)) Q E s := by
  show wpAny _ _ (exec (Stmt.Assign _ _ _) (envOf _ { kind := _, names := _, isGenerator := _, isCoroutine := _, more := _ } _ _ _)) _ _ _
  have X' := X.keeps F.keep
  obtain ⟨o, ho, hc, hd⟩ := pat98Type X'
  repeat' (first | walk1 | (dsimp only; walk1))
  refine getMethod_builtin ⟨o, ho, hc⟩ plain_re_Pattern slot_re_Pattern_match type_re_Pattern_match (fun a e => by cases e; exact ⟨o, ho, hd⟩) ?_
  dsimp only
  repeat' (first | walk1 | (dsimp only; walk1))
  refine foldMatch (pat98 X') hv hz (fun hl => ?_) (fun hl li => ?_)
  · refine stN F N fun h' F' N' => ?_
    rw [map_match] at F'
    exact h0 hl h' _ F' N'
  · have F₁ := F.push (tupObj [rawInt 0, rawInt (Rx.lead (b.map (·.toNat)))])
    have N₁ := News.push F N (tupObj [rawInt 0, rawInt (Rx.lead (b.map (·.toNat)))])
    have F₂ := F₁.push (matObj v 98 b.size li s.heap.objs.size)
    have N₂ := News.push F₁ N₁ (matObj v 98 b.size li s.heap.objs.size)
    have e : (s.heap.push (tupObj [rawInt 0, rawInt (Rx.lead (b.map (·.toNat)))])).objs.size = s.heap.objs.size + 1 := by simp [Heap.push]
    rw [e] at N₂
    refine stN F₂ N₂ fun h' F' N' => ?_
    rw [map_match] at F'
    exact h1 hl h' _ _ _ _ F' N'

/-- `if match:` -/
theorem match_noBool : typeLookup (.type "re.Match") "__bool__" = pure none := by rw [typeLookup_type, builtinLookup_eq_fast]; kernel_rfl
theorem match_noLen : typeLookup (.type "re.Match") "__len__" = pure none := by rw [typeLookup_type, builtinLookup_eq_fast]; kernel_rfl
theorem truthyMatch {M : Model} {A : Around} {s : Shared} {E : Value → Shared → Prop} {a : Addr} {o : Obj} {Q : Bool → Shared → Prop} (ho : s.heap.get? a = some o) (hc : o.cls = .type "re.Match") (h : Q true s) : wpAny M A (truthy (.ref a)) Q E s := by
  have hT : s.TypeIs (.ref a) "re.Match" := ⟨o, ho, hc⟩
  unfold truthy
  refine wpAny_bind (wpAny_callSpecial?_none hT match_noBool ?_)
  refine wpAny_bind (wpAny_specialOf hT match_noLen ?_)
  exact wpAny_pure h

def ifTestOf : Stmt → Expr
  | .If t _ _ _ => t
  | _ => .Constant .none 0 default
def ifThen : Stmt → List Stmt
  | .If _ b _ _ => b
  | _ => []
def ifElse : Stmt → List Stmt
  | .If _ _ e _ => e
  | _ => []
def fTest : Expr := ifTestOf (foldTurn.getD 1 (.Pass default))
def fThen : List Stmt := ifThen (foldTurn.getD 1 (.Pass default))
def fElse : List Stmt := ifElse (foldTurn.getD 1 (.Pass default))
example : foldTurn.length = 2 := rfl
example : fThen.length = 4 := rfl
example : fElse.length = 2 := rfl

section
variable {w : World} {s : Shared} {h₀ : Heap} {L l it : Addr} {lastV : Value} {lineV matchV : Option Value} {news : List (Addr × Obj)} {mg mb : Str → Option Value} {mean : ExcName → Option Value} {A : Around} {E : Value → Shared → Prop}

set_option maxHeartbeats 4000000 in
theorem testMatch {mv : Value} {bb : Bool} {Q : Bool → Shared → Prop} (F : Fr h₀ L s.heap (foldMap l it lastV lineV (some mv))) (hm : (mv = .none ∧ bb = false) ∨ (bb = true ∧ ∃ a o, mv = .ref a ∧ s.heap.get? a = some o ∧ o.cls = .type "re.Match")) (h : Q bb s) :
    wpAny (mdl prog₀ w) A (isTrue fTest (foldEnv L) (eval fTest (foldEnv L))) Q E s := by
  show wpAny _ _ (isTrue (Expr.Name _ _) (envOf _ { kind := _, names := _, isGenerator := _, isCoroutine := _, more := _ } _ _ _) (eval (Expr.Name _ _) (envOf _ { kind := _, names := _, isGenerator := _, isCoroutine := _, more := _ } _ _ _))) _ _ _
  repeat' (first | walk1 | (dsimp only; walk1))
  rcases hm with ⟨rfl, rfl⟩ | ⟨rfl, a, o, rfl, ho, hc⟩
  · exact wpAny_pure h
  · exact truthyMatch ho hc h

def fNone : Expr := ifTestOf (fThen.getD 0 (.Pass default))
def fNotNone : Expr := ifTestOf (fElse.getD 0 (.Pass default))
def fNotBa : Expr := ifTestOf (fThen.getD 1 (.Pass default))
set_option maxHeartbeats 4000000 in
theorem testNone {b : Option (Array UInt8)} {Q : Bool → Shared → Prop} (F : Fr h₀ L s.heap (foldMap l it lastV lineV matchV)) (hm : match b with | none => lastV = .none | some b => OctAt s.heap lastV b) (h : Q b.isNone s) :
    wpAny (mdl prog₀ w) A (isTrue fNone (foldEnv L) (eval fNone (foldEnv L))) Q E s := by
  show wpAny _ _ (isTrue (Expr.Compare _ _ _ _) (envOf _ { kind := _, names := _, isGenerator := _, isCoroutine := _, more := _ } _ _ _) (eval (Expr.Compare _ _ _ _) (envOf _ { kind := _, names := _, isGenerator := _, isCoroutine := _, more := _ } _ _ _))) _ _ _
  repeat' (first | walk1 | (dsimp only; walk1))
  cases b with
  | none =>
    obtain rfl := hm
    refine wpAny_bind (wpAny_of_eq (a := true) rfl (wpAny_pure (wpAny_truthy_bool h)))
  | some b =>
    rcases hm with ⟨t, rfl⟩ | ⟨a, rfl, _⟩
    · exact wpAny_bind (wpAny_of_eq (a := false) rfl (wpAny_pure (wpAny_truthy_bool h)))
    · exact wpAny_bind (wpAny_of_eq (a := false) rfl (wpAny_pure (wpAny_truthy_bool h)))

set_option maxHeartbeats 4000000 in
theorem testNotNone {b : Option (Array UInt8)} {Q : Bool → Shared → Prop} (F : Fr h₀ L s.heap (foldMap l it lastV lineV matchV)) (hm : match b with | none => lastV = .none | some b => OctAt s.heap lastV b) (h : Q b.isSome s) :
    wpAny (mdl prog₀ w) A (isTrue fNotNone (foldEnv L) (eval fNotNone (foldEnv L))) Q E s := by
  show wpAny _ _ (isTrue (Expr.Compare _ _ _ _) (envOf _ { kind := _, names := _, isGenerator := _, isCoroutine := _, more := _ } _ _ _) (eval (Expr.Compare _ _ _ _) (envOf _ { kind := _, names := _, isGenerator := _, isCoroutine := _, more := _ } _ _ _))) _ _ _
  repeat' (first | walk1 | (dsimp only; walk1))
  cases b with
  | none =>
    obtain rfl := hm
    refine wpAny_bind (wpAny_of_eq (a := true) rfl (wpAny_pure (wpAny_truthy_bool h)))
  | some b =>
    rcases hm with ⟨t, rfl⟩ | ⟨a, rfl, _⟩
    · exact wpAny_bind (wpAny_of_eq (a := false) rfl (wpAny_pure (wpAny_truthy_bool h)))
    · exact wpAny_bind (wpAny_of_eq (a := false) rfl (wpAny_pure (wpAny_truthy_bool h)))
end

local macro_rules | `(tactic| x_close) => `(tactic| exact ⟨rfl, _, rfl⟩)
set_option maxHeartbeats 4000000 in
theorem isiBytes (w : World) (s : Shared) (fl : List Env) (b : Array UInt8) (t : Tok) : wpAny (model prog₀ w) (A₉ fl) (call (.builtin "isinstance") [.bytes b t, .type "bytearray"]) (fun v s' => v = .bool false ∧ ∃ tk, s' = { s with toks := tk }) (fun _ _ => False) s := by
  x_run
set_option maxHeartbeats 4000000 in
theorem isiBa (w : World) (s : Shared) (fl : List Env) (b : Array UInt8) (a : Addr) (ha : s.heap.get? a = some { cls := .type "bytearray", dict := none, data := .bytearray b 0, slots := #[] }) :
    wpAny (model prog₀ w) (A₉ fl) (call (.builtin "isinstance") [.ref a, .type "bytearray"]) (fun v s' => v = .bool true ∧ ∃ tk, s' = { s with toks := tk }) (fun _ _ => False) s := by
  x_run

section
variable {w : World} {s : Shared} {h₀ : Heap} {L l it : Addr} {lastV : Value} {lineV matchV : Option Value} {news : List (Addr × Obj)} {mg mb : Str → Option Value} {mean : ExcName → Option Value} {A : Around} {E : Value → Shared → Prop}
/-- immediate octets -/
def isImm : Value → Bool
  | .bytes _ _ => true
  | _ => false
set_option maxHeartbeats 4000000 in
theorem testNotBa {fl : List Env} {b : Array UInt8} {Q : Bool → Shared → Prop} (r : Rm A fl) (X : (Mine.hd.heap_39 w.params).In h₀) (T : Top view₀ (looseW view₀ loose₀) mean mg mb h₀) (F : Fr h₀ L s.heap (foldMap l it lastV lineV matchV)) (N : News h₀ L s.heap news) (hv : OctAt s.heap lastV b) (h : ∀ tk, Q (isImm lastV) { s with toks := tk }) :
    wpAny (mdl prog₀ w) A (isTrue fNotBa (foldEnv L) (eval fNotBa (foldEnv L))) Q E s := by
  show wpAny _ _ (isTrue (Expr.UnaryOp _ _ _) (envOf _ { kind := _, names := _, isGenerator := _, isCoroutine := _, more := _ } _ _ _) (eval (Expr.UnaryOp _ _ _) (envOf _ { kind := _, names := _, isGenerator := _, isCoroutine := _, more := _ } _ _ _))) _ _ _
  repeat' (first | walk1 | (dsimp only; walk1))
  rcases hv with ⟨t, rfl⟩ | ⟨a, rfl, ha⟩
  · refine lift (r.any (wpAny_mono (isiBytes w s fl b t) ?_ fun _ _ x => x.elim))
    rintro v s' ⟨rfl, tk, rfl⟩
    exact wpAny_truthy_bool (h tk)
  · refine lift (r.any (wpAny_mono (isiBa w s fl b a ha) ?_ fun _ _ x => x.elim))
    rintro v s' ⟨rfl, tk, rfl⟩
    exact wpAny_truthy_bool (h tk)
end
end Mine

end
section
open PySem PySem.W PySem.W.X PySem.Calls PyProof.Rows PySem.Builtin
set_option maxRecDepth 100000
namespace Mine
theorem warm4 : (∀ P, Mine.hd.heap_39 P = Mine.hd.heap_39 P) ∧ PySem.Challenge.rw_ae6005_01 = PySem.Challenge.rw_ae6005_01 := by
  k_fill
  exact ⟨fun _ => rfl, rfl⟩

section
variable {h₀ h h' : Heap} {L a : Addr} {m : Str → Option Value} {news : List (Addr × Obj)} {o : Obj}
theorem frExt (F : Fr h₀ L h m) (hk : ∀ b o, h.get? b = some o → h'.get? b = some o) : Fr h₀ L h' m := ⟨F.ns.keeps hk, fun b o x => hk b o (F.keep b o x), F.above⟩
theorem newsExt (N : News h₀ L h news) (hk : ∀ b o, h.get? b = some o → h'.get? b = some o) : News h₀ L h' news := fun p hp => ⟨hk _ _ (N p hp).1, (N p hp).2⟩
theorem newsCons (F : Fr h₀ L h m) (N : News h₀ L h' news) (ha : h'.get? a = some o) (hn : h.get? a = none) : News h₀ L h' ((a, o) :: news) := fun p hp => by
  rcases List.mem_cons.mp hp with rfl | hp
  · refine ⟨ha, ?_, ?_⟩
    · rintro rfl
      obtain ⟨o', _, _, h1, _⟩ := F.ns
      rw [hn] at h1; cases h1
    · cases q : h₀.get? a with
      | none => rfl
      | some o' => have := F.keep _ _ q; rw [hn] at this; cases this
  · exact N p hp
def setL (a : Addr) (o : Obj) (led : List (Addr × Obj)) : List (Addr × Obj) := led.map fun p => if p.1 = a then (a, o) else p
theorem newsSet (N : News h₀ L h news) (hs : Heap.SameBut a h h') (ha : h'.get? a = some o) (haL : a ≠ L) (ha0 : h₀.get? a = none) : News h₀ L h' (setL a o news) := fun p hp => by
  obtain ⟨q, hq, rfl⟩ := List.mem_map.mp hp
  by_cases e : q.1 = a
  · simp only [e, if_true]; exact ⟨ha, haL, ha0⟩
  · simp only [e, if_false]; exact ⟨(hs.2 _ e).trans (N q hq).1, (N q hq).2⟩
theorem frSet (F : Fr h₀ L h m) (hs : Heap.SameBut a h h') (haL : a ≠ L) (ha0 : h₀.get? a = none) : Fr h₀ L h' m :=
  ⟨F.ns.sameBut hs (Ne.symm haL), fun b o x => hs.extBut b o (fun q => by rw [q, ha0] at x; cases x) (F.keep b o x), F.above⟩
theorem mem_setL {p : Addr × Obj} (hp : p ∈ news) (hne : p.1 ≠ a) : p ∈ setL a o news := List.mem_map.mpr ⟨p, hp, by simp [hne]⟩
end

theorem gCallName1 {M : Model} {A : Around} {E : Value → Shared → Prop} {s : Shared} {env : Env} {f : Str} {p pos : Pos} {e : Expr} {Q : Value → Shared → Prop} (hs : starEach [e] env = [(false, eval e env)])
    (h : wpAny M A (eval (.Name f p) env) (fun v s₁ => wpG M A (callWith pos v [] [(false, eval e env)] []) Q E s₁) E s) :
    wpG M A (eval (.Call (.Name f p) [e] [] pos) env) Q E s := by
  show wpG M A (do callWith pos (← eval (.Name f p) env) [] (backTo pos (starEach [e] env)) (backToKw pos (keywordEach [] env))) Q E s
  rw [hs]
  exact gThen h

section
variable {w : World} {s : Shared} {h₀ : Heap} {L l it : Addr} {lastV : Value} {lineV matchV : Option Value} {news : List (Addr × Obj)} {mg mb : Str → Option Value} {mean : ExcName → Option Value} {A : Around} {E : Value → Shared → Prop}

def fMakeBa : Stmt := (ifThen (fThen.getD 1 (.Pass default))).getD 0 (.Pass default)
example : (ifThen (fThen.getD 1 (.Pass default))).length = 1 := rfl

set_option maxHeartbeats 4000000 in
theorem fold_ba {fl : List Env} {b : Array UInt8} {t : Tok} {Q : Flow → Shared → Prop} (r : Rm A fl) (X : (Mine.hd.heap_39 w.params).In h₀) (T : Top view₀ (looseW view₀ loose₀) mean mg mb h₀) (F : Fr h₀ L s.heap (foldMap l it (.bytes b t) lineV matchV)) (N : News h₀ L s.heap news) (hz : b.size ≤ 1000)
    (h : ∀ h' tk a, Fr h₀ L h' (foldMap l it (.ref a) lineV matchV) → News h₀ L h' ((a, baObj b) :: news) → s.heap.get? a = none → Q .next { s with heap := h', toks := tk }) :
    wpG (mdl prog₀ w) A (exec fMakeBa (foldEnv L)) Q E s := by
  show wpG _ _ (exec (Stmt.Assign [Expr.Name _ _] (Expr.Call (Expr.Name _ _) [Expr.Name _ _] [] _) _) (envOf _ { kind := _, names := _, isGenerator := _, isCoroutine := _, more := _ } _ _ _)) _ _ _
  refine gAssign (gCallName1 rfl ?_)
  repeat' (first | walk1 | (dsimp only; walk1))
  refine gCallWithOwn rfl rfl (Calls.evalArgs_plain (Calls.spliced_cons ?_))
  repeat' (first | walk1 | (dsimp only; walk1))
  refine Calls.spliced_nil ?_
  refine gNewBa r hz fun a h' k ha hn hk => ?_
  have F' := frExt (by assumption : Fr h₀ L s.heap (foldMap l it (.bytes b t) lineV matchV)) hk
  refine stN F' (newsCons (by assumption) (newsExt N hk) ha hn) fun h₂ F₂ N₂ => ?_
  rw [map_last] at F₂
  exact h h₂ _ a F₂ N₂ hn

end
theorem mEnd (fs : Array Value) (k : Nat) (t : Tok) : Value.int (({ fields := fs, spans := Array.map Builtin.Re.reRawOf ((some #[rawInt 0, rawInt k]).getD #[]) } : Builtin.Re.ReFound).spans.getD (2 * 0 + 1) (-1)) t = Value.int k t := by
  congr 1
  show (Array.map Builtin.Re.reRawOf #[rawInt 0, rawInt k]).getD 1 (-1) = k
  rw [Array.getD_eq_getD_getElem?, Array.getElem?_map]
  rfl
local macro_rules | `(tactic| x_close) => `(tactic| exact ⟨_, _, mEnd _ _ _, rfl⟩)
set_option maxHeartbeats 4000000 in
theorem matchEnd (w : World) (s : Shared) (fl : List Env) (mt tup : Addr) (v : Value) (n k : Nat) (li : Int) (hm : s.heap.get? mt = some { cls := .type "re.Match", dict := none, data := .fields #[v, .ref 98, rawInt 0, rawInt n, rawInt li, .ref tup], slots := #[] })
    (ht : s.heap.get? tup = some { cls := .type "tuple", dict := none, data := .seq [rawInt 0, rawInt k].toArray 0, slots := #[] }) :
    wpAny (model prog₀ w) (A₉ fl) (call (.builtin "re.Match.end") [.ref mt]) (fun v s' => ∃ t tk, v = .int k t ∧ s' = { s with toks := tk }) (fun _ _ => False) s := by
  x_run

theorem slot_ba_getitem : Slot "bytearray" "__getitem__" "bytearray.__getitem__" :=
  .of (owner := "bytearray") (n := "__getitem__") (by rw [typeLookup_type, builtinLookup_eq_fast]; kernel_rfl) (by decide +kernel) (by decide +kernel) (by decide +kernel)
    (by first | exact .inl (by decide +kernel) | exact .inr (by decide +kernel)) (by rw [isSubtype_type]; kernel_rfl)
theorem entry_ba_getitem : entryFor table "bytearray.__getitem__" = some Builtin.«bytearray.__getitem__» := entryFor_of_tree (by kernel_rfl)

theorem baCut {w : World} {A : Around} {E : Value → Shared → Prop} {s : Shared} {a sl : Addr} {b : Array UInt8} {l u : Value} {lo hi : Option Int} {Q : Value → Shared → Prop} (hl : IsPart l lo) (hu : IsPart u hi) (ha : s.heap.get? a = some (baObj b)) (hsl : s.heap.IsSliceOf sl l u .none) (hz : b.size ≤ 1000)
    (h : Q (.ref s.heap.objs.size) { s with heap := s.heap.push (baObj (KBy.picked b lo hi)) }) : wpAny (model prog₀ w) A (call (.builtin "bytearray.__getitem__") [.ref a, .ref sl]) Q E s := by
  refine wpAny_call_entry slot_ba_getitem (baType ha) entry_ba_getitem ?_ (by unfold argsOk; kernel_rfl)
  obtain ⟨o, ho, hc, hd⟩ := hsl
  have hT : s.TypeIs (.ref sl) "slice" := ⟨o, ho, hc⟩
  show wpAny _ _ (Bytes.subscript? (.ref sl) >>= fun r => _) _ _ s
  refine wpAny_bind ?_
  unfold Bytes.subscript?
  refine wpAny_bind (wpAny_specialOf hT slice_no_index (wpAny_pure ?_))
  refine wpAny_bind (wpAny_typeOf hT ?_)
  show wpAny _ _ (Bytes.sliceParts (.ref sl) >>= fun r => _) _ _ s
  refine wpAny_bind ?_
  unfold Bytes.sliceParts
  refine wpAny_bind (wpAny_field (x := .none) ho hd rfl ?_)
  kby_none
  refine wpAny_ite (KBy.ite_no (show ¬ ((Value.none == rawInt 0) = true) from Bool.false_ne_true) ?_)
  refine wpAny_bind (wpAny_field (x := l) ho hd rfl ?_)
  have go : wpAny (model prog₀ w) A.in1 (sliceIndices (rawPart lo) (rawPart hi) (rawPart none) b.size) (fun r s' => r = sliceBounds lo hi none b.size ∧ s' = s) (fun _ _ => False) s :=
    wpAny_of_eq (sliceIndices_raw lo hi none b.size (fun e => nomatch e)) ⟨rfl, rfl⟩
  have hsz : sizeOk (Data.bytearray (KBy.picked b lo hi)) := by
    show (KBy.picked b lo hi).size ≤ sizeLine
    exact Nat.le_trans (KBc.size_picked_le b lo hi) (by rw [sizeLine_eq]; omega)
  cases hl <;> cases hu <;> (first
    | (kby_none; (refine wpAny_bind (wpAny_field (x := .none) ho hd rfl ?_)); kby_none)
    | (kby_none; (refine wpAny_bind (wpAny_field (x := .int _ _) ho hd rfl ?_)); kby_int)
    | (kby_int; (refine wpAny_bind (wpAny_field (x := .none) ho hd rfl ?_)); kby_none)
    | (kby_int; (refine wpAny_bind (wpAny_field (x := .int _ _) ho hd rfl ?_)); kby_int)) <;> refine wpAny_pure ?_
  all_goals
    refine wpAny_bind (payRef ha ?_)
    refine wpAny_bind (wpAny_mono go (fun r s' hr => ?_) fun _ _ e => e.elim)
    obtain ⟨hr1, hr2⟩ := hr
    subst hr1 hr2
    unfold Bytes.newBytearray
    refine wpAny_bind (wpAny_newObj_type ?_ hsz)
    exact wpAny_pure ⟨_, rfl, h⟩

section
variable {w : World} {s : Shared} {h₀ : Heap} {L l it : Addr} {lastV : Value} {lineV matchV : Option Value} {news : List (Addr × Obj)} {mg mb : Str → Option Value} {mean : ExcName → Option Value} {A : Around} {E : Value → Shared → Prop}
def fAddSp : Stmt := fThen.getD 2 (.Pass default)
def fAddRest : Stmt := fThen.getD 3 (.Pass default)
set_option maxHeartbeats 4000000 in
theorem fold_sp {b : Array UInt8} {a : Addr} {Q : Flow → Shared → Prop} (hg : A.guards = some []) (F : Fr h₀ L s.heap (foldMap l it (.ref a) lineV matchV)) (N : News h₀ L s.heap news) (hz : b.size ≤ 990)
    (ha : s.heap.get? a = some (baObj b)) (haL : a ≠ L) (ha0 : h₀.get? a = none)
    (h : ∀ h' tk, Fr h₀ L h' (foldMap l it (.ref a) lineV matchV) → News h₀ L h' (setL a (baObj (b ++ #[32])) news) → h'.get? a = some (baObj (b ++ #[32])) → Q .next { s with heap := h', toks := tk }) :
    wpG (mdl prog₀ w) A (exec fAddSp (foldEnv L)) Q E s := by
  show wpG _ _ (exec (Stmt.AugAssign (Expr.Name _ _) _ (Expr.Constant _ _ _) _) (envOf _ { kind := _, names := _, isGenerator := _, isCoroutine := _, more := _ } _ _ _)) _ _ _
  refine gAugAssign ?_
  refine ldn F (by rfl) ?_
  refine Constant_bytes ?_
  refine gIadd (s := { s with toks := s.toks + 1 }) hg ha (.inl ⟨_, rfl⟩) (fun q => nomatch q) (by show b.size + 1 ≤ 1000; omega) fun h' ha' hs => ?_
  have F' := frSet F hs haL ha0
  have N' := newsSet N hs ha' haL ha0
  obtain ⟨oL, es, ep, hoL, hr⟩ := F'.ns
  refine wpAny_storeName_local (by rfl) F'.ns (fun h₂ hn₂ hs₂ => ?_) (by rfl)
  have F₂ := F'.set hn₂ hs₂
  rw [map_last] at F₂
  exact h h₂ _ F₂ (N'.set hs₂) ((hs₂.2 a haL).trans ha')

/-- the rest of a line behind its blanks -/
abbrev restOf (b : Array UInt8) (k : Nat) : Array UInt8 := KBy.picked b (some (k : Int)) none
def fRest : Expr := match fAddRest with
  | .AugAssign _ _ v _ => v
  | _ => .Constant .none 0 default
set_option maxHeartbeats 4000000 in
theorem fold_rest {fl : List Env} {b : Array UInt8} {v : Value} {mt tup : Addr} {li : Int} {k : Nat} {Q : Value → Shared → Prop} (r : Rm A fl) (X : (Mine.hd.heap_39 w.params).In h₀) (T : Top view₀ (looseW view₀ loose₀) mean mg mb h₀) (F : Fr h₀ L s.heap (foldMap l it lastV (some v) (some (.ref mt)))) (N : News h₀ L s.heap news)
    (hm : s.heap.get? mt = some (matObj v 98 b.size li tup)) (ht : s.heap.get? tup = some (tupObj [rawInt 0, rawInt k])) (hv : OctAt s.heap v b) (hz : b.size ≤ 1000)
    (h : ∀ h' tk v', Fr h₀ L h' (foldMap l it lastV (some v) (some (.ref mt))) → News h₀ L h' news → (∀ x o, s.heap.get? x = some o → h'.get? x = some o) → OctAt h' v' (restOf b k) → (∀ a, v' = .ref a → s.heap.get? a = none) → Q v' { s with heap := h', toks := tk }) :
    wpAny (mdl prog₀ w) A (eval fRest (foldEnv L)) Q E s := by
  show wpAny _ _ (eval (Expr.Subscript _ _ _) (envOf _ { kind := _, names := _, isGenerator := _, isCoroutine := _, more := _ } _ _ _)) _ _ _
  repeat' (first | walk1 | (dsimp only; walk1))
  refine getMethod_builtin ⟨_, hm, rfl⟩ plain_re_Match slot_re_Match_end type_re_Match_end (fun a e => by cases e; exact ⟨_, hm, rfl⟩) ?_
  dsimp only
  repeat' (first | walk1 | (dsimp only; walk1))
  refine lift (r.any (wpAny_mono (matchEnd w s fl mt tup v b.size k li hm ht) ?_ fun _ _ x => x.elim))
  rintro v₂ s₂ ⟨t, tk, rfl, rfl⟩
  repeat' (first | walk1 | (dsimp only; walk1))
  have hk : ∀ x o, s.heap.get? x = some o → (s.heap.push { cls := .type "slice", data := .fields #[Value.int (↑k) t, .none, .none] }).get? x = some o := fun x o hx => Heap.get?_push_of_some _ hx
  rcases hv with ⟨tv, rfl⟩ | ⟨a, rfl, ha⟩
  · refine lift (tail_of_ItemOn (ops := [.ref s.heap.objs.size, .bytes b tv]) ⟨"bytes", _, FB.slot_bytes_getitem.lookup, typeIs_bytes _ _ _, getItem_meets (typeIs_bytes _ _ _) (by decide) FB.slot_bytes_getitem FB.entry_bytes_getitem (FB.args_bytes_getitem_2 _ _) (KBc.meets_slice2 b tv _ (.int k t) .none)
      ⟨Heap.IsSliceOf.new _ _ _ _, Nat.le_trans (KBc.size_picked_le b _ _) (by rw [sizeLine_eq]; omega), fun t' k' => ?_⟩⟩ (by with_unfolding_all rfl) (by intro _; with_unfolding_all rfl))
    exact h _ _ _ (F.push _) (newsExt N hk) hk (.inl ⟨t', rfl⟩) (fun a e => nomatch e)
  · refine lift (tail_of_ItemOn (ops := [.ref s.heap.objs.size, .ref a]) ⟨"bytearray", _, slot_ba_getitem.lookup, baType (hk _ _ ha), wpAny_getItem_slot (baType (hk _ _ ha)) (by decide) slot_ba_getitem (baCut (.int k t) .none (hk _ _ ha) (Heap.IsSliceOf.new _ _ _ _) hz ?_)⟩ (by with_unfolding_all rfl) (by intro _; with_unfolding_all rfl))
    have hk₂ : ∀ x o, s.heap.get? x = some o → ((s.heap.push { cls := .type "slice", data := .fields #[Value.int (↑k) t, .none, .none] }).push (baObj (restOf b k))).get? x = some o := fun x o hx => Heap.get?_push_of_some _ (hk x o hx)
    refine h _ _ _ (frExt F hk₂) (newsExt N hk₂) hk₂ (.inr ⟨_, rfl, Heap.get?_push_size _ rfl⟩) fun x e => ?_
    cases e
    refine Heap.get?_none_of_le ?_
    simp [Heap.push]
end
end Mine

end
section
open PySem PySem.W PySem.W.X PySem.Calls PyProof.Rows PySem.Builtin
set_option maxRecDepth 100000
namespace Mine
theorem warm5 : (∀ P, Mine.hd.heap_39 P = Mine.hd.heap_39 P) ∧ PySem.Challenge.rw_ae6005_01 = PySem.Challenge.rw_ae6005_01 := by
  k_fill
  exact ⟨fun _ => rfl, rfl⟩

section
variable {w : World} {s : Shared} {h₀ : Heap} {L l it : Addr} {lastV : Value} {lineV matchV : Option Value} {news : List (Addr × Obj)} {mg mb : Str → Option Value} {mean : ExcName → Option Value} {A : Around} {E : Value → Shared → Prop}

theorem map_last' (l it : Addr) (lineV matchV : Option Value) (v : Value) : (fun y => if y = Str.ofString "last" then some v else foldMap l it lastV lineV matchV y) = foldMap l it v lineV matchV := map_last ..

set_option maxHeartbeats 4000000 in
theorem fold_add {fl : List Env} {b c : Array UInt8} {v : Value} {a mt tup : Addr} {li : Int} {k : Nat} {Q : Flow → Shared → Prop} (r : Rm A fl) (X : (Mine.hd.heap_39 w.params).In h₀) (T : Top view₀ (looseW view₀ loose₀) mean mg mb h₀) (F : Fr h₀ L s.heap (foldMap l it (.ref a) (some v) (some (.ref mt)))) (N : News h₀ L s.heap news)
    (hm : s.heap.get? mt = some (matObj v 98 b.size li tup)) (ht : s.heap.get? tup = some (tupObj [rawInt 0, rawInt k])) (hv : OctAt s.heap v b) (hz : c.size + b.size ≤ 1000) (ha : s.heap.get? a = some (baObj c)) (haL : a ≠ L) (ha0 : h₀.get? a = none)
    (h : ∀ h' tk, Fr h₀ L h' (foldMap l it (.ref a) (some v) (some (.ref mt))) → News h₀ L h' (setL a (baObj (c ++ restOf b k)) news) → h'.get? a = some (baObj (c ++ restOf b k)) → Q .next { s with heap := h', toks := tk }) :
    wpG (mdl prog₀ w) A (exec fAddRest (foldEnv L)) Q E s := by
  show wpG _ _ (exec (Stmt.AugAssign (Expr.Name _ _) .Add fRest _) (envOf _ { kind := _, names := _, isGenerator := _, isCoroutine := _, more := _ } _ _ _)) _ _ _
  refine gAugAssign ?_
  refine ldn F (by rfl) ?_
  refine fold_rest r X T F N hm ht hv (by omega) fun h₁ tk₁ v' F₁ N₁ hk₁ hv' hn' => ?_
  have hz' : (restOf b k).size ≤ b.size := KBc.size_picked_le b _ _
  have hne : v' ≠ .ref a := fun q => by have := hn' a q; rw [ha] at this; cases this
  refine gIadd (s := { s with heap := h₁, toks := tk₁ }) r.guards (hk₁ _ _ ha) hv' hne (by omega) fun h' ha' hs => ?_
  have F' := frSet F₁ hs haL ha0
  have N' := newsSet N₁ hs ha' haL ha0
  refine wpAny_storeName_local (by rfl) F'.ns (fun h₂ hn₂ hs₂ => ?_) (by rfl)
  have F₂ := F'.set hn₂ hs₂
  rw [map_last] at F₂
  exact h h₂ _ F₂ (N'.set hs₂) ((hs₂.2 a haL).trans ha')

def fSetLast : Stmt := fElse.getD 1 (.Pass default)
set_option maxHeartbeats 4000000 in
theorem fold_last {v : Value} {Q : Flow → Shared → Prop} (F : Fr h₀ L s.heap (foldMap l it lastV (some v) matchV)) (N : News h₀ L s.heap news)
    (h : ∀ h' tk, Fr h₀ L h' (foldMap l it v (some v) matchV) → News h₀ L h' news → Q .next { s with heap := h', toks := tk }) :
    wpAny (mdl prog₀ w) A (exec fSetLast (foldEnv L)) Q E s := by
  show wpAny _ _ (exec (Stmt.Assign [Expr.Name _ _] (Expr.Name _ _) _) (envOf _ { kind := _, names := _, isGenerator := _, isCoroutine := _, more := _ } _ _ _)) _ _ _
  refine wpAny_Assign_Name (ld F (by rfl) ?_)
  refine stN F N fun h' F' N' => ?_
  rw [map_last] at F'
  exact h h' _ F' N'

def fRaise : Stmt := (ifThen (fThen.getD 0 (.Pass default))).getD 0 (.Pass default)
example : (ifThen (fThen.getD 0 (.Pass default))).length = 1 := rfl
theorem pk_lpe (w : World) (L : Addr) : PK w (loadName (foldEnv L) (Str.ofString "LocalProtocolError")) (.ref 78) := by kernel_rfl
set_option maxHeartbeats 4000000 in
theorem fold_raise {fl : List Env} {S : List Addr} {Q : Flow → Shared → Prop} (r : Rk 6 A fl) (X : (Mine.hd.heap_39 w.params).In s.heap) (nl : s.heap.NoLimit)
    (h : ∀ e d h' tk, Flying [] S s.heap e d none h' → E (.ref e) { s with heap := h', toks := tk }) :
    wpAny (mdl prog₀ w) A (exec fRaise (foldEnv L)) Q E s := by
  show wpAny _ _ (exec (Stmt.Raise (some (Expr.Call (Expr.Name _ _) [Expr.Constant (.str _) _ _] [] _)) none _) _) _ _ _
  refine lift (raiseExc r X nl (fun hq => wpAny_Name ((pkLooks X (pk_lpe w L)) _ _ _ _ (fun _ _ x => x) hq) (by decide)) rfl (fun hq => Calls.Constant_str (hq _ _)) h)
end
end Mine

end
section
open PySem PySem.W PySem.W.X PySem.Calls PyProof.Rows PySem.Builtin
set_option maxRecDepth 100000
namespace Mine

abbrev Oct := Array UInt8
abbrev leadN (b : Oct) : Nat := Rx.lead (b.map (·.toNat))
/-- a line with a continuation joined to it -/
def glue (a b : Oct) : Oct := (a ++ #[32]) ++ restOf b (leadN b)
/-- what the fold tells, and whether it refuses then -/
def foldOut : Option Oct → List Oct → List Oct × Bool
  | none, [] => ([], false)
  | some a, [] => ([a], false)
  | none, b :: bs => if leadN b = 0 then foldOut (some b) bs else ([], true)
  | some a, b :: bs => if leadN b = 0 then (a :: (foldOut (some b) bs).1, (foldOut (some b) bs).2) else foldOut (some (glue a b)) bs

/-- all that stands over the base, but the frame -/
def full (h₀ : Heap) (L : Addr) (h : Heap) : List (Addr × Obj) := (List.range h.objs.size).filterMap fun b => if b = L ∨ (h₀.get? b).isSome = true then none else (h.get? b).map (Prod.mk b)
theorem news_full (h₀ : Heap) (L : Addr) (h : Heap) : News h₀ L h (full h₀ L h) := fun p hp => by
  obtain ⟨b, _, hb⟩ := List.mem_filterMap.mp hp
  split at hb
  · cases hb
  · rename_i hn
    obtain ⟨o, ho, rfl⟩ := Option.map_eq_some_iff.mp hb
    refine ⟨ho, fun e => hn (.inl e), ?_⟩
    cases q : h₀.get? b with
    | none => rfl
    | some o' => exact absurd (.inr (by rw [q]; rfl)) hn
theorem mem_full {h₀ h : Heap} {L b : Addr} {o : Obj} (hb : h.get? b = some o) (hL : b ≠ L) (h0 : h₀.get? b = none) : (b, o) ∈ full h₀ L h :=
  List.mem_filterMap.mpr ⟨b, List.mem_range.mpr (Heap.lt_size hb), by rw [if_neg (by rw [h0]; simp [hL])]; rw [hb]; rfl⟩
/-- what a walk over the full ledger keeps -/
theorem keep_full {h₀ h h' : Heap} {L : Addr} {m' : Str → Option Value} {led : List (Addr × Obj)} (F' : Fr h₀ L h' m') (K : ∀ b o, h₀.get? b = some o → h.get? b = some o) (N : News h₀ L h' led) {X : Addr → Prop} (hs : ∀ p ∈ full h₀ L h, ¬ X p.1 → p ∈ led) :
    ∀ b o, b ≠ L → ¬ X b → h.get? b = some o → h'.get? b = some o := fun b o hL hX hb => by
  cases q : h₀.get? b with
  | none => exact (N _ (hs _ (mem_full hb hL q) hX)).1
  | some o' => have := K _ _ q; rw [hb] at this; cases this; exact F'.keep _ _ q

theorem OctAt.keep {h h' : Heap} {v : Value} {b : Oct} (x : OctAt h v b) (k : ∀ a, v = .ref a → ∀ o, h.get? a = some o → h'.get? a = some o) : OctAt h' v b := by
  rcases x with ⟨t, rfl⟩ | ⟨a, rfl, ha⟩
  · exact .inl ⟨t, rfl⟩
  · exact .inr ⟨a, rfl, k a rfl _ ha⟩

section
variable {w : World} {s : Shared} {h₀ : Heap} {L l it : Addr} {lastV : Value} {lineV matchV : Option Value} {news : List (Addr × Obj)} {mg mb : Str → Option Value} {mean : ExcName → Option Value} {A : Around} {E : Value → Shared → Prop}

/-- the frame is no bytearray -/
theorem baNotFrame {h : Heap} {m : Str → Option Value} {a : Addr} {b : Oct} (F : Fr h₀ L h m) (ha : h.get? a = some (baObj b)) : a ≠ L := by
  rintro rfl
  obtain ⟨o, es, ep, ho, hd, _⟩ := F.ns
  rw [ha] at ho; cases ho; cases hd

theorem gluesG {fl : List Env} {b c : Oct} {v : Value} {a mt tup : Addr} {li : Int} {Q : Flow → Shared → Prop} (r : Rm A fl) (X : (Mine.hd.heap_39 w.params).In h₀) (T : Top view₀ (looseW view₀ loose₀) mean mg mb h₀) (F : Fr h₀ L s.heap (foldMap l it (.ref a) (some v) (some (.ref mt))))
    (hm : s.heap.get? mt = some (matObj v 98 b.size li tup)) (ht : s.heap.get? tup = some (tupObj [rawInt 0, rawInt (leadN b)])) (hmL : mt ≠ L) (htL : tup ≠ L) (hv : OctAt s.heap v b) (hz : c.size + b.size ≤ 980) (ha : s.heap.get? a = some (baObj c)) (ha0 : h₀.get? a = none) (hne : v ≠ .ref a)
    (h : ∀ h' tk, Fr h₀ L h' (foldMap l it (.ref a) (some v) (some (.ref mt))) → h'.get? a = some (baObj (glue c b)) → (∀ x o, x ≠ L → x ≠ a → s.heap.get? x = some o → h'.get? x = some o) → Q .next { s with heap := h', toks := tk }) :
    wpG (mdl prog₀ w) A (execs [fAddSp, fAddRest] (foldEnv L)) Q E s := by
  have haL := baNotFrame F ha
  have sub : ∀ {o : Obj} {h : Heap}, ∀ p ∈ full h₀ L h, ¬ (p.1 = a) → p ∈ setL a o (full h₀ L h) := fun p hp hX => mem_setL hp hX
  refine gExecs (fold_sp r.guards F (news_full h₀ L s.heap) (by omega) ha haL ha0 fun h₁ tk₁ F₁ N₁ ha₁ => ?_)
  have k₁ := keep_full (X := (· = a)) F₁ F.keep N₁ sub
  have hma : mt ≠ a := by rintro rfl; exact nomatch (congrArg Obj.data (Option.some.inj (hm.symm.trans ha)))
  have hta : tup ≠ a := by rintro rfl; exact nomatch (congrArg Obj.data (Option.some.inj (ht.symm.trans ha)))
  have hv₁ : OctAt h₁ v b := hv.keep fun x e o ho => by
    subst e
    have hx : x ≠ a := fun q => hne (by rw [q])
    refine k₁ x o ?_ hx ho
    rcases hv with ⟨t, e⟩ | ⟨y, e, hy⟩
    · cases e
    · cases e; exact baNotFrame F hy
  refine gExecs (fold_add (s := { s with heap := h₁, toks := tk₁ }) r X T F₁ (news_full h₀ L h₁) (k₁ _ _ hmL hma hm) (k₁ _ _ htL hta ht) hv₁ (by rw [Array.size_append]; show c.size + 1 + b.size ≤ 1000; omega) ha₁ haL ha0 fun h₂ tk₂ F₂ N₂ ha₂ => ?_)
  have k₂ := keep_full (X := (· = a)) F₂ F₁.keep N₂ sub
  exact gExecsNil (h h₂ tk₂ F₂ ha₂ fun x o hL hX hx => k₂ x o hL hX (k₁ x o hL hX hx))

theorem fThen_eq : fThen = [fThen.getD 0 (.Pass default), fThen.getD 1 (.Pass default), fAddSp, fAddRest] := rfl

set_option maxHeartbeats 1000000 in
theorem thenG {fl : List Env} {S : List Addr} {last : Option Oct} {b : Oct} {v : Value} {mt tup : Addr} {li : Int} {Q : Flow → Shared → Prop} (r : Rk 6 A fl) (X : (Mine.hd.heap_39 w.params).In h₀) (T : Top view₀ (looseW view₀ loose₀) mean mg mb h₀) (nl : h₀.NoLimit)
    (F : Fr h₀ L s.heap (foldMap l it lastV (some v) (some (.ref mt)))) (hm : s.heap.get? mt = some (matObj v 98 b.size li tup)) (ht : s.heap.get? tup = some (tupObj [rawInt 0, rawInt (leadN b)])) (hmL : mt ≠ L) (htL : tup ≠ L) (hv : OctAt s.heap v b)
    (hl : match last with | none => lastV = .none | some c => OctAt s.heap lastV c) (hz : ∀ c, last = some c → c.size + b.size ≤ 980) (ha0 : ∀ a, lastV = .ref a → h₀.get? a = none) (hne : ∀ a, lastV = .ref a → v ≠ .ref a)
    (hbad : last = none → ∀ e d h' tk, Flying [] S s.heap e d none h' → E (.ref e) { s with heap := h', toks := tk })
    (h : ∀ c, last = some c → ∀ a h' tk, Fr h₀ L h' (foldMap l it (.ref a) (some v) (some (.ref mt))) → h'.get? a = some (baObj (glue c b)) → (∀ x o, x ≠ L → lastV ≠ .ref x → s.heap.get? x = some o → h'.get? x = some o) → (lastV = .ref a ∨ (s.heap.get? a = none ∧ ∀ x, lastV ≠ .ref x)) →
      Q .next { s with heap := h', toks := tk }) :
    wpG (mdl prog₀ w) A (execs fThen (foldEnv L)) Q E s := by
  have rm := r.rm
  rw [fThen_eq]
  refine gExecs ?_
  show wpG _ _ (exec (Stmt.If fNone [fRaise] [] _) _) _ _ _
  refine gIf (toG (testNone (b := last) F hl ?_))
  cases last with
  | none =>
    show wpG _ _ (execs [fRaise] _) _ _ _
    exact gStep (fold_raise r (X.keeps F.keep) (nl.keeps F.keep) (hbad rfl))
  | some c =>
    show wpG _ _ (execs [] _) _ _ _
    refine gExecsNil ?_
    refine gExecs ?_
    show wpG _ _ (exec (Stmt.If fNotBa [fMakeBa] [] _) _) _ _ _
    refine gIf (toG (testNotBa rm X T F (news_full h₀ L s.heap) hl fun tk => ?_))
    have hz := hz c rfl
    rcases hl with ⟨t, rfl⟩ | ⟨a, rfl, ha⟩
    · show wpG _ _ (execs [fMakeBa] _) _ _ _
      refine gExecs (fold_ba (s := { s with toks := tk }) rm X T F (news_full h₀ L s.heap) (by omega) fun h₁ tk₁ a F₁ N₁ hn => ?_)
      refine gExecsNil ?_
      have k₁ := keep_full (X := fun _ => False) F₁ F.keep N₁ fun p hp _ => .tail _ hp
      have ha₁ : h₁.get? a = some (baObj c) := (N₁ _ (.head _)).1
      have hL₁ : ∀ {x o}, s.heap.get? x = some o → x ≠ a := fun {x o} hx q => by rw [q] at hx; rw [hn] at hx; cases hx
      have hvk : OctAt h₁ v b := hv.keep fun x e o ho => by
        subst e
        refine k₁ x o ?_ id ho
        rcases hv with ⟨t, e⟩ | ⟨y, e, hy⟩
        · cases e
        · cases e; exact baNotFrame F hy
      refine gluesG (s := { s with heap := h₁, toks := tk₁ }) rm X T F₁ (k₁ _ _ hmL id hm) (k₁ _ _ htL id ht) hmL htL hvk hz ha₁ ?_ ?_ fun h₂ tk₂ F₂ ha₂ k₂ => ?_
      · cases q : h₀.get? a with
        | none => rfl
        | some o => exact absurd rfl (hL₁ (F.keep _ _ q))
      · rintro rfl
        rcases hv with ⟨t, e⟩ | ⟨y, e, hy⟩
        · cases e
        · cases e; exact hL₁ hy rfl
      · exact h c rfl a h₂ tk₂ F₂ ha₂ (fun x o hL _ hx => k₂ x o hL (hL₁ hx) (k₁ x o hL id hx)) (.inr ⟨hn, fun _ e => nomatch e⟩)
    · show wpG _ _ (execs [] _) _ _ _
      refine gExecsNil ?_
      refine gluesG (s := { s with toks := tk }) rm X T F hm ht hmL htL hv hz ha (ha0 a rfl) (hne a rfl) fun h₂ tk₂ F₂ ha₂ k₂ => ?_
      exact h c rfl a h₂ tk₂ F₂ ha₂ (fun x o hL hX hx => k₂ x o hL (fun q => hX (by rw [q])) hx) (.inl rfl)
end
end Mine

end
section
open PySem PySem.W PySem.W.X PySem.Calls PyProof.Rows PySem.Builtin
set_option maxRecDepth 100000
namespace Mine

/-- the frame of a function under one of its loops -/
abbrev under1 (kont : Result → Sem Fin) (lv : List Value) (body : List Stmt) (env : Env) (p : Pos) : List Frame := [.ret kont none false lv (.func body env) p []]

theorem Rk.loop {k : Nat} {A : Around} {fl : List Env} {target : Expr} {it : Value} {b1 o1 body : List Stmt} {env : Env} {kont : Result → Sem Fin} {lv : List Value} {p : Pos} (r : Rk (k + 1) A fl) :
    Rk k (A.over (.forLoop target it b1 o1 env) (under1 kont lv body env p)) (env :: fl) := by
  refine ⟨?_, ?_, ?_, ?_, ?_⟩
  · show (marksOver _ (A.handled, A.handled)).1 = none
    rw [r.hd]; rfl
  · have := r.depth
    show A.depth + 1 + 0 + k ≤ 900
    omega
  · show pushEnvs [] (pushEnvs [env] A.frames) = _
    rw [r.frames]; rfl
  · show pushGuards [] (pushGuards [] A.guards) = _
    exact r.guards
  · have := r.units
    show A.units + 3 + 0 + 50 * k ≤ 9000
    omega
theorem Rk.func {k : Nat} {A : Around} {fl : List Env} {body : List Stmt} {env : Env} (r : Rk (k + 1) A fl) : Rk k (A.over (.func body env) []) (env :: fl) := by
  refine ⟨?_, ?_, ?_, ?_, ?_⟩
  · show (marksOver [] (A.handled, A.handled)).1 = none
    exact r.hd
  · have := r.depth
    show A.depth + 0 + 1 + k ≤ 900
    omega
  · show pushEnvs [env] A.frames = _
    rw [r.frames]; rfl
  · exact r.guards
  · have := r.units
    show A.units + 0 + 3 + 50 * k ≤ 9000
    omega

section
variable {M : Model} {A : Around} {c : Code} {fs : List Frame} {s : Shared} {P : End → Shared → Prop} {env : Env} {outer : List Env} {hr base : Heap} {e d L : Addr} {PP S : List Addr}

theorem segRaise {x : Value} (h : SegG M A c (leafOf (.error x)) fs s P) : SegG M A c (.raise x) fs s P := h

/-- a turn's exception notes the loop's frame -/
theorem notedSeg (hfr : (A.over c fs).frames = some (env :: outer)) (hl : s.heap.FunFrames base (env :: outer)) (hf : env.frame = some L) (hS : ∀ x ∈ framesOf (env :: outer), x ∈ S)
    (x : Flying PP S hr e d none s.heap) (hlow : ∀ b o, hr.get? b = some o → b < s.heap.objs.size)
    (h : ∀ h', Flying PP S hr e d (some (rawInt L)) h' → SegG M A c (leafOf (.error (.ref e))) fs { s with heap := h' } P) :
    SegG M A c (noted env (.ref e)) fs s P := by
  refine ggWrap (toG ?_)
  exact wpAny_bind (noteFrameF hfr hl hf hS x (.inl rfl) hlow fun h' x' => wpAny_theTreesLotGoes (h h' x'))

/-- the frame of the function sets the flight on -/
theorem popErr {K : Flow → Sem Fin} {H : Value → Sem Fin} (hf : env.frame = some L)
    (x : Flying PP S hr e d (some (rawInt L)) s.heap) (h : ∀ h', Flying PP S hr e d (some (rawInt L)) h' → SegG M A c (H (.ref e)) fs { s with heap := h' } P) :
    SegG M A c (((.raise (.ref e) : Sem Flow).onRaise fun (x : Value) => do
            if (← field x 1) == Value.none then unsupported "frame.own-activation:exception-without-traceback"
            setFlight x env.frame).wrap K H id id) fs s P := by
  refine ggWrap (toG (wpAny_onRaise (wpAny_throw (α := Flow) ?_)))
  obtain ⟨vs, he, hz, T, ts, hT, hTe, hTn, ho, h3⟩ := id x.exc
  refine wpAny_bind (wpAny_field he rfl hT ?_)
  rw [if_neg (show ¬ ((Value.ref T == Value.none) = true) from Bool.false_ne_true)]
  refine setFlightF x fun h' x' => ?_
  rw [hf] at x'
  exact h h' x'

theorem leaveSeg (hfr : (A.over c fs).frames = some (env :: outer)) (hl : s.heap.FunFrames base (env :: outer)) (hf : env.frame = some L) (hS : ∀ x ∈ framesOf (env :: outer), x ∈ S)
    (x : Flying PP S hr e d (some (rawInt L)) s.heap) (hlow : ∀ b o, hr.get? b = some o → b < s.heap.objs.size)
    (h : ∀ h', Flying PP S hr e d (some .none) h' → SegG M A c (leafOf (.error (.ref e))) fs { s with heap := h' } P) :
    SegG M A c ((leaving env (.ref e)).wrap (fun _ => .raise (.ref e)) .raise id id) fs s P :=
  ggWrap (toG (leavingF hfr hl hf hS x (.inr (.inr rfl)) hlow h))
end

/-- two values are not one object -/
def Apart (u v : Value) : Prop := ∀ a, u = .ref a → v ≠ .ref a
/-- the objects of the fold -/
structure FM (h₀ h : Heap) (L l it : Addr) (P : List Addr) (vals : List Value) (i : Nat) (vs : List Value) : Prop where
  list : h.IsList l vals.toArray
  iter : h.IsListIter it l i
  apart : (Value.ref L :: Value.ref l :: Value.ref it :: vs).Pairwise Apart
  mem : ∀ v ∈ Value.ref L :: Value.ref l :: Value.ref it :: vs, ∀ a, v = .ref a → a ∈ P
  fresh : ∀ a ∈ P, h₀.get? a = none
  there : ∀ a ∈ P, ∃ o, h.get? a = some o

section
variable {h₀ h h' : Heap} {L l it : Addr} {P : List Addr} {vals vs vs' : List Value} {i : Nat}
theorem FM.L_mem (x : FM h₀ h L l it P vals i vs) : L ∈ P := x.mem _ (.head _) _ rfl
theorem FM.l_mem (x : FM h₀ h L l it P vals i vs) : l ∈ P := x.mem _ (.tail _ (.head _)) _ rfl
theorem FM.it_mem (x : FM h₀ h L l it P vals i vs) : it ∈ P := x.mem _ (.tail _ (.tail _ (.head _))) _ rfl
theorem FM.l_ne (x : FM h₀ h L l it P vals i vs) : l ≠ L := fun e => (List.pairwise_cons.mp x.apart).1 _ (.head _) L rfl (by rw [e])
theorem FM.it_ne (x : FM h₀ h L l it P vals i vs) : it ≠ L := fun e => (List.pairwise_cons.mp x.apart).1 _ (.tail _ (.head _)) L rfl (by rw [e])
theorem FM.it_nel (x : FM h₀ h L l it P vals i vs) : l ≠ it := fun e => (List.pairwise_cons.mp (List.pairwise_cons.mp x.apart).2).1 _ (.head _) l rfl (by rw [e])
theorem FM.v_ne (x : FM h₀ h L l it P vals i vs) {v : Value} {a : Addr} (hv : v ∈ vs) (e : v = .ref a) : a ≠ L ∧ a ≠ l ∧ a ≠ it :=
  ⟨fun q => (List.pairwise_cons.mp x.apart).1 _ (.tail _ (.tail _ hv)) L rfl (by rw [e, q]), fun q => (List.pairwise_cons.mp (List.pairwise_cons.mp x.apart).2).1 _ (.tail _ hv) l rfl (by rw [e, q]),
    fun q => (List.pairwise_cons.mp (List.pairwise_cons.mp (List.pairwise_cons.mp x.apart).2).2).1 _ hv it rfl (by rw [e, q])⟩
theorem FM.vv (x : FM h₀ h L l it P vals i vs) : vs.Pairwise Apart := (List.pairwise_cons.mp (List.pairwise_cons.mp (List.pairwise_cons.mp x.apart).2).2).2
theorem FM.to (x : FM h₀ h L l it P vals i vs) (kl : ∀ o, h.get? l = some o → h'.get? l = some o) (ki : ∀ o, h.get? it = some o → h'.get? it = some o) (kt : ∀ a ∈ P, ∃ o, h'.get? a = some o) : FM h₀ h' L l it P vals i vs :=
  ⟨let ⟨o, a, b⟩ := x.list; ⟨o, kl _ a, b⟩, let ⟨o, a, b⟩ := x.iter; ⟨o, ki _ a, b⟩, x.apart, x.mem, x.fresh, kt⟩
theorem FM.less (x : FM h₀ h L l it P vals i vs) (hs : vs'.Sublist vs) : FM h₀ h L l it P vals i vs' :=
  ⟨x.list, x.iter, x.apart.sublist (((hs.cons_cons _).cons_cons _).cons_cons _), fun v hv => x.mem v ((((hs.cons_cons _).cons_cons _).cons_cons _).subset hv), x.fresh, x.there⟩
/-- a new object for the first -/
theorem FM.new (x : FM h₀ h L l it P vals i vs) {a : Addr} {o : Obj} (ha : h.get? a = some o) (h0 : h₀.get? a = none) (hn : a ∉ P) : FM h₀ h L l it (a :: P) vals i (.ref a :: vs) := by
  have ne : ∀ v ∈ Value.ref L :: Value.ref l :: Value.ref it :: vs, v ≠ .ref a := fun v hv e => hn (x.mem v hv a e)
  have hap := x.apart
  simp only [List.pairwise_cons] at hap ⊢
  refine ⟨x.list, x.iter, ?_, ?_, ?_, ?_⟩
  · have hh : ∀ {v : Value}, v ∈ Value.ref L :: Value.ref l :: Value.ref it :: vs → Apart v (.ref a) := fun {v} hv b e q => ne v hv (e.trans q.symm)
    simp only [List.pairwise_cons]
    obtain ⟨a1, a2, a3, a4⟩ := hap
    refine ⟨fun v hv => ?_, fun v hv => ?_, fun v hv => ?_, fun v hv b e q => ne v (.tail _ (.tail _ (.tail _ hv))) (q.trans e.symm), a4⟩
    · rcases List.mem_cons.mp hv with rfl | hv
      · exact a1 _ (.head _)
      rcases List.mem_cons.mp hv with rfl | hv
      · exact a1 _ (.tail _ (.head _))
      rcases List.mem_cons.mp hv with rfl | hv
      · exact hh (.head _)
      · exact a1 _ (.tail _ (.tail _ hv))
    · rcases List.mem_cons.mp hv with rfl | hv
      · exact a2 _ (.head _)
      rcases List.mem_cons.mp hv with rfl | hv
      · exact hh (.tail _ (.head _))
      · exact a2 _ (.tail _ hv)
    · rcases List.mem_cons.mp hv with rfl | hv
      · exact hh (.tail _ (.tail _ (.head _)))
      · exact a3 _ hv
  · intro v hv b e
    by_cases q : v = .ref a
    · rw [q] at e; cases e; exact .head _
    · refine .tail _ (x.mem v ?_ b e)
      simp only [List.mem_cons] at hv ⊢
      rcases hv with hv | hv | hv | hv | hv
      · exact .inl hv
      · exact .inr (.inl hv)
      · exact .inr (.inr (.inl hv))
      · exact absurd hv q
      · exact .inr (.inr (.inr hv))
  · intro b hb
    rcases List.mem_cons.mp hb with rfl | hb
    · exact h0
    · exact x.fresh b hb
  · intro b hb
    rcases List.mem_cons.mp hb with rfl | hb
    · exact ⟨_, ha⟩
    · exact x.there b hb
/-- the iterator steps -/
theorem FM.step (x : FM h₀ h L l it P vals i vs) (hi : h'.IsListIter it l (i + 1)) (hs : Heap.SameBut it h h') : FM h₀ h' L l it P vals (i + 1) vs := by
  refine ⟨x.list.extBut hs.extBut x.it_nel, hi, x.apart, x.mem, x.fresh, fun a ha => ?_⟩
  by_cases q : a = it
  · subst q; obtain ⟨o, ho, _⟩ := hi; exact ⟨o, ho⟩
  · obtain ⟨o, ho⟩ := x.there a ha; exact ⟨o, (hs.2 a q).trans ho⟩

/-- these are the octets of these -/
def Octs (h : Heap) : List Value → List Oct → Prop
  | [], [] => True
  | v :: vs, b :: bs => OctAt h v b ∧ Octs h vs bs
  | _, _ => False
theorem Octs.keep : ∀ {vs : List Value} {bs : List Oct}, Octs h vs bs → (∀ v ∈ vs, ∀ a, v = .ref a → ∀ o, h.get? a = some o → h'.get? a = some o) → Octs h' vs bs
  | [], [], _, _ => trivial
  | v :: vs, b :: bs, ⟨h1, h2⟩, k => ⟨h1.keep (k v (.head _)), Octs.keep h2 fun u hu => k u (.tail _ hu)⟩
  | [], _ :: _, x, _ => x.elim
  | _ :: _, [], x, _ => x.elim
end
def lastOct (h : Heap) (last : Option Oct) (v : Value) : Prop := match last with
  | none => v = .none
  | some b => OctAt h v b
def szOf (last : Option Oct) (rest : List Oct) : Nat := (last.elim 0 (·.size)) + (rest.map fun b => b.size + 1).sum
theorem glue_size (a b : Oct) : (glue a b).size ≤ a.size + 1 + b.size := by
  unfold glue
  rw [Array.size_append, Array.size_append]
  have := KBc.size_picked_le b (some (leadN b : Int)) none
  show a.size + 1 + _ ≤ _
  exact Nat.add_le_add_left this _
end Mine

end
section
open PySem PySem.W PySem.W.X PySem.Calls PyProof.Rows PySem.Builtin
set_option maxRecDepth 100000
namespace Mine

def forTarget : Stmt → Expr
  | .For t _ _ _ _ => t
  | _ => .Constant .none 0 default
def fTail : Stmt := foldBody.getD 3 (.Pass default)
abbrev fLoop (L it : Addr) : Code := .forLoop (forTarget (foldBody.getD 2 (.Pass default))) (.ref it) foldTurn [] (foldEnv L)
abbrev KF : Flow → Sem Fin := fun f => .pure (.done (.ret (match f with | .ret v => v | _ => .none)))
abbrev HF (env : Env) : Value → Sem Fin := fun e => (leaving env e).wrap (fun _ => .raise e) .raise id id
abbrev kontOf (env : Env) (K : Flow → Sem Fin) (H : Value → Sem Fin) : Result → Sem Fin := fun r => ((match r with | .ok f => (.pure f : Sem Flow) | .error e => .raise e).onRaise fun (x : Value) => do
            if (← field x 1) == Value.none then unsupported "frame.own-activation:exception-without-traceback"
            setFlight x env.frame).wrap K H id id
abbrev KT (env : Env) (rest : List Stmt) : Flow → Sem Fin := fun f => match f with | .next => (execs rest env).wrap KF (HF env) id id | f => KF f
abbrev fStack (L : Addr) (lv : List Value) (p : Pos) : List Frame := under1 (kontOf (foldEnv L) (KT (foldEnv L) [fTail]) (HF (foldEnv L))) lv foldBody (foldEnv L) p

structure FoldSt (h₀ : Heap) (outer : List Env) (L l it : Addr) (vals : List Value) (P P₁ : List Addr) (s s₁ : Shared) (i : Nat) (cur todo : List Value) (lastV : Value) (lineV matchV : Option Value) (last : Option Oct) (rest : List Oct) : Prop where
  fr : Fr h₀ L s₁.heap (foldMap l it lastV lineV matchV)
  fm : FM h₀ s₁.heap L l it P₁ vals i (lastV :: (cur ++ todo))
  todoEq : vals.drop i = todo
  lastAt : lastOct s₁.heap last lastV
  octs : Octs s₁.heap todo rest
  size : szOf last rest ≤ 900
  ff : s₁.heap.FunFrames h₀ outer
  out : ∀ x ∈ framesOf outer, x ∉ P₁
  woke : Woke P [] s s₁ P₁ []
  LP : L ∈ P
  sub : ∀ b ∈ P, b ∈ P₁

section
variable {h₀ : Heap} {outer : List Env} {L l it : Addr} {vals : List Value} {P P₁ : List Addr} {s s₁ s₂ : Shared} {i : Nat} {cur todo : List Value} {lastV : Value} {lineV matchV : Option Value} {last : Option Oct} {rest : List Oct}

theorem FoldSt.wakeAt (x : FoldSt h₀ outer L l it vals P P₁ s s₁ i cur todo lastV lineV matchV last rest) (a : AtW h₀ h₀ outer P₁ [] s₁ s₂) : FoldSt h₀ outer L l it vals P₁ P₁ s₂ s₂ i cur todo lastV lineV matchV last rest := by
  have kv : ∀ v ∈ lastV :: (cur ++ todo), ∀ b, v = .ref b → ∀ o, s₁.heap.get? b = some o → s₂.heap.get? b = some o := fun v hv b e o ho => a.own b o (x.fm.mem v (.tail _ (.tail _ (.tail _ hv))) b e) ho
  refine ⟨⟨x.fr.ns.at' fun o q => a.own _ _ x.fm.L_mem q, a.old, x.fr.above⟩, x.fm.to (fun o q => a.own _ _ x.fm.l_mem q) (fun o q => a.own _ _ x.fm.it_mem q) fun b hb => ?_, x.todoEq, ?_, x.octs.keep fun v hv => kv v (.tail _ (List.mem_append_right _ hv)), x.size, a.fr, x.out, Woke.refl _ _ _, x.fm.L_mem, fun b hb => hb⟩
  · obtain ⟨o, ho⟩ := x.fm.there b hb; exact ⟨o, a.own _ _ hb ho⟩
  · have := x.lastAt
    cases last with
    | none => exact this
    | some c => exact OctAt.keep this (kv _ (.head _))

/-- a flight within the wake, seen from its start -/
theorem flyOut {e d : Addr} {h' : Heap} {fl : Option Value} {env : Env} (hf : env.frame = some L) (W : Woke P [] s s₁ P₁ []) (LP : L ∈ P) (x : Flying [] (framesOf (env :: outer)) s₁.heap e d fl h') :
    Flying P (framesOf outer) s.heap e d fl h' := by
  have y := x.rebase (P := P) W.keep
  refine ⟨fun b o hP hS hb => y.keep b o hP (fun q => ?_) hb, y.slots, y.eNew, y.exc, y.hint⟩
  rw [show framesOf (env :: outer) = L :: framesOf outer from by simp [framesOf, hf]] at q
  rcases List.mem_cons.mp q with rfl | q
  · exact hP LP
  · exact hS q

theorem fframes {h : Heap} {m : Str → Option Value} (F : Fr h₀ L h m) (ff : h.FunFrames h₀ outer) (env : Env) (hk : env.scope.kind ≠ .module) (hf : env.frame = some L) : h.FunFrames h₀ (env :: outer) := by
  obtain ⟨o, es, ep, ho, hd, _⟩ := F.ns
  exact ⟨hk, ⟨L, o, hf, Heap.get?_none_of_le F.above, ho, fun vs q => by rw [hd] at q; cases q⟩, ff⟩

theorem Woke.slots {W' : Heap} {tk : Nat} (W : Woke P [] s s₁ P₁ []) (h : ∀ b o, b ∉ P₁ → s₁.heap.get? b = some o → W'.get? b = some o) (P₂ : List Addr) (hn : ∀ b, b ∈ P₂ → b ∈ P₁ ∨ s₁.heap.get? b = none) :
    Woke P [] s { s₁ with heap := W', toks := tk } P₂ [] := W.trans (.heap h hn)

/-- the frames below stand as they do -/
theorem FunFrames.kept {h h' : Heap} (ff : h.FunFrames h₀ outer) (out : ∀ x ∈ framesOf outer, x ∉ P₁) (k : ∀ b o, b ∉ P₁ → h.get? b = some o → h'.get? b = some o) : h'.FunFrames h₀ outer :=
  FunFrames.keepAt ff fun b o hb ho => k b o (out b hb) ho

/-- the state with another last line, or a longer one -/
theorem FoldSt.move {h' : Heap} {tk : Nat} {lastV' : Value} {lineV' matchV' : Option Value} {last' : Option Oct} {cur' todo' : List Value} {rest' : List Oct} {P₂ : List Addr} {j : Nat}
    (LP : L ∈ P) (sub : ∀ b ∈ P, b ∈ P₂) (W : Woke P [] s s₁ P₁ []) (ff : s₁.heap.FunFrames h₀ outer) (out : ∀ x ∈ framesOf outer, x ∉ P₁)
    (F : Fr h₀ L h' (foldMap l it lastV' lineV' matchV')) (M : FM h₀ h' L l it P₂ vals j (lastV' :: (cur' ++ todo'))) (ht : vals.drop j = todo') (hl : lastOct h' last' lastV') (ho : Octs h' todo' rest') (hz : szOf last' rest' ≤ 900)
    (k : ∀ b o, b ∉ P₁ → s₁.heap.get? b = some o → h'.get? b = some o) (hn : ∀ b, b ∈ P₂ → b ∈ P₁ ∨ s₁.heap.get? b = none)
    : FoldSt h₀ outer L l it vals P P₂ s { s₁ with heap := h', toks := tk } j cur' todo' lastV' lineV' matchV' last' rest' :=
  ⟨F, M, ht, hl, ho, hz, FunFrames.kept ff out k, fun x hx hP => (hn x hP).elim (out x hx) (fun q => by
    obtain ⟨_, o, ho, _⟩ := ff.mem hx; rw [q] at ho; cases ho), W.slots k P₂ hn, LP, sub⟩

/-- a step of the frame alone -/
theorem FoldSt.over {h' : Heap} {tk : Nat} {lineV' matchV' : Option Value} (z : FoldSt h₀ outer L l it vals P P₁ s s₁ i cur todo lastV lineV matchV last rest) (F : Fr h₀ L h' (foldMap l it lastV lineV' matchV'))
    (k : ∀ b o, b ≠ L → ¬ False → s₁.heap.get? b = some o → h'.get? b = some o) : FoldSt h₀ outer L l it vals P P₁ s { s₁ with heap := h', toks := tk } i cur todo lastV lineV' matchV' last rest := by
  refine FoldSt.move z.LP z.sub z.woke z.ff z.out F (z.fm.to (fun o q => k _ _ z.fm.l_ne id q) (fun o q => k _ _ z.fm.it_ne id q) fun a ha => ?_) z.todoEq ?_ (z.octs.keep fun u hu a e o q => k a o (z.fm.v_ne (.tail _ (List.mem_append_right _ hu)) e).1 id q) z.size
    (fun a o hP q => k a o (fun e => hP (e ▸ z.fm.L_mem)) id q) fun a q => .inl q
  · by_cases q : a = L
    · obtain ⟨o, _, _, ho, _⟩ := F.ns; rw [q]; exact ⟨o, ho⟩
    · obtain ⟨o, ho⟩ := z.fm.there a ha; exact ⟨o, k _ _ q id ho⟩
  · have := z.lastAt
    cases last with
    | none => exact this
    | some c => exact OctAt.keep this fun a e o q => k a o (z.fm.v_ne (.head _) e).1 id q
end
end Mine

end
section
open PySem PySem.W PySem.W.X PySem.Calls PyProof.Rows PySem.Builtin
set_option maxRecDepth 100000
namespace Mine
theorem warm6 : (∀ P, Mine.hd.heap_39 P = Mine.hd.heap_39 P) ∧ PySem.Challenge.rw_ae6005_01 = PySem.Challenge.rw_ae6005_01 := by
  k_fill
  exact ⟨fun _ => rfl, rfl⟩

section
variable {w : World} {A : Around} {h₀ : Heap} {outer : List Env} {L l it : Addr} {vals : List Value} {P P₁ : List Addr} {s s₁ s₂ : Shared} {i : Nat} {cur todo : List Value} {lastV : Value} {lineV matchV : Option Value} {last : Option Oct} {rest : List Oct}
  {mg mb : Str → Option Value} {mean : ExcName → Option Value} {lv : List Value} {p : Pos}

set_option maxHeartbeats 4000000 in
theorem testTail {s : Shared} {A : Around} {E : Value → Shared → Prop} {b : Option (Array UInt8)} {Q : Bool → Shared → Prop} (F : Fr h₀ L s.heap (foldMap l it lastV lineV matchV)) (hm : lastOct s.heap b lastV) (h : Q b.isSome s) :
    wpAny (mdl prog₀ w) A (isTrue (ifTestOf fTail) (foldEnv L) (eval (ifTestOf fTail) (foldEnv L))) Q E s := by
  show wpAny _ _ (isTrue (Expr.Compare _ _ _ _) (envOf _ { kind := _, names := _, isGenerator := _, isCoroutine := _, more := _ } _ _ _) (eval (Expr.Compare _ _ _ _) (envOf _ { kind := _, names := _, isGenerator := _, isCoroutine := _, more := _ } _ _ _))) _ _ _
  repeat' (first | walk1 | (dsimp only; walk1))
  cases b with
  | none =>
    obtain rfl := hm
    refine wpAny_bind (wpAny_of_eq (a := true) rfl (wpAny_pure (wpAny_truthy_bool h)))
  | some b =>
    rcases hm with ⟨t, rfl⟩ | ⟨a, rfl, _⟩
    · exact wpAny_bind (wpAny_of_eq (a := false) rfl (wpAny_pure (wpAny_truthy_bool h)))
    · exact wpAny_bind (wpAny_of_eq (a := false) rfl (wpAny_pure (wpAny_truthy_bool h)))

/-- what the fold tells: octets; its private objects are there -/
def OctOut (P : List Addr) (h : Heap) (v : Value) (b : Oct) : Prop := OctAt h v b ∧ ∀ a ∈ P, ∃ o, h.get? a = some o
abbrev FoldEnd (w : World) (A : Around) (h₀ : Heap) (outer : List Env) (o : List Oct × Bool) (P : List Addr) (s : Shared) : End → Shared → Prop := EndR (mdl prog₀ w) A h₀ h₀ outer OctOut o.2 o.1 P [] s

/-- the state behind the loop -/
structure TailSt (h₀ : Heap) (L l it : Addr) (P P₁ : List Addr) (s s₁ : Shared) (lastV : Value) (lineV matchV : Option Value) (last : Option Oct) : Prop where
  fr : Fr h₀ L s₁.heap (foldMap l it lastV lineV matchV)
  lastAt : lastOct s₁.heap last lastV
  mem : ∀ a, lastV = .ref a → a ∈ P₁
  LP : L ∈ P₁
  woke : Woke P [] s s₁ P₁ []
  there : ∀ a ∈ P₁, ∃ o, s₁.heap.get? a = some o

/-- at the end: the last line, if there is one -/
theorem foldTail (x : TailSt h₀ L l it P P₁ s s₁ lastV lineV matchV last) :
    SegG (mdl prog₀ w) A (.func foldBody (foldEnv L)) ((execs [fTail] (foldEnv L)).wrap KF (HF (foldEnv L)) id id) [] s₁ (FoldEnd w A h₀ outer (foldOut last []) P s) := by
  refine ggExecsCons ?_
  show SegG _ A _ ((exec (Stmt.If (ifTestOf fTail) (ifThen fTail) (ifElse fTail) _) _).wrap _ _ _ _) _ _ _
  refine ggIf (toG (testTail x.fr x.lastAt ?_))
  cases last with
  | none =>
    show SegG _ A _ ((execs [] _).wrap _ _ _ _) _ _ _
    refine ggExecsNil ?_
    show SegG _ A _ ((execs [] _).wrap _ _ _ _) _ _ _
    refine ggExecsNil ?_
    show SegG _ A _ (leafOf (.ok (.ret .none))) _ _ _
    refine ggEnd _ ?_
    show EndW outer OctOut false _ [] P [] s _ _
    exact ⟨rfl, P₁, [], x.woke⟩
  | some a =>
    show SegG _ A _ ((execs [_] _).wrap _ _ _ _) _ _ _
    refine ggExecsCons ?_
    show SegG _ A _ ((exec (Stmt.Expr (Expr.Yield (some (Expr.Name _ _)) _) _) _).wrap _ _ _ _) _ _ _
    refine ggYieldStmt rfl rfl rfl (toG (ld x.fr (by rfl) fun l p k hk => ?_))
    refine ⟨lastV, false, l, k, _, p, [], P₁, [], rfl, ⟨x.lastAt, x.there⟩, x.woke, ?_⟩
    refine ready_of fun s₂ a₂ => ?_
    refine ⟨rfl, (fun _ h => nomatch h), hk _ _ ?_⟩
    refine ggExecsNil ?_
    show SegG _ A _ ((execs [] _).wrap _ _ _ _) _ _ _
    refine ggExecsNil ?_
    show SegG _ A _ (leafOf (.ok (.ret .none))) _ _ _
    refine ggEnd _ ?_
    show EndW outer OctOut false _ [] P₁ [] s₂ _ _
    exact ⟨rfl, P₁, [], .refl _ _ _⟩

theorem hlow {h h' : Heap} (k : ∀ b o, h.get? b = some o → ∃ o', h'.get? b = some o') : ∀ b o, h.get? b = some o → b < h'.objs.size := fun b o hb => let ⟨_, q⟩ := k b o hb; Heap.lt_size q

/-- an exception of a turn goes out of the wake -/
theorem foldThrow {e d : Addr} {h₃ : Heap} {tk : Nat} (r : Rk 8 A outer) (x : FoldSt h₀ outer L l it vals P P₁ s s₁ i cur todo lastV lineV matchV last rest)
    (f : Flying [] (framesOf (foldEnv L :: outer)) s₁.heap e d none h₃) :
    SegG (mdl prog₀ w) A (fLoop L it) (noted (foldEnv L) (.ref e)) (fStack L lv p) { s₁ with heap := h₃, toks := tk } (FoldEnd w A h₀ outer ([], true) P s) := by
  have ff := fframes (h₀ := h₀) x.fr x.ff (foldEnv L) (fun q => nomatch (show ScopeKind.function = ScopeKind.module from q)) rfl
  have inP : ∀ {fl : Option Value} {h' : Heap}, Flying [] (framesOf (foldEnv L :: outer)) s₁.heap e d fl h' → h'.FunFrames h₀ (foldEnv L :: outer) := fun f => f.frames ff fun b _ q => nomatch q
  have low : ∀ {fl : Option Value} {h' : Heap}, Flying [] (framesOf (foldEnv L :: outer)) s₁.heap e d fl h' → ∀ b o, s₁.heap.get? b = some o → b < h'.objs.size := fun f => hlow fun b o hb => let ⟨sl, q⟩ := f.slots b o (fun q => nomatch q) hb; ⟨_, q⟩
  have rl : Rk 7 (A.over (fLoop L it) (fStack L lv p)) (foldEnv L :: outer) := r.loop
  have rf : Rk 7 (A.over (.func foldBody (foldEnv L)) []) (foldEnv L :: outer) := r.func
  refine notedSeg (outer := outer) rl.frames (inP f) rfl (fun _ q => q) f (low f) fun h₄ f₄ => ?_
  refine ggPop (.error (.ref e)) ?_
  show SegG _ A _ (((.raise (.ref e) : Sem Flow).onRaise _).wrap _ _ id id) _ _ _
  refine popErr rfl f₄ fun h₅ f₅ => ?_
  refine leaveSeg (outer := outer) rf.frames (inP f₅) rfl (fun _ q => q) f₅ (low f₅) fun h₆ f₆ => ?_
  refine ggEnd _ ?_
  show EndW outer OctOut true _ [] P [] s _ _
  exact ⟨e, d, rfl, flyOut rfl x.woke x.LP f₆, x.woke.gkeep, x.woke.gsize, x.woke.bare, x.woke.os⟩

theorem octNoL {h : Heap} {m : Str → Option Value} {v : Value} {b : Oct} (F : Fr h₀ L h m) (hv : OctAt h v b) : ∀ a, v = .ref a → a ≠ L := fun a e => by
  rcases hv with ⟨t, q⟩ | ⟨y, q, hy⟩
  · rw [q] at e; cases e
  · rw [q] at e; cases e; exact baNotFrame F hy

theorem foldStmts : foldTurn = [foldTurn.getD 0 (.Pass default), foldTurn.getD 1 (.Pass default)] := rfl
theorem fElse_eq : fElse = [fElse.getD 0 (.Pass default), fSetLast] := rfl

set_option maxHeartbeats 1000000 in
theorem foldTurnG {b : Oct} {bs : List Oct} {v : Value} (r : Rk 8 A outer) (X : (Mine.hd.heap_39 w.params).In h₀) (T : Top view₀ (looseW view₀ loose₀) mean mg mb h₀) (nl : h₀.NoLimit)
    (y : FoldSt h₀ outer L l it vals P P₁ s s₁ i [v] todo lastV (some v) matchV last bs) (hvb : OctAt s₁.heap v b) (hsz : b.size ≤ 900 ∧ szOf (some b) bs ≤ 900 ∧ ∀ c, last = some c → c.size + b.size ≤ 980 ∧ szOf (some (glue c b)) bs ≤ 900)
    (ih : ∀ (last : Option Oct) (lastV : Value) (lineV matchV : Option Value) (todo cur : List Value) (i : Nat) (P P₁ : List Addr) (s s₁ : Shared), FoldSt h₀ outer L l it vals P P₁ s s₁ i cur todo lastV lineV matchV last bs →
      SegG (mdl prog₀ w) A (fLoop L it) ((mdl prog₀ w).den (fLoop L it)) (fStack L lv p) s₁ (FoldEnd w A h₀ outer (foldOut last bs) P s)) :
    SegG (mdl prog₀ w) A (fLoop L it) ((execs foldTurn (foldEnv L)).wrap (fun f => match f with | .next | .cont => .pure (.again (fLoop L it)) | .brk => .pure (.done .next) | .ret v => .pure (.done (.ret v))) (noted (foldEnv L)) id id) (fStack L lv p) s₁
      (FoldEnd w A h₀ outer (foldOut last (b :: bs)) P s) := by
  have rl : Rk 7 (A.over (fLoop L it) (fStack L lv p)) (foldEnv L :: outer) := r.loop
  obtain ⟨hb, hz1, hz2⟩ := hsz
  -- the line is the last one now
  have setLast : ∀ (K : Flow → Sem Fin) (o : List Oct × Bool) (P P₁ : List Addr) (s s₁ : Shared) (lastV : Value) (matchV : Option Value) (last : Option Oct) (bs' : List Oct), bs' = bs → FoldSt h₀ outer L l it vals P P₁ s s₁ i [v] todo lastV (some v) matchV last bs' → OctAt s₁.heap v b → K .next = .pure (.again (fLoop L it)) →
      foldOut (some b) bs = o → SegG (mdl prog₀ w) A (fLoop L it) ((execs [fSetLast] (foldEnv L)).wrap K (noted (foldEnv L)) id id) (fStack L lv p) s₁ (FoldEnd w A h₀ outer o P s) := by
    rintro K _ P P₁ s s₁ lastV matchV last bs' rfl z hv hK rfl
    refine ggPlain (toG (fold_last z.fr (news_full h₀ L s₁.heap) fun h₂ tk₂ F₂ N₂ => ?_))
    refine ggExecsNil ?_
    rw [hK]
    refine ggAgain rfl rfl ?_
    have k₂ := keep_full (X := fun _ => False) F₂ z.fr.keep N₂ fun p hp _ => hp
    refine ih (some b) v _ _ todo [] i P P₁ s _ (FoldSt.move z.LP z.sub z.woke z.ff z.out F₂ ((z.fm.less (vs' := v :: ([] ++ todo)) (List.sublist_cons_self _ _)).to (fun o q => k₂ _ _ z.fm.l_ne id q) (fun o q => k₂ _ _ z.fm.it_ne id q) fun a ha => ?_) z.todoEq
      (OctAt.keep hv fun a e o q => k₂ a o (octNoL z.fr hv a e) id q) (z.octs.keep fun u hu a e o q => k₂ a o (z.fm.v_ne (.tail _ (.tail _ hu)) e).1 id q) hz1 (fun a o hP q => k₂ a o (fun e => hP (e ▸ z.fm.L_mem)) id q) fun a q => .inl q)
    by_cases q : a = L
    · obtain ⟨o, _, _, ho, _⟩ := F₂.ns; rw [q]; exact ⟨o, ho⟩
    · obtain ⟨o, ho⟩ := z.fm.there a ha; exact ⟨o, k₂ _ _ q id ho⟩
  rw [foldStmts]
  refine ggPlain (toG (fold1 X T y.fr (news_full h₀ L s₁.heap) hvb (by omega) (fun hl h₃ tk₃ F₃ N₃ => ?_) (fun hl h₃ tk₃ a li tup F₃ N₃ => ?_)))
  · have k₃ := keep_full (X := fun _ => False) F₃ y.fr.keep N₃ fun p hp _ => hp
    have z := y.over (tk := tk₃) F₃ k₃
    have hv₃ : OctAt h₃ v b := hvb.keep fun a e o q => k₃ a o (octNoL y.fr hvb a e) id q
    refine ggExecsCons ?_
    show SegG _ A _ ((exec (Stmt.If fTest fThen fElse _) _).wrap _ _ _ _) _ _ _
    refine ggIf (toG (testMatch F₃ (.inl ⟨rfl, rfl⟩) ?_))
    show SegG _ A _ ((execs fElse _).wrap _ _ _ _) _ _ _
    rw [fElse_eq]
    refine ggExecsCons ?_
    show SegG _ A _ ((exec (Stmt.If fNotNone _ _ _) _).wrap _ _ _ _) _ _ _
    refine ggIf (toG (testNotNone (b := last) F₃ z.lastAt ?_))
    cases last with
    | none =>
      have e : foldOut none (b :: bs) = foldOut (some b) bs := by simp only [foldOut]; rw [if_pos hl]
      rw [e]
      exact ggExecsNil (setLast _ _ P P₁ s _ lastV _ none bs rfl z hv₃ rfl rfl)
    | some c =>
      have e : foldOut (some c) (b :: bs) = (c :: (foldOut (some b) bs).1, (foldOut (some b) bs).2) := by simp only [foldOut]; rw [if_pos hl]
      rw [e]
      show SegG _ A _ ((execs [_] _).wrap _ _ _ _) _ _ _
      refine ggExecsCons ?_
      show SegG _ A _ ((exec (Stmt.Expr (Expr.Yield (some (Expr.Name _ _)) _) _) _).wrap _ _ _ _) _ _ _
      refine ggYieldStmt rfl rfl rfl (toG (ld F₃ (by rfl) fun l' p' k' hk => ?_))
      refine ⟨lastV, false, l', k', _, p', _, P₁, [], rfl, ⟨z.lastAt, z.fm.there⟩, z.woke, ready_of fun s₂ a₂ => ?_⟩
      refine ⟨rfl, ?_, hk _ _ (ggExecsNil (setLast _ _ P₁ P₁ s₂ s₂ lastV _ (some c) bs rfl (z.wakeAt a₂) (hv₃.keep fun a e o q => a₂.own a o (z.fm.mem v (.tail _ (.tail _ (.tail _ (.tail _ (.head _))))) a e) q) rfl rfl))⟩
      intro x hx
      rcases List.mem_cons.mp hx with rfl | hx
      · rfl
      · cases hx
  · have k₃ := keep_full (X := fun _ => False) F₃ y.fr.keep N₃ fun p hp _ => .tail _ (.tail _ hp)
    have z := y.over (tk := tk₃) F₃ k₃
    have hv₃ : OctAt h₃ v b := hvb.keep fun a e o q => k₃ a o (octNoL y.fr hvb a e) id q
    have hl' : ¬ leadN b = 0 := fun q => by rw [show Rx.lead (b.map (·.toNat)) = leadN b from rfl, q] at hl; exact Nat.lt_irrefl 0 hl
    refine ggExecsCons ?_
    show SegG _ A _ ((exec (Stmt.If fTest fThen fElse _) _).wrap _ _ _ _) _ _ _
    refine ggIf (toG (testMatch F₃ (.inr ⟨rfl, a, _, rfl, (N₃ _ (.head _)).1, rfl⟩) ?_))
    show SegG _ A _ ((execs fThen _).wrap _ _ _ _) _ _ _
    refine ggWrap (thenG (S := framesOf (foldEnv L :: outer)) (rl.le (by decide)) X T nl F₃ (N₃ _ (.head _)).1 (N₃ _ (.tail _ (.head _))).1 (N₃ _ (.head _)).2.1 (N₃ _ (.tail _ (.head _))).2.1 hv₃ z.lastAt (fun c hc => (hz2 c hc).1)
      (fun a e => z.fm.fresh a (z.fm.mem lastV (.tail _ (.tail _ (.tail _ (.head _)))) a e)) (fun a e => (List.pairwise_cons.mp z.fm.vv).1 v (.head _) a e) ?_ ?_)
    · rintro rfl e d h₄ tk₄ f
      have e' : foldOut none (b :: bs) = ([], true) := by simp only [foldOut]; rw [if_neg hl']
      rw [e']
      exact foldThrow r z f
    · rintro c rfl a' h₄ tk₄ F₄ ha₄ k₄ hor
      have e' : foldOut (some c) (b :: bs) = foldOut (some (glue c b)) bs := by simp only [foldOut]; rw [if_neg hl']
      rw [e']
      show SegG _ A _ ((execs [] _).wrap _ _ _ _) _ _ _
      refine ggExecsNil ?_
      refine ggAgain rfl rfl ?_
      have kl : ∀ o, h₃.get? l = some o → h₄.get? l = some o := fun o q => k₄ l o z.fm.l_ne (fun e => (z.fm.v_ne (.head _) e).2.1 rfl) q
      have ki : ∀ o, h₃.get? it = some o → h₄.get? it = some o := fun o q => k₄ it o z.fm.it_ne (fun e => (z.fm.v_ne (.head _) e).2.2 rfl) q
      have ko : Octs h₄ todo bs := z.octs.keep fun u hu x e o q => k₄ x o (z.fm.v_ne (.tail _ (.tail _ hu)) e).1 (fun e' => (List.pairwise_cons.mp z.fm.vv).1 u (.tail _ hu) x e' e) q
      have kP : ∀ x o, x ∉ P₁ → h₃.get? x = some o → h₄.get? x = some o := fun x o hP q => k₄ x o (fun e => hP (e ▸ z.fm.L_mem)) (fun e => hP (z.fm.mem lastV (.tail _ (.tail _ (.tail _ (.head _)))) x e)) q
      have kt : ∀ x ∈ P₁, ∃ o, h₄.get? x = some o := fun x hx => by
        by_cases q : x = L
        · obtain ⟨o, _, _, ho, _⟩ := F₄.ns; rw [q]; exact ⟨o, ho⟩
        by_cases q' : lastV = .ref x
        · rcases hor with q'' | q''
          · rw [q'] at q''; cases q''; exact ⟨_, ha₄⟩
          · exact absurd q' (q''.2 x)
        · obtain ⟨o, ho⟩ := z.fm.there x hx; exact ⟨o, k₄ x o q q' ho⟩
      have hg : lastOct h₄ (some (glue c b)) (.ref a') := .inr ⟨a', rfl, ha₄⟩
      have Mz := (z.fm.less (vs' := todo) ((List.sublist_cons_self v todo).trans (List.sublist_cons_self lastV _))).to kl ki kt
      rcases hor with q | ⟨q, _⟩
      · subst q
        refine ih (some (glue c b)) (.ref a') _ _ todo [] i P P₁ s _ (FoldSt.move z.LP z.sub z.woke z.ff z.out F₄ ?_ z.todoEq hg ko (hz2 c rfl).2 kP fun x hx => .inl hx)
        exact (z.fm.less (vs' := .ref a' :: ([] ++ todo)) ((List.sublist_cons_self v todo).cons_cons _)).to kl ki kt
      · refine ih (some (glue c b)) (.ref a') _ _ todo [] i P (a' :: P₁) s _ (FoldSt.move z.LP (fun x hx => .tail _ (z.sub x hx)) z.woke z.ff z.out F₄ (Mz.new ha₄ ?_ ?_) z.todoEq hg ko (hz2 c rfl).2 kP fun x hx => ?_)
        · cases e : h₀.get? a' with
          | none => rfl
          | some o => have e' := F₃.keep _ _ e; rw [q] at e'; cases e'
        · intro hP
          obtain ⟨o, ho⟩ := z.fm.there a' hP; rw [q] at ho; cases ho
        · rcases List.mem_cons.mp hx with rfl | hx
          · refine .inr ?_
            exact q
          · exact .inl hx

set_option maxHeartbeats 1000000 in
theorem foldLoop (r : Rk 8 A outer) (X : (Mine.hd.heap_39 w.params).In h₀) (T : Top view₀ (looseW view₀ loose₀) mean mg mb h₀) (nl : h₀.NoLimit) : ∀ (rest : List Oct) (last : Option Oct) (lastV : Value) (lineV matchV : Option Value) (todo cur : List Value) (i : Nat) (P P₁ : List Addr) (s s₁ : Shared),
    FoldSt h₀ outer L l it vals P P₁ s s₁ i cur todo lastV lineV matchV last rest →
    SegG (mdl prog₀ w) A (fLoop L it) ((mdl prog₀ w).den (fLoop L it)) (fStack L lv p) s₁ (FoldEnd w A h₀ outer (foldOut last rest) P s) := by
  intro rest
  have rl : Rk 7 (A.over (fLoop L it) (fStack L lv p)) (foldEnv L :: outer) := r.loop
  induction rest with
  | nil =>
    intro last lastV lineV matchV todo cur i P P₁ s s₁ x
    cases todo with
    | cons _ _ => exact x.octs.elim
    | nil =>
      have hx : vals.toArray[i]? = none := by
        have := x.todoEq
        rw [List.drop_eq_nil_iff] at this
        simp only [List.getElem?_toArray]
        exact List.getElem?_eq_none this
      refine ggForLoop (toG (lift (wpAny_pyNext_list_end rl.hd x.fm.iter x.fm.list hx fun h' hb => ?_)))
      show SegG _ A _ (leafOf (.ok .next)) _ _ _
      refine ggPop (.ok .next) ?_
      show SegG _ A _ ((execs [fTail] (foldEnv L)).wrap KF (HF (foldEnv L)) id id) _ _ _
      have hn : ∀ v ∈ lastV :: (cur ++ []), ∀ a, v = .ref a → ∀ o, s₁.heap.get? a = some o → h'.get? a = some o := fun v hv a e o ho => hb a o (x.fm.v_ne hv e).2.2 ho
      have inF : ∀ {b : Addr}, b ∈ P₁ → b ≠ it → b ∈ P₁.filter (fun b => b != it) := fun hb hn => List.mem_filter.mpr ⟨hb, by simp [hn]⟩
      have ofF : ∀ {b : Addr}, b ∈ P₁.filter (fun b => b != it) → b ∈ P₁ ∧ b ≠ it := fun hb => ⟨(List.mem_filter.mp hb).1, by simpa using (List.mem_filter.mp hb).2⟩
      refine foldTail (P₁ := P₁.filter (fun b => b != it)) (s₁ := { s₁ with heap := h' }) ⟨⟨x.fr.ns.at' fun o q => hb _ _ (Ne.symm x.fm.it_ne) q, fun b o q => hb b o (fun e => ?_) (x.fr.keep b o q), x.fr.above⟩, ?_, fun a e => inF (x.fm.mem _ (.tail _ (.tail _ (.tail _ (.head _)))) a e) (x.fm.v_ne (.head _) e).2.2, inF x.fm.L_mem (Ne.symm x.fm.it_ne), x.woke.slots (fun b o hP q => hb b o (fun e => hP (e ▸ x.fm.it_mem)) q) _ fun b q => .inl (ofF q).1, fun a ha => ?_⟩
      · rw [e, x.fm.fresh _ x.fm.it_mem] at q; cases q
      · have := x.lastAt
        cases last with
        | none => exact this
        | some c => exact OctAt.keep this (hn _ (.head _))
      · obtain ⟨o, q⟩ := x.fm.there a (ofF ha).1
        exact ⟨o, hb a o (ofF ha).2 q⟩
  | cons b bs ih =>
    intro last lastV lineV matchV todo cur i P P₁ s s₁ x
    cases todo with
    | nil => exact x.octs.elim
    | cons v todo =>
      have hx : vals.toArray[i]? = some v := by
        have := x.todoEq
        simp only [List.getElem?_toArray]
        have h2 := congrArg (fun l => l[0]?) this
        simpa using h2
      have hd : vals.drop (i + 1) = todo := by
        rw [← List.tail_drop, x.todoEq]; rfl
      refine ggForLoop (toG (lift (wpAny_pyNext_list_item x.fm.iter x.fm.list hx fun h' hi hs => ?_)))
      have hsz : b.size ≤ 900 ∧ szOf (some b) bs ≤ 900 ∧ ∀ c, last = some c → c.size + b.size ≤ 980 ∧ szOf (some (glue c b)) bs ≤ 900 := by
        have := x.size
        simp only [szOf, List.map_cons, List.sum_cons] at this ⊢
        refine ⟨by omega, by show b.size + _ ≤ 900; omega, fun c hc => ?_⟩
        subst hc
        have h2 := glue_size c b
        simp only [Option.elim] at this ⊢
        omega
      have Fa : Fr h₀ L h' (foldMap l it lastV lineV matchV) := frSet x.fr hs x.fm.it_ne (x.fm.fresh _ x.fm.it_mem)
      have kit : ∀ a o, a ≠ it → s₁.heap.get? a = some o → h'.get? a = some o := fun a o q e => (hs.2 a q).trans e
      have Ma := (x.fm.step hi hs).less (vs' := lastV :: ([v] ++ todo)) ((List.sublist_append_right cur (v :: todo)).cons_cons _)
      show wpG _ _ (assign (.Name _ _) _ _) _ _ _
      refine toG (wpAny_assign_Name (stN Fa (news_full h₀ L h') fun h₂ F₂ N₂ => ?_))
      rw [map_line] at F₂
      have k₂ := keep_full (X := fun _ => False) F₂ Fa.keep N₂ fun p hp _ => hp
      have kk : ∀ a o, a ≠ it → a ≠ L → s₁.heap.get? a = some o → h₂.get? a = some o := fun a o q q' e => k₂ a o q' id (kit a o q e)
      have kv : ∀ u ∈ lastV :: (cur ++ v :: todo), ∀ a, u = .ref a → ∀ o, s₁.heap.get? a = some o → h₂.get? a = some o := fun u hu a e o ho => kk a o (x.fm.v_ne hu e).2.2 (x.fm.v_ne hu e).1 ho
      have hvb : OctAt h₂ v b := x.octs.1.keep (kv v (.tail _ (List.mem_append_right _ (.head _))))
      have hLx : ∃ o, h₂.get? L = some o := let ⟨o, _, _, ho, _⟩ := F₂.ns; ⟨o, ho⟩
      have y : FoldSt h₀ outer L l it vals P P₁ s { s₁ with heap := h₂, toks := s₁.toks + 1 } (i + 1) [v] todo lastV (some v) matchV last bs := by
        refine FoldSt.move (tk := s₁.toks + 1) x.LP x.sub x.woke x.ff x.out F₂ (Ma.to (fun o q => k₂ _ _ x.fm.l_ne id q) (fun o q => k₂ _ _ x.fm.it_ne id q) fun a ha => ?_) hd ?_ (x.octs.2.keep fun u hu => kv u (.tail _ (List.mem_append_right _ (.tail _ hu)))) ?_ (fun a o hP q => kk a o (fun e => hP (e ▸ x.fm.it_mem)) (fun e => hP (e ▸ x.fm.L_mem)) q) fun a q => .inl q
        · by_cases q : a = L
          · rw [q]; exact hLx
          · obtain ⟨o, ho⟩ := Ma.there a ha; exact ⟨o, k₂ _ _ q id ho⟩
        · have := x.lastAt
          cases last with
          | none => exact this
          | some c => exact OctAt.keep this (kv _ (.head _))
        · have := x.size
          simp only [szOf, List.map_cons, List.sum_cons] at this ⊢
          omega
      exact foldTurnG r X T nl y hvb hsz ih
end
end Mine

end
section
open PySem PySem.W PySem.W.X PySem.Calls PyProof.Rows PySem.Builtin
set_option maxRecDepth 100000
namespace Mine

local macro_rules | `(tactic| x_close) => `(tactic| first | exact ⟨_, _, _, rfl, rfl, ⟨_, Mem.at (by assumption) 0 _ _ rfl, rfl, rfl⟩, (Mem.nw (by assumption) _ (.head _)).2, memKeeps (by assumption)⟩ | (trace_state; fail))
set_option maxHeartbeats 4000000 in
theorem iterList (w : World) (s : Shared) (fl : List Env) (l : Addr) (vals : Array Value) (n : Nat) (hl : s.heap.get? l = some { cls := .type "list", dict := none, data := .seq vals n, slots := #[] }) :
    wpAny (model prog₀ w) (A₉ fl) (call (.builtin "iter") [.ref l]) (fun v s' => ∃ a h' tk, v = .ref a ∧ s' = { s with heap := h', toks := tk } ∧ h'.IsListIter a l 0 ∧ s.heap.get? a = none ∧ ∀ x o, s.heap.get? x = some o → h'.get? x = some o) (fun _ _ => False) s := by
  x_run
theorem warm7 : (∀ P, Mine.hd.heap_39 P = Mine.hd.heap_39 P) ∧ PySem.Challenge.rw_ae6005_01 = PySem.Challenge.rw_ae6005_01 := by
  k_fill
  exact ⟨fun _ => rfl, rfl⟩

abbrev listObj (vs : List Value) (n : Nat) : Obj := { cls := .type "list", dict := none, data := .seq vs.toArray n, slots := #[] }
abbrev foldMap₀ (l : Addr) : Str → Option Value := fun y => if y = Str.ofString "lines" then some (.ref l) else none
theorem map_start (l it : Addr) : (fun y => if y = Str.ofString "last" then some Value.none else (fun y => if y = Str.ofString "it" then some (Value.ref it) else foldMap₀ l y) y) = foldMap l it .none none none := by
  funext y; simp only [foldMap, foldMap₀]
  by_cases h : y = Str.ofString "match"
  · subst h; rfl
  by_cases h' : y = Str.ofString "line"
  · subst h'; rfl
  simp [h, h']

section
variable {w : World} {A : Around} {h₀ : Heap} {outer : List Env} {L l it : Addr} {vals : List Value} {P P₁ : List Addr} {s s₁ s₂ : Shared}
  {mg mb : Str → Option Value} {mean : ExcName → Option Value} {lv : List Value} {p : Pos}
theorem foldBody_eq : foldBody = [foldBody.getD 0 (.Pass default), foldBody.getD 1 (.Pass default), foldBody.getD 2 (.Pass default), fTail] := rfl

set_option maxHeartbeats 4000000 in
theorem foldFresh {n : Nat} {items : List Oct} (r : Rk 8 A outer) (X : (Mine.hd.heap_39 w.params).In h₀) (T : Top view₀ (looseW view₀ loose₀) mean mg mb h₀) (nl : h₀.NoLimit)
    (F : Fr h₀ L s.heap (foldMap₀ l)) (hl : s.heap.get? l = some (listObj vals n)) (ho : Octs s.heap vals items) (hz : szOf none items ≤ 900) (ff : s.heap.FunFrames h₀ outer) (out : ∀ x ∈ framesOf outer, x ∉ P) (LP : L ∈ P)
    (hap : (Value.ref L :: Value.ref l :: vals).Pairwise Apart) (hmem : ∀ v ∈ Value.ref L :: Value.ref l :: vals, ∀ a, v = .ref a → a ∈ P) (hfr : ∀ a ∈ P, h₀.get? a = none) (hth : ∀ a ∈ P, ∃ o, s.heap.get? a = some o) :
    SegG (mdl prog₀ w) A (.func foldBody (foldEnv L)) ((mdl prog₀ w).den (.func foldBody (foldEnv L))) [] s (FoldEnd w A h₀ outer (foldOut none items) P s) := by
  refine ggFunc ?_
  have rf : Rk 7 (A.over (.func foldBody (foldEnv L)) []) (foldEnv L :: outer) := r.func
  rw [show (execs foldBody (foldEnv L)) = execs [foldBody.getD 0 (.Pass default), foldBody.getD 1 (.Pass default), foldBody.getD 2 (.Pass default), fTail] (foldEnv L) from rfl]
  refine ggPlain (toG ?_)
  have N := news_full h₀ L s.heap
  show wpAny _ _ (exec (Stmt.Assign _ _ _) (envOf _ { kind := _, names := _, isGenerator := _, isCoroutine := _, more := _ } _ _ _)) _ _ _
  repeat' (first | walk1 | (dsimp only; walk1))
  refine lift (rf.rm.any (wpAny_mono (iterList w s (foldEnv L :: outer) l vals.toArray n hl) ?_ fun _ _ x => x.elim))
  rintro v s' ⟨it, h', tk, rfl, rfl, hi, hn, hk⟩
  have F₁ : Fr h₀ L h' (foldMap₀ l) := frExt F hk
  clear N
  refine stN F₁ (news_full h₀ L h') fun h₂ F₂ N₂ => ?_
  have k₂ := keep_full (X := fun _ => False) F₂ F₁.keep N₂ fun p hp _ => hp
  show SegG _ A _ _ _ _ _
  refine ggPlain (toG ?_)
  show wpAny _ _ (exec (Stmt.Assign [Expr.Name _ _] (Expr.Constant .none _ _) _) (envOf _ { kind := _, names := _, isGenerator := _, isCoroutine := _, more := _ } _ _ _)) _ _ _
  refine wpAny_Assign_Name (Constant_none ?_)
  refine stN F₂ (news_full h₀ L h₂) fun h₃ F₃ N₃ => ?_
  have k₃ := keep_full (X := fun _ => False) F₃ F₂.keep N₃ fun p hp _ => hp
  rw [map_start] at F₃
  have itL : it ≠ L := by
    rintro rfl
    obtain ⟨o, _, _, q, _⟩ := F.ns
    rw [hn] at q; cases q
  have kk : ∀ b o, b ≠ L → s.heap.get? b = some o → h₃.get? b = some o := fun b o q e => k₃ b o q id (k₂ b o q id (hk b o e))
  have hlL : l ≠ L := by
    rintro rfl
    obtain ⟨o, _, _, q, hd, _⟩ := F.ns
    rw [hl] at q; cases q; cases hd
  have hi₃ : h₃.IsListIter it l 0 := hi.at fun o q => k₃ _ _ itL id (k₂ _ _ itL id q)
  show SegG _ A _ _ _ _ _
  refine ggExecsCons ?_
  show SegG _ A _ ((exec (Stmt.For (forTarget (foldBody.getD 2 (.Pass default))) (Expr.Name _ _) foldTurn [] _) _).wrap _ _ _ _) _ _ _
  refine ggFor (toG (ld F₃ (by rfl) (toG (lift (wpAny_pyIter_listiter hi₃ fun p' l' => ?_)))))
  refine foldLoop (lv := l') (p := p') r X T nl items none .none none none vals [] 0 P (it :: P) s _ (FoldSt.move (s₁ := s) LP (fun b hb => .tail _ hb) (.refl _ _ _) ff out F₃ ?_ rfl rfl ?_ hz (fun b o hP q => kk b o (fun e => hP (e ▸ LP)) q) fun b hb => ?_)
  · have itP : it ∉ P := fun hP => by obtain ⟨o, q⟩ := hth it hP; rw [hn] at q; cases q
    have nit : ∀ v ∈ Value.ref L :: Value.ref l :: vals, v ≠ .ref it := fun v hv e => itP (hmem v hv it e)
    have it0 : h₀.get? it = none := by
      cases q : h₀.get? it with
      | none => rfl
      | some o => have := F.keep _ _ q; rw [hn] at this; cases this
    simp only [List.pairwise_cons] at hap
    obtain ⟨a1, a2, a3⟩ := hap
    have none1 : ∀ {v : Value}, Apart v .none := fun a _ q => nomatch q
    refine ⟨⟨_, kk l _ hlL hl, rfl, n, rfl⟩, hi₃, ?_, ?_, ?_, ?_⟩
    · simp only [List.pairwise_cons, List.nil_append]
      refine ⟨fun v hv => ?_, fun v hv => ?_, fun v hv => ?_, fun v hv a e => (by cases e), a3⟩
      · rcases List.mem_cons.mp hv with rfl | hv
        · exact a1 _ (.head _)
        rcases List.mem_cons.mp hv with rfl | hv
        · exact fun a e q => nit _ (.head _) (e.trans q.symm)
        rcases List.mem_cons.mp hv with rfl | hv
        · exact none1
        · exact a1 _ (.tail _ hv)
      · rcases List.mem_cons.mp hv with rfl | hv
        · exact fun a e q => nit _ (.tail _ (.head _)) (e.trans q.symm)
        rcases List.mem_cons.mp hv with rfl | hv
        · exact none1
        · exact a2 _ hv
      · rcases List.mem_cons.mp hv with rfl | hv
        · exact none1
        · exact fun a e q => nit v (.tail _ (.tail _ hv)) (q.trans e.symm)
    · intro v hv a e
      simp only [List.mem_cons, List.nil_append] at hv
      rcases hv with rfl | rfl | rfl | rfl | hv
      · exact .tail _ (hmem _ (.head _) a e)
      · exact .tail _ (hmem _ (.tail _ (.head _)) a e)
      · cases e; exact .head _
      · cases e
      · exact .tail _ (hmem v (.tail _ (.tail _ hv)) a e)
    · intro a ha
      rcases List.mem_cons.mp ha with rfl | ha
      · exact it0
      · exact hfr a ha
    · intro a ha
      rcases List.mem_cons.mp ha with rfl | ha
      · obtain ⟨o, ho, _⟩ := hi₃; exact ⟨o, ho⟩
      · by_cases q : a = L
        · obtain ⟨o, _, _, ho, _⟩ := F₃.ns; rw [q]; exact ⟨o, ho⟩
        · obtain ⟨o, ho⟩ := hth a ha; exact ⟨o, kk a o q ho⟩
  · refine ho.keep fun v hv a e o q => kk a o ?_ q
    rintro rfl
    exact (List.pairwise_cons.mp hap).1 v (.tail _ hv) a rfl e
  · rcases List.mem_cons.mp hb with rfl | hb
    · exact .inr hn
    · exact .inl hb
end
end Mine

end
section
open PySem PySem.W PySem.W.X PySem.Calls PyProof.Rows PySem.Builtin
set_option maxRecDepth 100000
namespace Mine

noncomputable def fdAt (P : Params) (a : Addr) : FuncData := funOf (objAt P a)
def nameIn : Option Value → Option Str
  | some (.str n _) => some n
  | _ => none
theorem nameIn_some {v : Option Value} {n : Str} (h : nameIn v = some n) : ∃ t, v = some (.str n t) := by
  unfold nameIn at h
  split at h
  · cases h; exact ⟨_, rfl⟩
  · cases h
/-- a function of the text, at its place -/
structure Fn (P : Params) (a c : Addr) (name : Str) (scope : Scope) (body : List Stmt) : Prop where
  look : (Mine.hd.heap_39 P).lookup a = some (objAt P a)
  data : (objAt P a).data = .func (fdAt P a)
  body : (fdAt P a).body = .stmts body
  scope : (fdAt P a).scope = scope
  glob : (fdAt P a).globals = mainGlobals
  clos : (fdAt P a).closure = []
  qual : (fdAt P a).qualname = name
  code : (fdAt P a).code = .ref c
  blt : (fdAt P a).builtins = builtinsNs
  codeO : (Mine.hd.heap_39 P).lookup c = some (objAt P c)
  codeD : (objAt P c).data = .fields (fieldsIn (objAt P c))
  codeV : nameIn (fieldsIn (objAt P c))[1]? = some name
/-- no cells, all names local -/
structure Sc (scope : Scope) (ns : List Str) : Prop where
  kind : scope.kind = .function
  co : scope.isCoroutine = false
  cell : (scope.names.all fun x => x.2 != .cell) = true
  loc : (ns.all fun x => decide (scope.names.lookup x = some .local)) = true

section
variable {w : World} {A : Around} {E : Value → Shared → Prop} {s : Shared} {a c : Addr} {name : Str} {scope : Scope} {body : List Stmt} {args : List Value} {binds : List (Str × Value)} {fl : List Env}

theorem Sc.cells {ns : List Str} (x : Sc scope ns) : ∀ y ∈ scope.names, y.2 ≠ .cell := fun y hy e => by
  have := List.all_eq_true.mp x.cell y hy
  rw [e] at this
  exact absurd this (by decide)
theorem Sc.locs (x : Sc scope (binds.map (·.1))) : ∀ y ∈ binds, scope.names.lookup y.1 = some .local := fun y hy => of_decide_eq_true (List.all_eq_true.mp x.loc y.1 (List.mem_map.mpr ⟨y, hy, rfl⟩))
theorem Fn.codeRec (f : Fn w.params a c name scope body) {h : Heap} (X : (Mine.hd.heap_39 w.params).In h) : h.CodeRec (fdAt w.params a).code (fdAt w.params a).qualname := by
  rw [f.code, f.qual]
  obtain ⟨tq, h1⟩ := nameIn_some f.codeV
  exact ⟨c, _, _, tq, rfl, X _ _ f.codeO, f.codeD, h1⟩

/-- the call of a generator's function -/
theorem Fn.callGen {Q : Value → Shared → Prop} (f : Fn w.params a c name scope body) (r : Rk 1 A fl) (X : (Mine.hd.heap_39 w.params).In s.heap) (nl : s.heap.NoLimit) (x : Sc scope (binds.map (·.1))) (hgen : scope.isGenerator = true)
    (hb : PK w (bindArgs (fdAt w.params a) ⟨args, []⟩) binds)
    (h : ∀ h' tk ga, Fr s.heap s.heap.objs.size h' (fun x => binds.reverse.lookup x) → h'.IsGen ga s.gens.size → ga ≠ s.heap.objs.size → s.heap.get? ga = none →
      Q (.ref ga) { s with heap := h', toks := tk, gens := s.gens.push (.fresh (.func body (envOf name scope s.heap.objs.size a (.ref c)))) }) :
    wpAny (mdl prog₀ w) A (call (.ref a) args) Q E s := by
  refine wpAny_call (callGenA r.room (X _ _ f.look) f.data (by rw [f.scope]; exact x.co) (by rw [f.scope]; exact hgen) f.body (f.codeRec X) ?_)
  refine lift ((pkLooks X hb) _ _ _ _ (fun _ _ x => x) ?_)
  rw [f.scope, f.glob, f.clos, f.qual, f.code, f.blt]
  refine wpAny_newFunctionEnv x.cells x.locs (fun h₁ hns hsb => ⟨nl.fresh _ hsb, ?_⟩) x.kind
  have F : Fr s.heap s.heap.objs.size h₁ (fun x => binds.reverse.lookup x) := ⟨hns, fun b o e => hsb.extBut b o (Nat.ne_of_lt (Heap.lt_size e)) (Heap.get?_push_of_some _ e), Nat.le_refl _⟩
  have hlt : s.heap.objs.size < h₁.objs.size := let ⟨o, _, _, ho, _⟩ := hns; Heap.lt_size ho
  refine h _ _ _ (F.push _) ⟨_, _, _, Heap.get?_push_size _ rfl, rfl, rfl, rfl⟩ (Nat.ne_of_gt hlt) (Heap.get?_none_of_le (Nat.le_of_lt hlt))

/-- the call of a function -/
theorem Fn.callG {Q : Value → Shared → Prop} (f : Fn w.params a c name scope body) (r : Rk 1 A fl) (X : (Mine.hd.heap_39 w.params).In s.heap) (nl : s.heap.NoLimit) (x : Sc scope (binds.map (·.1))) (hgen : scope.isGenerator = false)
    (hb : PK w (bindArgs (fdAt w.params a) ⟨args, []⟩) binds)
    (h : ∀ h' tk, Fr s.heap s.heap.objs.size h' (fun x => binds.reverse.lookup x) →
      wpG (mdl prog₀ w) (A.deeper (envOf name scope s.heap.objs.size a (.ref c))) (execs body (envOf name scope s.heap.objs.size a (.ref c))) (fun f s' => Q (match f with | .ret v => v | _ => .none) s')
        (fun e s' => wpAny (mdl prog₀ w) (A.deeper (envOf name scope s.heap.objs.size a (.ref c))) (leaving (envOf name scope s.heap.objs.size a (.ref c)) e) (fun _ s'' => E e s'') (fun e' s'' => E e' s'') s') { s with heap := h', toks := tk }) :
    wpG (mdl prog₀ w) A (call (.ref a) args) Q E s := by
  refine gCall (callDefG r.room (X _ _ f.look) f.data (by rw [f.scope]; exact x.co) (by rw [f.scope]; exact hgen) f.body (f.codeRec X) ?_)
  refine lift ((pkLooks X hb) _ _ _ _ (fun _ _ x => x) ?_)
  rw [f.scope, f.glob, f.clos, f.qual, f.code, f.blt]
  refine wpAny_newFunctionEnv x.cells x.locs (fun h₁ hns hsb => ⟨nl.fresh _ hsb, funcG ?_⟩) x.kind
  have F : Fr s.heap s.heap.objs.size h₁ (fun x => binds.reverse.lookup x) := ⟨hns, fun b o e => hsb.extBut b o (Nat.ne_of_lt (Heap.lt_size e)) (Heap.get?_push_of_some _ e), Nat.le_refl _⟩
  exact h h₁ _ F
end

theorem fn105 (P : Params) : Fn P 105 104 (Str.ofString "_obsolete_line_fold") foldScope foldBody :=
  ⟨by kernel_rfl, by kernel_rfl, by kernel_rfl, by kernel_rfl, by kernel_rfl, by kernel_rfl, by kernel_rfl, by kernel_rfl, by kernel_rfl, by kernel_rfl, by kernel_rfl, by kernel_rfl⟩
theorem sc105 : Sc foldScope [Str.ofString "lines"] := ⟨rfl, rfl, by decide +kernel, by decide +kernel⟩
theorem pk105 (w : World) (l : Value) : PK w (bindArgs (fdAt w.params 105) ⟨[l], []⟩) [(Str.ofString "lines", l)] := by kernel_rfl

def decSt : Stmt := topSt 10
def decBody : List Stmt := defBody decSt
def decScope : Scope := defScope decSt
abbrev decEnv (L : Addr) : Env := envOf (Str.ofString "_decode_header_lines") decScope L 112 (.ref 111)
theorem fn112 (P : Params) : Fn P 112 111 (Str.ofString "_decode_header_lines") decScope decBody :=
  ⟨by kernel_rfl, by kernel_rfl, by kernel_rfl, by kernel_rfl, by kernel_rfl, by kernel_rfl, by kernel_rfl, by kernel_rfl, by kernel_rfl, by kernel_rfl, by kernel_rfl, by kernel_rfl⟩
theorem sc112 : Sc decScope [Str.ofString "lines"] := ⟨rfl, rfl, by decide +kernel, by decide +kernel⟩
theorem pk112 (w : World) (l : Value) : PK w (bindArgs (fdAt w.params 112) ⟨[l], []⟩) [(Str.ofString "lines", l)] := by kernel_rfl

def valSt : Stmt := topSt 5
def valBody : List Stmt := defBody valSt
def valScope : Scope := defScope valSt
abbrev valEnv (L : Addr) : Env := envOf (Str.ofString "validate") valScope L 88 (.ref 87)
theorem fn88 (P : Params) : Fn P 88 87 (Str.ofString "validate") valScope valBody :=
  ⟨by kernel_rfl, by kernel_rfl, by kernel_rfl, by kernel_rfl, by kernel_rfl, by kernel_rfl, by kernel_rfl, by kernel_rfl, by kernel_rfl, by kernel_rfl, by kernel_rfl, by kernel_rfl⟩
end Mine

end
section
open PySem PySem.W PySem.W.X PySem.Calls PyProof.Rows PySem.Builtin
set_option maxRecDepth 100000
namespace Mine

section
variable {β : Type} {M : Model} {A : Around} {h₀ base : Heap} {outer : List Env} {Out : List Addr → Heap → Value → β → Prop} {bad : Bool} {outs : List β} {gs : GenState} {P : List Addr} {G : List Nat} {s₀ s₁ s : Shared}

theorem AtW.from (h : AtW h₀ base outer P G s₁ s) (ko : ∀ b o, b ∈ P → s₀.heap.get? b = some o → s₁.heap.get? b = some o) (kg : ∀ g, g ∈ G → s₁.gens[g]? = s₀.gens[g]?) : AtW h₀ base outer P G s₀ s :=
  ⟨fun b o hb q => h.own b o hb (ko b o hb q), fun g hg => (h.gens g hg).trans (kg g hg), h.old, h.fr, h.frP, h.frOld⟩
/-- readiness is carried to any state that agrees on the generator's own -/
theorem Ready.at (h : Ready M A h₀ base outer Out bad outs gs P G s₀) (ko : ∀ b o, b ∈ P → s₀.heap.get? b = some o → s₁.heap.get? b = some o) (kg : ∀ g, g ∈ G → s₁.gens[g]? = s₀.gens[g]?) :
    Ready M A h₀ base outer Out bad outs gs P G s₁ := ready_of fun s a => ready_to h s (a.from ko kg)
end

theorem get_setGen {s : Shared} {g : Nat} {x : GenState} {g' : Nat} (h : g' ≠ g) : (s.setGen g x).gens[g']? = s.gens[g']? := by
  show (s.gens.setIfInBounds g x)[g']? = _
  rw [Array.getElem?_setIfInBounds_ne (Ne.symm h)]
theorem get_setGen_self {s : Shared} {g : Nat} {x : GenState} (h : g < s.gens.size) : (s.setGen g x).gens[g]? = some x := by
  show (s.gens.setIfInBounds g x)[g]? = _
  rw [Array.getElem?_setIfInBounds_self]; simp [h]
theorem size_setGen {s : Shared} {g : Nat} {x : GenState} : (s.setGen g x).gens.size = s.gens.size := by
  show (s.gens.setIfInBounds g x).size = _
  rw [Array.size_setIfInBounds]
theorem bare_setGen {s : Shared} {g : Nat} {x : GenState} (h : AllBare s.gens) (hx : x.bare = true) : AllBare (s.setGen g x).gens := fun y hy => by
  rcases Array.mem_or_eq_of_mem_setIfInBounds hy with h' | rfl
  · exact h y h'
  · exact hx
theorem cd78_mro (P : Params) : (cd78 P).mro = [.ref 78, .ref 58, .type "Exception", .type "BaseException", .type "object"] := by kernel_rfl
theorem mro78 (w : World) {h : Heap} {e d : Addr} {vs : Array Value} (X : (Mine.hd.heap_39 w.params).In h) (he : h.get? e = some (excObj d vs)) : ∃ C mro, InstOf h e C mro ∧ mro.isEmpty = false ∧ mro.contains (.type "StopIteration") = false := by
  exact ⟨78, _, ⟨⟨_, he, rfl⟩, ⟨_, cd78 w.params, X _ _ (k78 _), cd78_data _, cd78_mro _⟩⟩, rfl, by decide +kernel⟩

section
variable {β : Type} {w : World} {A : Around} {h₀ : Heap} {outer : List Env} {Out : List Addr → Heap → Value → β → Prop} {bad : Bool} {outs : List β} {gs : GenState} {P : List Addr} {G : List Nat} {s₀ s₁ s : Shared}
  {a : Addr} {g : Nat} {Q : Option Value → Shared → Prop} {E : Value → Shared → Prop}

theorem Woke.around {s' : Shared} {P' : List Addr} {G' : List Nat} {x : GenState} (W : Woke P G (s.setGen g .running) s' P' G') (hx : x.bare = true) : Woke P (g :: G) s (s'.setGen g x) P' (g :: G') := by
  refine ⟨W.keep, fun g' hg hG => ?_, ?_, fun hb => bare_setGen (W.bare (bare_setGen hb rfl)) hx, W.os, W.newP, fun g' hg => ?_⟩
  · have ne : g' ≠ g := fun e => hG (by rw [e]; exact .head _)
    rw [get_setGen ne, W.gkeep g' (by rw [size_setGen]; exact hg) fun q => hG (.tail _ q), get_setGen ne]
  · rw [size_setGen]; have := W.gsize; rw [size_setGen] at this; exact this
  · rcases List.mem_cons.mp hg with rfl | hg
    · exact .inl (.head _)
    · rcases W.newG g' hg with q | q
      · exact .inl (.tail _ q)
      · rw [size_setGen] at q; exact .inr q

/-- `next` on a generator that is ready -/
theorem nextReady {k : Nat} (r : Rk k A outer) (X : (Mine.hd.heap_39 w.params).In h₀) (nl : h₀.NoLimit) (Rd : Ready (mdl prog₀ w) A.in1 h₀ h₀ outer Out bad outs gs P G s₀) (at' : AtW h₀ h₀ outer P G s₀ s)
    (hg : s.heap.IsGen a g) (hgs : s.gens[g]? = some gs) (gG : g ∉ G) (aP : a ∉ P) (aF : a ∉ framesOf outer) (P0 : ∀ b ∈ P, h₀.get? b = none)
    (hsome : ∀ b outs', outs = b :: outs' → ∀ v s' P' G' gs', Out P' s'.heap v b → Woke P (g :: G) s s' P' (g :: G') → s'.gens[g]? = some gs' → g ∉ G' → Ready (mdl prog₀ w) A.in1 h₀ h₀ outer Out bad outs' gs' P' G' s' → Q (some v) s')
    (hnone : outs = [] → bad = false → ∀ s' P' G', Woke P (g :: G) s s' P' (g :: G') → Q none s')
    (hbad : outs = [] → bad = true → ∀ e d s', Flying P (framesOf outer) s.heap e d (some .none) s'.heap → (∀ g', g' < s.gens.size → g' ∉ g :: G → s'.gens[g']? = s.gens[g']?) → s.gens.size ≤ s'.gens.size → (AllBare s.gens → AllBare s'.gens) → s'.os = s.os → E (.ref e) s') :
    wpG (mdl prog₀ w) A (pyNext (.ref a)) Q E s := by
  have hlt : g < s.gens.size := (Array.getElem?_eq_some_iff.mp hgs).1
  have atR : AtW h₀ h₀ outer P G s₀ (s.setGen g .running) := ⟨at'.own, fun g' hg' => (get_setGen (fun e : g' = g => gG (e ▸ hg'))).trans (at'.gens g' hg'), at'.old, at'.fr, at'.frP, at'.frOld⟩
  refine nextGenG r.hd (nl.keeps at'.old) r.room hg hgs (ready_to Rd _ atR) fun e s₁ hq hp => ?_
  cases outs with
  | cons b outs' =>
    obtain ⟨v, gd, l, k', c, p, fs, P', G', rfl, hO, W, R⟩ := hp
    show Q (some v) _
    have hb : (End.susp v gd l k' c p fs).genState.bare = true := End.bare_of_quiet hq
    have gG' : g ∉ G' := fun q => by
      rcases W.newG g q with q | q
      · exact gG q
      · rw [size_setGen] at q; omega
    have hsz : s.gens.size ≤ s₁.gens.size := by have := W.gsize; rw [size_setGen] at this; exact this
    refine hsome b outs' rfl v _ P' G' _ hO (W.around hb) (get_setGen_self (Nat.lt_of_lt_of_le hlt hsz)) gG' (R.at (fun _ _ _ q => q) fun g' hg' => get_setGen fun q : g' = g => gG' (q ▸ hg'))
  | nil =>
    cases bad with
    | false =>
      obtain ⟨rfl, P', G', W⟩ := hp
      show ∀ h', (∀ b o, s₁.heap.get? b = some o → h'.get? b = some o) → Q none { s₁.setGen g .finished with heap := h' }
      intro h' hk
      have W' := W.around (g := g) (x := .finished) rfl
      have W'' : Woke P' (g :: G') (s₁.setGen g .finished) { s₁.setGen g .finished with heap := h' } P' (g :: G') := .heap (tk := (s₁.setGen g .finished).toks) (fun b o _ q => hk b o q) fun b hb => .inl hb
      exact hnone rfl rfl _ P' G' (W'.trans W'')
    | true =>
      obtain ⟨x, d, rfl, f, g1, g2, g3, g4⟩ := hp
      have out : ∀ b, b ∈ framesOf outer → b ∉ P := at'.frP
      have h0 : ∀ b o, h₀.get? b = some o → s₁.heap.get? b = some o := fun b o q => f.keep b o (fun hP => by rw [P0 b hP] at q; cases q) (fun hS => by rw [at'.frOld b hS] at q; cases q) (at'.old b o q)
      obtain ⟨vs, he, _⟩ := f.exc
      refine ⟨mro78 w (X.keeps h0) he, ?_, hbad rfl rfl x d _ f ?_ ?_ ?_ g4⟩
      · obtain ⟨o, nm, qn, ho, hr⟩ := hg
        exact ⟨o, nm, qn, f.keep a o aP aF ho, hr⟩
      · intro g' hg' hG
        have ne : g' ≠ g := fun e => hG (by rw [e]; exact .head _)
        rw [get_setGen ne, g1 g' (by rw [size_setGen]; exact hg') fun q => hG (.tail _ q), get_setGen ne]
      · rw [size_setGen]; rw [size_setGen] at g2; exact g2
      · exact fun hb => bare_setGen (g3 (bare_setGen hb rfl)) rfl
end
end Mine

end
section
open PySem PySem.W PySem.W.X PySem.Calls PyProof.Rows PySem.Builtin
set_option maxRecDepth 100000
namespace Mine

/-- a reading tree that makes one object -/
theorem makesOne {α : Type} {K : Frag} {M : Model} {A : Around} {E : Value → Shared → Prop} {Q : α → Shared → Prop} {s : Shared} {o : Obj} {r : Addr → α} (X : K.In s.heap) (t : Sem α)
    (h1 : (peek1 K ⟨M.prog, M.w.params⟩ t).map (·.1) = some o) (h2 : ∀ D, ((peek1 K ⟨M.prog, M.w.params⟩ t).bind fun x => x.2 D) = some (r D))
    (q : Q (r s.heap.objs.size) { s with heap := s.heap.push o }) : wpAny M A t Q E s := by
  induction t with
  | rule _ k ih => exact fun Γ p hΓ => ih () h1 h2 Γ p hΓ
  | point _ k ih => exact fun Γ p hΓ => ih () h1 h2 Γ p hΓ
  | ask k ih => exact fun Γ p hΓ => ih _ h1 h2 Γ p hΓ
  | load a pt k ih =>
    cases hk : K.lookup a with
    | none => simp only [peek1, hk] at h1; cases h1
    | some x =>
      simp only [peek1, hk] at h1 h2
      exact fun Γ p hΓ => ⟨x, X _ _ hk, ih x h1 h2 Γ p hΓ⟩
  | alloc x k _ =>
    have e1 : x = o := Option.some.inj h1
    subst e1
    have h2 : ∀ D, peek K ⟨M.prog, M.w.params⟩ (k D) = some (r D) := h2
    refine wpAny_bind (m := alloc x) (wpAny_alloc ?_)
    exact (Looks.of_peek (X.keeps fun b y e => Heap.get?_push_of_some _ e) (h2 _)) _ _ _ _ (fun _ _ e => e) q
  | _ => cases h1

abbrev valBinds (v m D : Value) : List (Str × Value) := [(Str.ofString "regex", .ref 93), (Str.ofString "data", v), (Str.ofString "msg", m), (Str.ofString "format_args", D)]
theorem pk88o (w : World) (v : Value) (m : Str) (t : Tok) : (peek1 (Mine.hd.heap_39 w.params) ⟨prog₀, w.params⟩ (bindArgs (fdAt w.params 88) ⟨[.ref 93, v, .str m t, v], []⟩)).map (·.1) = some (tupObj [v]) := by kernel_rfl
theorem pk88b (w : World) (v : Value) (m : Str) (t : Tok) (D : Addr) : ((peek1 (Mine.hd.heap_39 w.params) ⟨prog₀, w.params⟩ (bindArgs (fdAt w.params 88) ⟨[.ref 93, v, .str m t, v], []⟩)).bind fun x => x.2 D) = some (valBinds v (.str m t) (.ref D)) := by kernel_rfl
theorem sc88' : Sc valScope [Str.ofString "regex", Str.ofString "data", Str.ofString "msg", Str.ofString "format_args"] := ⟨rfl, rfl, by decide +kernel, by decide +kernel⟩
theorem sc88 (v m D : Value) : Sc valScope ((valBinds v m D).map (·.1)) := sc88'
example : valBody.length = 3 := rfl

section
variable {w : World} {A : Around} {E : Value → Shared → Prop} {s : Shared} {fl : List Env}
/-- the call of validate -/
theorem callVal {v : Value} {m : Str} {t : Tok} {Q : Value → Shared → Prop} (r : Rk 1 A fl) (X : (Mine.hd.heap_39 w.params).In s.heap) (nl : s.heap.NoLimit)
    (h : ∀ g h' tk D, (∀ b o, s.heap.get? b = some o → g.get? b = some o) → s.heap.objs.size ≤ g.objs.size → Fr g g.objs.size h' (fun x => (valBinds v (.str m t) (.ref D)).reverse.lookup x) →
      wpG (mdl prog₀ w) (A.deeper (valEnv g.objs.size)) (execs valBody (valEnv g.objs.size)) (fun f s' => Q (match f with | .ret v => v | _ => .none) s')
        (fun e s' => wpAny (mdl prog₀ w) (A.deeper (valEnv g.objs.size)) (leaving (valEnv g.objs.size) e) (fun _ s'' => E e s'') (fun e' s'' => E e' s'') s') { s with heap := h', toks := tk }) :
    wpG (mdl prog₀ w) A (call (.ref 88) [.ref 93, v, .str m t, v]) Q E s := by
  have f := fn88 w.params
  refine gCall (callDefG r.room (X _ _ f.look) f.data (by rw [f.scope]; rfl) (by rw [f.scope]; rfl) f.body (f.codeRec X) ?_)
  refine lift (makesOne X _ (pk88o w v m t) (fun D => pk88b w v m t D) ?_)
  rw [f.scope, f.glob, f.clos, f.qual, f.code, f.blt]
  have k₁ : ∀ b o, s.heap.get? b = some o → (s.heap.push (tupObj [v])).get? b = some o := fun b o e => Heap.get?_push_of_some _ e
  refine wpAny_newFunctionEnv (sc88 v (.str m t) (.ref s.heap.objs.size)).cells (Sc.locs (binds := valBinds v (.str m t) (.ref s.heap.objs.size)) (sc88 _ _ _)) (fun h₁ hns hsb => ⟨(nl.keeps k₁).fresh _ hsb, funcG ?_⟩) rfl
  refine h (s.heap.push (tupObj [v])) h₁ _ s.heap.objs.size k₁ (by rw [Heap.size_push]; omega) ⟨hns, fun b o e => hsb.extBut b o (Nat.ne_of_lt (Heap.lt_size e)) (Heap.get?_push_of_some _ e), Nat.le_refl _⟩
end
end Mine

end
section
open PySem PySem.W PySem.W.X PySem.Calls PyProof.Rows PySem.Builtin PySem.Builtin.Re
set_option maxRecDepth 100000
namespace Mine
abbrev kName : Str := Str.ofString "field_name"
abbrev kValue : Str := Str.ofString "field_value"
theorem pk_pat93 (w : World) : PK w (fieldsOf (.ref 93)) (fieldsIn (objAt w.params 93)) := by kernel_rfl
theorem gi93 (w : World) : (fieldsIn (objAt w.params 93)).getD 3 .none = .ref 90 := by kernel_rfl
theorem k90 (P : Params) : (Mine.hd.heap_39 P).lookup 90 = some (objAt P 90) := by kernel_rfl
def entriesIn : Obj → Array DictEntry
  | ⟨_, _, .dict es _, _⟩ => es
  | _ => #[]
def epochIn : Obj → Nat
  | ⟨_, _, .dict _ ep, _⟩ => ep
  | _ => 0
theorem d90 (P : Params) : (objAt P 90).data = .dict (entriesIn (objAt P 90)) (epochIn (objAt P 90)) := by kernel_rfl
theorem e90 (P : Params) : entriesIn (objAt P 90) = #[⟨PyData.keyHash P kName, .str kName 474, .int 1 475⟩, ⟨PyData.keyHash P kValue, .str kValue 476, .int 2 477⟩] := by kernel_rfl
theorem x90 (P : Params) : (objAt P 90).ExactDict := ⟨by kernel_rfl, by kernel_rfl, by kernel_rfl⟩
theorem str_noIndex : typeLookup (.type "str") "__index__" = pure none := by rw [typeLookup_type, builtinLookup_eq_fast]; kernel_rfl
abbrev sk (w : World) : KeyKind prog₀ w Str := strKind prog₀ w
def giMap : Str → Option Value := fun k => if k = kName then some (.int 1 475) else if k = kValue then some (.int 2 477) else none
theorem map90 {w : World} {h : Heap} (X : (Mine.hd.heap_39 w.params).In h) : h.MapOf (sk w) 90 giMap := by
  refine ⟨_, _, _, X _ _ (k90 _), x90 _, d90 _, ?_, ?_⟩
  · rw [e90]
    intro e he
    simp at he
    rcases he with rfl | rfl
    · exact ⟨kName, by show Value.isStrOf kName (.str kName 474) = true; simp [Value.isStrOf], by kernel_rfl⟩
    · exact ⟨kValue, by show Value.isStrOf kValue (.str kValue 476) = true; simp [Value.isStrOf], by kernel_rfl⟩
  · intro k
    rw [e90]
    show findBy (fun k v => Value.isStrOf k v) #[_, _] k = _
    by_cases h : k = kName
    · subst h; rfl
    · by_cases h' : k = kValue
      · subst h'; rfl
      · rw [show giMap k = none from by unfold giMap; rw [if_neg h, if_neg h']]
        have n1 : (kName == k) = false := beq_false_of_ne (Ne.symm h)
        have n2 : (kValue == k) = false := beq_false_of_ne (Ne.symm h')
        simp [findBy, Value.isStrOf, n1, n2]

section
variable {w : World} {A : Around} {E : Value → Shared → Prop} {s : Shared}
theorem groupNo {x : ReFound} {k : Str} {t : Tok} {i : Nat} {ti : Tok} {Q : Nat → Shared → Prop} (X : (Mine.hd.heap_39 w.params).In s.heap) (h1 : x.fields.getD 1 .none = .ref 93) (h8 : x.spans.size = 8) (hi : i < 4)
    (hk : giMap k = some (.int i ti)) (h : Q i { s with toks := s.toks + 1 }) : wpAny (model prog₀ w) A (reGroupNumber x (.str k t)) Q E s := by
  unfold reGroupNumber
  show wpAny _ _ (asInt? (.str k t) >>= _) _ _ s
  refine wpAny_bind (wpAny_pure ?_)
  show wpAny _ _ (specialOf (.str k t) (Str.ofString "__index__") >>= _) _ _ s
  refine wpAny_bind (wpAny_specialOf (typeIs_str _ _ _) str_noIndex ?_)
  show wpAny _ _ (fieldsOf (x.fields.getD 1 .none) >>= _) _ _ s
  rw [h1]
  refine wpAny_bind ((pkLooks X (pk_pat93 w)) _ _ _ _ (fun _ _ x => x) ?_)
  rw [gi93]
  show wpAny _ _ (dictGet 90 (.str k t) >>= _) _ _ s
  refine wpAny_bind (wpAny_dictGet_of (knd := sk w) (k := k) (by show Value.isStrOf k (.str k t) = true; simp [Value.isStrOf]) (map90 X) ?_)
  rw [hk]
  show wpAny _ _ (asInt? (.int i ti) >>= _) _ _ _
  refine wpAny_bind (wpAny_pure ?_)
  show wpAny _ _ (if (decide ((i : Int) < 0) || decide (2 * (i : Int) ≥ ((x.spans.size : Nat) : Int))) = true then _ else pure (Int.toNat (i : Int))) _ _ _
  rw [if_neg (by rw [h8]; simp; omega)]
  exact wpAny_pure h
theorem cutText (b : Array UInt8) (i j : Nat) : ((b.map (·.toNat)).extract i j).map (·.toUInt8) = b.extract i j := by
  rw [← Array.map_extract, Array.map_map]
  have : ((fun x : Nat => x.toUInt8) ∘ fun x : UInt8 => x.toNat) = _root_.id := by
    funext x
    show x.toNat.toUInt8 = x
    simp
  rw [this, Array.map_id]
theorem groupText {M : Model} {x : ReFound} {g i j : Nat} {v d : Value} {b : Array UInt8} {Q : Value → Shared → Prop} (hv : OctAt s.heap v b) (hz : b.size ≤ 1000) (h0 : x.fields.getD 0 .none = v) (hb : x.spans.getD (2 * g) (-1) = (i : Int)) (he : x.spans.getD (2 * g + 1) (-1) = (j : Int))
    (h : Q (.bytes (b.extract i j) s.toks) { s with toks := s.toks + 1 }) : wpAny M A (reGroupText x g d) Q E s := by
  unfold reGroupText
  simp only [hb, he, h0]
  rw [if_neg (by simp)]
  refine wpAny_bind (textOf hv ?_)
  show wpAny _ _ (mkBytes _) _ _ _
  have e : (((b.map (·.toNat)).extract (i : Int).toNat (j : Int).toNat).map (·.toUInt8)) = b.extract i j := cutText b _ _
  show wpAny _ _ (mkBytes (((b.map (·.toNat)).extract (i : Int).toNat (j : Int).toNat).map (·.toUInt8))) _ _ _
  rw [e]
  refine wpAny_mkBytes h ?_
  rw [sizeLine_eq]
  have : (b.extract i j).size ≤ b.size := by rw [Array.size_extract]; omega
  omega

theorem groupdict {mt tup : Addr} {v : Value} {b : Array UInt8} {n st e : Nat} {li hd x y : Int} {Q : Value → Shared → Prop} (X : (Mine.hd.heap_39 w.params).In s.heap) (hm : s.heap.get? mt = some (matObj v 93 b.size li tup))
    (ht : s.heap.get? tup = some (tupObj [rawInt 0, rawInt hd, rawInt (0 : Nat), rawInt n, rawInt st, rawInt e, rawInt x, rawInt y])) (hv : OctAt s.heap v b) (hz : b.size ≤ 1000)
    (h : ∀ d h' tk t1 t2, h'.DictOf (sk w) d [(kName, .bytes (b.extract 0 n) t1), (kValue, .bytes (b.extract st e) t2)] → s.heap.get? d = none → (∀ b o, s.heap.get? b = some o → h'.get? b = some o) → Q (.ref d) { s with heap := h', toks := tk }) :
    wpAny (mdl prog₀ w) A (call (.builtin "re.Match.groupdict") [.ref mt]) Q E s := by
  refine callOwnA (rest := []) slot_re_Match_groupdict ⟨_, hm, rfl⟩ entry_re_Match_groupdict (by unfold argsOk; kernel_rfl) rfl (lift ?_)
  unfold Builtin.«re.Match.groupdict»
  refine wpAny_bind (m := reWithDefault _ _ _) ?_
  unfold reWithDefault
  show wpAny _ _ (reNamed _ _ _ _ _ _ >>= _) _ _ _
  refine wpAny_bind (wpAny_of_eq (a := [none]) (by rfl) ?_)
  show wpAny _ _ (reFound (.ref mt) >>= _) _ _ _
  refine wpAny_bind ?_
  unfold reFound
  refine wpAny_bind (wpAny_fieldsOf hm rfl ?_)
  show wpAny _ _ (reRawItems (.ref tup) >>= _) _ _ _
  unfold reRawItems
  refine wpAny_bind (wpAny_bind (wpAny_seqItems ht rfl ?_))
  refine wpAny_pure (wpAny_pure (wpAny_pure ?_))
  dsimp only
  have hsp : Array.map reRawOf ((some [rawInt 0, rawInt hd, rawInt (0 : Nat), rawInt n, rawInt st, rawInt e, rawInt x, rawInt y].toArray).getD #[]) = #[0, hd, ((0 : Nat) : Int), (n : Int), (st : Int), (e : Int), x, y] := by simp [reRawOf, rawInt]
  rw [hsp]
  generalize hx : ({ fields := #[v, .ref 93, rawInt 0, rawInt b.size, rawInt li, .ref tup], spans := #[0, hd, ((0 : Nat) : Int), (n : Int), (st : Int), (e : Int), x, y] } : ReFound) = rf
  have s8 : rf.spans.size = 8 := by rw [← hx]; rfl
  have f1 : rf.fields.getD 1 .none = .ref 93 := by rw [← hx]; rfl
  have f0 : rf.fields.getD 0 .none = v := by rw [← hx]; rfl
  have g2 : rf.spans.getD (2 * 1) (-1) = ((0 : Nat) : Int) := by rw [← hx]; rfl
  have g3 : rf.spans.getD (2 * 1 + 1) (-1) = (n : Int) := by rw [← hx]; rfl
  have g4 : rf.spans.getD (2 * 2) (-1) = (st : Int) := by rw [← hx]; rfl
  have g5 : rf.spans.getD (2 * 2 + 1) (-1) = (e : Int) := by rw [← hx]; rfl
  show wpAny _ _ (newDict >>= _) _ _ _
  unfold newDict
  refine wpAny_bind (wpAny_newObj_type ?_ (by size_fits))
  have k₁ : ∀ b o, s.heap.get? b = some o → (s.heap.push { cls := .type "dict", data := .dict #[] }).get? b = some o := fun b o q => Heap.get?_push_of_some _ q
  have D₁ : (s.heap.push { cls := .type "dict", data := .dict #[] }).DictOf (sk w) s.heap.objs.size [] := ⟨_, #[], 0, Heap.get?_push_size _ rfl, ⟨rfl, rfl, rfl⟩, rfl, fun e he => by simp at he, by first | trivial | exact .nil, List.nodup_nil⟩
  have X₁ := X.keeps k₁
  have hd0 : s.heap.get? s.heap.objs.size = none := Heap.get?_none_of_le (Nat.le_refl _)
  show wpAny _ _ (fieldsOf (.ref 93) >>= _) _ _ _
  refine wpAny_bind ((pkLooks X₁ (pk_pat93 w)) _ _ _ _ (fun _ _ x => x) ?_)
  rw [gi93]
  show wpAny _ _ (dictEntries 90 >>= _) _ _ _
  refine wpAny_bind (wpAny_dictEntries (X₁ _ _ (k90 _)) (d90 _) ?_)
  rw [e90]
  have hvk : ∀ {h' : Heap}, (∀ b o, b ≠ s.heap.objs.size → (s.heap.push { cls := .type "dict", data := .dict #[] }).get? b = some o → h'.get? b = some o) → OctAt h' v b := fun hk => hv.keep fun a e o ho => hk a o (fun q => by rw [q, hd0] at ho; cases ho) (k₁ _ _ ho)
  have XK : ∀ {h' : Heap}, (∀ b o, b ≠ s.heap.objs.size → (s.heap.push { cls := .type "dict", data := .dict #[] }).get? b = some o → h'.get? b = some o) → (Mine.hd.heap_39 w.params).In h' := fun hk a o ho => hk a o (fun q => by have := X a o ho; rw [q, hd0] at this; cases this) (X₁ a o ho)
  refine wpAny_bind ?_
  rw [List.forIn_toArray, List.forIn_cons]
  refine wpAny_bind (wpAny_bind (wpAny_holding ?_))
  refine wpAny_bind (groupNo (i := 1) X₁ f1 s8 (by decide) (ti := 475) (by rfl) ?_)
  refine wpAny_bind (groupText (i := 0) (j := n) (hvk fun b o _ q => q) hz f0 g2 g3 ?_)
  refine wpAny_dictSet_pairs (knd := sk w) (k := kName) (by show Value.isStrOf kName (.str kName 474) = true; simp [Value.isStrOf]) D₁ (fun h₂ D₂ hs₂ => ?_) (by size_fits)
  refine wpAny_pure ?_
  dsimp only
  rw [List.forIn_cons]
  have k₂ : ∀ b o, b ≠ s.heap.objs.size → (s.heap.push { cls := .type "dict", data := .dict #[] }).get? b = some o → h₂.get? b = some o := fun b o hb q => (hs₂.2 b hb).trans q
  refine wpAny_bind (wpAny_bind (wpAny_holding ?_))
  refine wpAny_bind (groupNo (i := 2) (XK k₂) f1 s8 (by decide) (ti := 477) (by rfl) ?_)
  refine wpAny_bind (groupText (i := st) (j := e) (hvk k₂) hz f0 g4 g5 ?_)
  refine wpAny_dictSet_pairs (knd := sk w) (k := kValue) (by show Value.isStrOf kValue (.str kValue 476) = true; simp [Value.isStrOf]) D₂ (fun h₃ D₃ hs₃ => ?_) (by rw [sizeLine_eq]; show 1 ≤ _; decide)
  refine wpAny_pure ?_
  dsimp only
  rw [List.forIn_nil]
  refine wpAny_pure (wpAny_pure ⟨_, rfl, ?_⟩)
  exact h _ h₃ _ _ _ D₃ hd0 fun b o q => (hs₃.2 b fun e => by rw [e, hd0] at q; cases q).trans (k₂ b o (fun e => by rw [e, hd0] at q; cases q) (k₁ b o q))
end
end Mine

end
section
open PySem PySem.W PySem.W.X PySem.Calls PyProof.Rows PySem.Builtin
set_option maxRecDepth 100000
namespace Mine

def refs (vs : List Value) : List Addr := vs.filterMap fun v => match v with | .ref a => some a | _ => none
theorem mem_refs {vs : List Value} {a : Addr} : a ∈ refs vs ↔ .ref a ∈ vs := by
  unfold refs
  rw [List.mem_filterMap]
  constructor
  · rintro ⟨v, hv, e⟩
    cases v <;> first | (cases e; exact hv) | cases e
  · exact fun h => ⟨_, h, rfl⟩
theorem Octs.there {h : Heap} : ∀ {vs : List Value} {bs : List Oct}, Octs h vs bs → ∀ a, .ref a ∈ vs → ∃ o, h.get? a = some o
  | [], [], _, _, hm => nomatch hm
  | v :: _, _ :: _, ⟨h1, h2⟩, a, hm => by
    rcases List.mem_cons.mp hm with e | hm
    · rcases h1 with ⟨t, q⟩ | ⟨x, q, hx⟩
      · rw [q] at e; cases e
      · rw [q] at e; cases e; exact ⟨_, hx⟩
    · exact Octs.there h2 a hm
  | [], _ :: _, x, _, _ => x.elim
  | _ :: _, [], x, _, _ => x.elim

/-- a fresh fold generator is ready -/
theorem foldReady {w : World} {A : Around} {h₀ : Heap} {outer : List Env} {L l : Addr} {vals : List Value} {s₀ : Shared} {mg mb : Str → Option Value} {mean : ExcName → Option Value} {n : Nat} {items : List Oct}
    (r : Rk 8 A outer) (X : (Mine.hd.heap_39 w.params).In h₀) (T : Top view₀ (looseW view₀ loose₀) mean mg mb h₀) (nl : h₀.NoLimit) (ns : s₀.heap.Ns L (foldMap₀ l)) (above : h₀.objs.size ≤ L)
    (hl : s₀.heap.get? l = some (listObj vals n)) (ho : Octs s₀.heap vals items) (hz : szOf none items ≤ 900) (hap : (Value.ref L :: Value.ref l :: vals).Pairwise Apart) (hfr : ∀ a ∈ L :: l :: refs vals, h₀.get? a = none) :
    Ready (mdl prog₀ w) A h₀ h₀ outer OctOut (foldOut none items).2 (foldOut none items).1 (.fresh (.func foldBody (foldEnv L))) (L :: l :: refs vals) [] s₀ := by
  have memP : ∀ v ∈ Value.ref L :: Value.ref l :: vals, ∀ a, v = .ref a → a ∈ L :: l :: refs vals := fun v hv a e => by
    subst e
    rcases List.mem_cons.mp hv with q | hv
    · cases q; exact .head _
    rcases List.mem_cons.mp hv with q | hv
    · cases q; exact .tail _ (.head _)
    · exact .tail _ (.tail _ (mem_refs.mpr hv))
  refine ready_of fun s a => ⟨rfl, ?_⟩
  refine foldFresh r X T nl ⟨ns.at' fun o q => a.own _ _ (.head _) q, a.old, above⟩ (a.own _ _ (.tail _ (.head _)) hl) (ho.keep fun v hv b e o q => a.own _ _ (memP v (.tail _ (.tail _ hv)) b e) q) hz a.fr a.frP (.head _) hap memP hfr fun b hb => ?_
  have there : ∃ o, s₀.heap.get? b = some o := by
    rcases List.mem_cons.mp hb with rfl | hb'
    · obtain ⟨o, _, _, q, _⟩ := ns; exact ⟨o, q⟩
    rcases List.mem_cons.mp hb' with rfl | hb'
    · exact ⟨_, hl⟩
    · exact ho.there b (mem_refs.mp hb')
  obtain ⟨o, q⟩ := there
  exact ⟨o, a.own b o hb q⟩
end Mine

end
section
open PySem PySem.W PySem.W.X PySem.Calls PyProof.Rows PySem.Builtin
set_option maxRecDepth 100000
namespace Mine
theorem warm8 : (∀ P, Mine.hd.heap_39 P = Mine.hd.heap_39 P) ∧ PySem.Challenge.rw_ae6005_01 = PySem.Challenge.rw_ae6005_01 := by
  k_fill
  exact ⟨fun _ => rfl, rfl⟩
abbrev valMap (v m D : Value) (match? : Option Value) : Str → Option Value := fun y =>
  if y = Str.ofString "match" then match? else if y = Str.ofString "format_args" then some D else if y = Str.ofString "msg" then some m else if y = Str.ofString "data" then some v else if y = Str.ofString "regex" then some (.ref 93) else none
theorem valMap_start (v m D : Value) : (fun x => (valBinds v m D).reverse.lookup x) = valMap v m D none := by
  funext y
  show List.lookup y [_, _, _, _] = _
  unfold valMap
  by_cases h : y = Str.ofString "match"
  · subst h; rfl
  rw [if_neg h]
  by_cases h1 : y = Str.ofString "format_args"
  · subst h1; rfl
  rw [if_neg h1, List.lookup_cons, beq_false_of_ne h1]
  by_cases h2 : y = Str.ofString "msg"
  · subst h2; rfl
  rw [if_neg h2, List.lookup_cons, beq_false_of_ne h2]
  by_cases h3 : y = Str.ofString "data"
  · subst h3; rfl
  rw [if_neg h3, List.lookup_cons, beq_false_of_ne h3]
  by_cases h4 : y = Str.ofString "regex"
  · subst h4; rfl
  rw [if_neg h4, List.lookup_cons, beq_false_of_ne h4]
  rfl
theorem valMap_match (v m D : Value) (x : Option Value) (u : Value) : (fun y => if y = Str.ofString "match" then some u else valMap v m D x y) = valMap v m D (some u) := by
  funext y; simp only [valMap]; split <;> rfl
theorem pat93Type {w : World} {h : Heap} (X : (Mine.hd.heap_39 w.params).In h) : ∃ o, h.get? 93 = some o ∧ o.cls = .type "re.Pattern" ∧ o.dict = none := by
  obtain ⟨o, fs, tup, ho, hc, hd, _⟩ := (pat93 X).obj
  exact ⟨o, ho, hc, hd⟩

section
variable {w : World} {s : Shared} {h₀ : Heap} {L : Addr} {v m D : Value} {news : List (Addr × Obj)} {mg mb : Str → Option Value} {mean : ExcName → Option Value} {A : Around} {b : Array UInt8} {E : Value → Shared → Prop}
set_option maxHeartbeats 4000000 in
theorem val1 {mx : Option Value} {Q : Flow → Shared → Prop} (X : (Mine.hd.heap_39 w.params).In h₀) (F : Fr h₀ L s.heap (valMap v m D mx))
    (N : News h₀ L s.heap news) (hv : OctAt s.heap v b) (hz : b.size ≤ 1000)
    (h0 : Rx.NoHdr (b.map (·.toNat)) → ∀ h' tk, Fr h₀ L h' (valMap v m D (some .none)) → News h₀ L h' news → Q .next { s with heap := h', toks := tk })
    (h1 : ∀ n st e, Rx.Hdr (b.map (·.toNat)) n st e → ∀ h' tk a li tup hd x y, Fr h₀ L h' (valMap v m D (some (.ref a))) →
      News h₀ L h' ((a, matObj v 93 b.size li tup) :: (tup, tupObj [rawInt 0, rawInt (hd : Nat), rawInt (0 : Nat), rawInt n, rawInt st, rawInt e, rawInt x, rawInt y]) :: news) → Q .next { s with heap := h', toks := tk }) :
    wpAny (mdl prog₀ w) A (exec (valBody.getD 0 (.Pass default)) (valEnv L)) Q E s := by
  show wpAny _ _ (exec (Stmt.Assign _ _ _) (envOf _ { kind := _, names := _, isGenerator := _, isCoroutine := _, more := _ } _ _ _)) _ _ _
  have X' := X.keeps F.keep
  obtain ⟨o, ho, hc, hd⟩ := pat93Type X'
  repeat' (first | walk1 | (dsimp only; walk1))
  refine getMethod_builtin ⟨o, ho, hc⟩ plain_re_Pattern slot_re_Pattern_fullmatch type_re_Pattern_fullmatch (fun a e => by cases e; exact ⟨o, ho, hd⟩) ?_
  dsimp only
  repeat' (first | walk1 | (dsimp only; walk1))
  refine hdrMatch (pat93 X') hv hz (fun hl => ?_) (fun n st e hl li hd x y => ?_)
  · refine stN F N fun h' F' N' => ?_
    rw [valMap_match] at F'
    exact h0 hl h' _ F' N'
  · have F₁ := F.push (tupObj [rawInt 0, rawInt (hd : Nat), rawInt (0 : Nat), rawInt n, rawInt st, rawInt e, rawInt x, rawInt y])
    have N₁ := News.push F N (tupObj [rawInt 0, rawInt (hd : Nat), rawInt (0 : Nat), rawInt n, rawInt st, rawInt e, rawInt x, rawInt y])
    have F₂ := F₁.push (matObj v 93 b.size li s.heap.objs.size)
    have N₂ := News.push F₁ N₁ (matObj v 93 b.size li s.heap.objs.size)
    have e' : (s.heap.push (tupObj [rawInt 0, rawInt (hd : Nat), rawInt (0 : Nat), rawInt n, rawInt st, rawInt e, rawInt x, rawInt y])).objs.size = s.heap.objs.size + 1 := by simp [Heap.push]
    rw [e'] at N₂
    refine stN F₂ N₂ fun h' F' N' => ?_
    rw [valMap_match] at F'
    exact h1 n st e hl h' _ _ _ _ _ _ _ F' N'

def vTest : Expr := ifTestOf (valBody.getD 1 (.Pass default))
def vRaise : Stmt := (ifThen (valBody.getD 1 (.Pass default))).getD 0 (.Pass default)
example : (ifThen (valBody.getD 1 (.Pass default))).length = 1 := rfl
set_option maxHeartbeats 4000000 in
theorem valTest {mv : Value} {bb : Bool} {Q : Bool → Shared → Prop} (F : Fr h₀ L s.heap (valMap v m D (some mv))) (hm : (mv = .none ∧ bb = false) ∨ (bb = true ∧ ∃ a o, mv = .ref a ∧ s.heap.get? a = some o ∧ o.cls = .type "re.Match")) (h : Q (!bb) s) :
    wpAny (mdl prog₀ w) A (isTrue vTest (valEnv L) (eval vTest (valEnv L))) Q E s := by
  show wpAny _ _ (isTrue (Expr.UnaryOp _ _ _) (envOf _ { kind := _, names := _, isGenerator := _, isCoroutine := _, more := _ } _ _ _) (eval (Expr.UnaryOp _ _ _) (envOf _ { kind := _, names := _, isGenerator := _, isCoroutine := _, more := _ } _ _ _))) _ _ _
  repeat' (first | walk1 | (dsimp only; walk1))
  rcases hm with ⟨rfl, rfl⟩ | ⟨rfl, a, o, rfl, ho, hc⟩
  · exact wpAny_pure h
  · exact truthyMatch ho hc h
theorem pk_lpeV (w : World) (L : Addr) : PK w (loadName (valEnv L) (Str.ofString "LocalProtocolError")) (.ref 78) := by kernel_rfl
set_option maxHeartbeats 4000000 in
theorem val_raise {mx : Option Value} {fl : List Env} {S : List Addr} {ms : Str} {tm : Tok} {Q : Flow → Shared → Prop} (r : Rk 6 A fl) (X : (Mine.hd.heap_39 w.params).In s.heap) (nl : s.heap.NoLimit) (F : Fr h₀ L s.heap (valMap v (.str ms tm) D mx))
    (h : ∀ e d h' tk, Flying [] S s.heap e d none h' → E (.ref e) { s with heap := h', toks := tk }) :
    wpAny (mdl prog₀ w) A (exec vRaise (valEnv L)) Q E s := by
  show wpAny _ _ (exec (Stmt.Raise (some (Expr.Call (Expr.Name _ _) [Expr.Name _ _] [] _)) none _) _) _ _ _
  refine lift (raiseExc (m := ms) r X nl (fun hq => wpAny_Name ((pkLooks X (pk_lpeV w L)) _ _ _ _ (fun _ _ x => x) hq) (by decide)) rfl (fun hq => ld F (by rfl) (hq tm s.toks)) h)

set_option maxHeartbeats 4000000 in
theorem val_ret {mt tup : Addr} {n st e : Nat} {li hd x y : Int} {Q : Flow → Shared → Prop} (X : (Mine.hd.heap_39 w.params).In h₀) (T : Top view₀ (looseW view₀ loose₀) mean mg mb h₀) (F : Fr h₀ L s.heap (valMap v m D (some (.ref mt))))
    (hm : s.heap.get? mt = some (matObj v 93 b.size li tup)) (ht : s.heap.get? tup = some (tupObj [rawInt 0, rawInt hd, rawInt (0 : Nat), rawInt n, rawInt st, rawInt e, rawInt x, rawInt y])) (hv : OctAt s.heap v b) (hz : b.size ≤ 1000)
    (h : ∀ d h' tk t1 t2, h'.DictOf (sk w) d [(kName, .bytes (b.extract 0 n) t1), (kValue, .bytes (b.extract st e) t2)] → s.heap.get? d = none → (∀ b o, s.heap.get? b = some o → h'.get? b = some o) → Q (.ret (.ref d)) { s with heap := h', toks := tk }) :
    wpAny (mdl prog₀ w) A (exec (valBody.getD 2 (.Pass default)) (valEnv L)) Q E s := by
  have N := news_full h₀ L s.heap
  show wpAny _ _ (exec (Stmt.Return _ _) (envOf _ { kind := _, names := _, isGenerator := _, isCoroutine := _, more := _ } _ _ _)) _ _ _
  repeat' (first | walk1 | (dsimp only; walk1))
  refine getMethod_builtin ⟨_, hm, rfl⟩ plain_re_Match slot_re_Match_groupdict type_re_Match_groupdict (fun a e => by cases e; exact ⟨_, hm, rfl⟩) ?_
  dsimp only
  repeat' (first | walk1 | (dsimp only; walk1))
  exact groupdict (X.keeps F.keep) hm ht hv hz h

theorem valBody_eq : valBody = [valBody.getD 0 (.Pass default), valBody.getD 1 (.Pass default), valBody.getD 2 (.Pass default)] := rfl
set_option maxHeartbeats 1000000 in
/-- validate's body -/
theorem valBodyG {fl : List Env} {S : List Addr} {ms : Str} {tm : Tok} {Q : Flow → Shared → Prop} (r : Rk 6 A fl) (X : (Mine.hd.heap_39 w.params).In h₀) (T : Top view₀ (looseW view₀ loose₀) mean mg mb h₀) (nl : h₀.NoLimit)
    (F : Fr h₀ L s.heap (valMap v (.str ms tm) D none)) (hv : OctAt s.heap v b) (hz : b.size ≤ 1000) (hvL : v ≠ .ref L)
    (hno : Rx.NoHdr (b.map (·.toNat)) → ∀ h₁ e d h' tk, (∀ b o, b ≠ L → s.heap.get? b = some o → h₁.get? b = some o) → (∃ m, Fr h₀ L h₁ m) → Flying [] S h₁ e d none h' → E (.ref e) { s with heap := h', toks := tk })
    (hyes : ∀ n st e, Rx.Hdr (b.map (·.toNat)) n st e → ∀ d h' tk t1 t2, h'.DictOf (sk w) d [(kName, .bytes (b.extract 0 n) t1), (kValue, .bytes (b.extract st e) t2)] → s.heap.get? d = none →
      (∀ b o, b ≠ L → s.heap.get? b = some o → h'.get? b = some o) → (∃ o, h'.get? L = some o) → Q (.ret (.ref d)) { s with heap := h', toks := tk }) :
    wpG (mdl prog₀ w) A (execs valBody (valEnv L)) Q E s := by
  rw [valBody_eq]
  refine gStep (val1 X F (news_full h₀ L s.heap) hv hz (fun hN h₁ tk₁ F₁ N₁ => ?_) (fun n st e hH h₁ tk₁ a li tup hd x y F₁ N₁ => ?_))
  · have k₁ := keep_full (X := fun _ => False) F₁ F.keep N₁ fun p hp _ => hp
    show wpG _ _ (execs [_, _] _) _ _ _
    refine gExecs ?_
    show wpG _ _ (exec (Stmt.If vTest [vRaise] [] _) _) _ _ _
    refine gIf (toG (valTest F₁ (.inl ⟨rfl, rfl⟩) ?_))
    show wpG _ _ (execs [vRaise] _) _ _ _
    exact gStep (val_raise r (X.keeps F₁.keep) (nl.keeps F₁.keep) F₁ fun e d h' tk f => hno hN h₁ e d h' tk (fun b o hb q => k₁ b o hb _root_.id q) ⟨_, F₁⟩ f)
  · have k₁ := keep_full (X := fun _ => False) F₁ F.keep N₁ fun p hp _ => .tail _ (.tail _ hp)
    show wpG _ _ (execs [_, _] _) _ _ _
    refine gExecs ?_
    show wpG _ _ (exec (Stmt.If vTest [vRaise] [] _) _) _ _ _
    refine gIf (toG (valTest F₁ (.inr ⟨rfl, a, _, rfl, (N₁ _ (.head _)).1, rfl⟩) ?_))
    show wpG _ _ (execs [] _) _ _ _
    refine gExecsNil ?_
    have hv₁ : OctAt h₁ v b := hv.keep fun a e o q => k₁ a o (fun e' => hvL (by rw [e, e'])) _root_.id q
    refine gStep (val_ret X T F₁ (N₁ _ (.head _)).1 (N₁ _ (.tail _ (.head _))).1 hv₁ hz fun d h' tk t1 t2 hD hd0 hk => ?_)
    refine hyes n st e hH d h' tk t1 t2 hD ?_ (fun b o hb q => hk b o (k₁ b o hb _root_.id q)) ?_
    · cases q : s.heap.get? d with
      | none => rfl
      | some o =>
        by_cases hdL : d = L
        · obtain ⟨o', _, _, ho', _⟩ := F₁.ns
          rw [hdL, ho'] at hd0; cases hd0
        · have := k₁ d o hdL _root_.id q; rw [hd0] at this; cases this
    · obtain ⟨o', _, _, ho', _⟩ := F₁.ns
      exact ⟨o', hk _ _ ho'⟩
end
end Mine

end
section
open PySem PySem.W PySem.W.X PySem.Calls PyProof.Rows PySem.Builtin
set_option maxRecDepth 100000
namespace Mine
theorem warm9 : (∀ P, Mine.hd.heap_39 P = Mine.hd.heap_39 P) ∧ PySem.Challenge.rw_ae6005_01 = PySem.Challenge.rw_ae6005_01 := by
  k_fill
  exact ⟨fun _ => rfl, rfl⟩
def decFor : Stmt := decBody.getD 0 (.Pass default)
def decTurn : List Stmt := forBody decFor
example : decBody.length = 1 := rfl
example : decTurn.length = 2 := rfl
abbrev dLoop (L ga : Addr) : Code := .forLoop (forTarget decFor) (.ref ga) decTurn [] (decEnv L)
abbrev dStack (L : Addr) (lv : List Value) (p : Pos) : List Frame := under1 (kontOf (decEnv L) (KT (decEnv L) []) (HF (decEnv L))) lv decBody (decEnv L) p
/-- the surroundings of the fold within the decoder -/
abbrev inD (A : Around) (L ga : Addr) : Around := (A.over (dLoop L ga) (dStack L [] default)).in1
example (A : Around) (L ga : Addr) (lv : List Value) (p : Pos) : (A.over (dLoop L ga) (dStack L lv p)).in1 = inD A L ga := rfl
abbrev decMap (l : Addr) (lineV matV : Option Value) : Str → Option Value := fun y =>
  if y = Str.ofString "matches" then matV else if y = Str.ofString "line" then lineV else if y = Str.ofString "lines" then some (.ref l) else none
theorem dmap_line (l : Addr) (lineV matV : Option Value) (v : Value) : (fun y => if y = Str.ofString "line" then some v else decMap l lineV matV y) = decMap l (some v) matV := by
  funext y; simp only [decMap]
  by_cases h : y = Str.ofString "line"
  · subst h; rfl
  · simp [h]
theorem dmap_mat (l : Addr) (lineV matV : Option Value) (v : Value) : (fun y => if y = Str.ofString "matches" then some v else decMap l lineV matV y) = decMap l lineV (some v) := by
  funext y; simp only [decMap]; split <;> rfl

/-- what the decoder tells of these lines -/
def decOut (pf : Oct → Option (Oct × Oct)) (bad : Bool) : List Oct → List (Oct × Oct) × Bool
  | [] => ([], bad)
  | b :: bs => match pf b with
    | none => ([], true)
    | some q => (q :: (decOut pf bad bs).1, (decOut pf bad bs).2)
/-- the plain pair says what the pattern says -/
structure PairOk (pf : Oct → Option (Oct × Oct)) : Prop where
  no : ∀ b, b.size ≤ 1000 → Rx.NoHdr (b.map (·.toNat)) → pf b = none
  yes : ∀ b n st e, b.size ≤ 1000 → Rx.Hdr (b.map (·.toNat)) n st e → pf b = some (b.extract 0 n, b.extract st e)
/-- a tuple of two octets -/
def PairAt (h : Heap) (v : Value) (q : Oct × Oct) : Prop := ∃ t t1 t2, v = .ref t ∧ h.get? t = some (tupObj [.bytes q.1 t1, .bytes q.2 t2])
/-- a tuple that is no private object of the decoder -/
def PairOut (P : List Addr) (h : Heap) (v : Value) (q : Oct × Oct) : Prop := PairAt h v q ∧ ∀ a, v = .ref a → a ∉ P
end Mine

end
section
open PySem PySem.W PySem.W.X PySem.Calls PyProof.Rows PySem.Builtin
set_option maxRecDepth 100000
namespace Mine
theorem warm10 : (∀ P, Mine.hd.heap_39 P = Mine.hd.heap_39 P) ∧ PySem.Challenge.rw_ae6005_01 = PySem.Challenge.rw_ae6005_01 := by
  k_fill
  exact ⟨fun _ => rfl, rfl⟩
section
variable {w : World} {s : Shared} {h₀ : Heap} {L l : Addr} {v : Value} {lineV matV : Option Value} {mg mb : Str → Option Value} {mean : ExcName → Option Value} {A : Around} {b : Oct} {E : Value → Shared → Prop} {outer : List Env}
theorem args4 (n1 n2 n4 : Str) (c : Const) (k : Nat) (p1 p2 p3 p4 pos : Pos) (env : Env) : backTo pos (starEach [.Name n1 p1, .Name n2 p2, .Constant c k p3, .Name n4 p4] env) =
    [(false, eval (.Name n1 p1) env), (false, eval (.Name n2 p2) env), (false, eval (.Constant c k p3) env), (false, eval (.Name n4 p4) env)] := rfl
set_option maxHeartbeats 4000000 in
theorem dec1 {Q : Flow → Shared → Prop} (r : Rk 7 A (decEnv L :: outer)) (X : (Mine.hd.heap_39 w.params).In h₀) (T : Top view₀ (looseW view₀ loose₀) mean mg mb h₀) (nl : h₀.NoLimit) (F : Fr h₀ L s.heap (decMap l (some v) matV)) (hv : OctAt s.heap v b) (hz : b.size ≤ 1000)
    (ff : s.heap.FunFrames h₀ (decEnv L :: outer))
    (hno : Rx.NoHdr (b.map (·.toNat)) → ∀ e d h' tk, Flying [] (framesOf (decEnv L :: outer)) s.heap e d (some .none) h' → E (.ref e) { s with heap := h', toks := tk })
    (hyes : ∀ n st e, Rx.Hdr (b.map (·.toNat)) n st e → ∀ h' tk d t1 t2, Fr h₀ L h' (decMap l (some v) (some (.ref d))) → h'.DictOf (sk w) d [(kName, .bytes (b.extract 0 n) t1), (kValue, .bytes (b.extract st e) t2)] →
      (∀ b o, b ≠ L → s.heap.get? b = some o → h'.get? b = some o) → Q .next { s with heap := h', toks := tk }) :
    wpG (mdl prog₀ w) A (exec (decTurn.getD 0 (.Pass default)) (decEnv L)) Q E s := by
  have N := news_full h₀ L s.heap
  show wpG _ _ (exec (Stmt.Assign [Expr.Name _ _] (Expr.Call (Expr.Name _ _) [_, _, _, _] [] _) _) (envOf _ { kind := _, names := _, isGenerator := _, isCoroutine := _, more := _ } _ _ _)) _ _ _
  refine gAssign (gCallName ?_)
  repeat' (first | walk1 | (dsimp only; walk1))
  rw [args4]
  refine gCallWithFn (a := 88) (o := objAt w.params 88) (fd := fdAt w.params 88) (Calls.evalArgs_plain (Calls.spliced_cons ?_))
  repeat' (first | walk1 | (dsimp only; walk1))
  refine Calls.spliced_cons (ld F (by rfl) ?_)
  show wpAny _ _ (spliced [(false, eval (Expr.Constant (Const.str _) _ _) _), (false, _)]) _ _ _
  refine Calls.spliced_cons (Calls.Constant_str ?_)
  refine Calls.spliced_cons (ld F (by rfl) ?_)
  have X' := X.keeps F.keep
  refine Calls.spliced_nil ⟨⟨X' _ _ (fn88 w.params).look, (fn88 w.params).data⟩, ?_⟩
  refine callVal (s := { s with toks := s.toks + 1 }) (r.le (by decide)) X' (nl.keeps F.keep) fun g h' tk D hk hle Fv => ?_
  rw [valMap_start] at Fv
  have rv : Rk 6 (A.deeper (valEnv g.objs.size)) (valEnv g.objs.size :: decEnv L :: outer) := r.deeper _
  have hk' : ∀ b o, s.heap.get? b = some o → h'.get? b = some o := fun b o q => Fv.keep _ _ (hk _ _ q)
  have old : ∀ b o, s.heap.get? b = some o → b ≠ g.objs.size := fun b o q e => absurd (Heap.lt_size q) (by rw [e]; exact Nat.not_lt.mpr hle)
  have hLo : ∃ o, s.heap.get? L = some o := let ⟨o, _, _, q, _⟩ := F.ns; ⟨o, q⟩
  have hvL : v ≠ .ref g.objs.size := fun e => by
    rcases hv with ⟨t, q⟩ | ⟨a, q, ha⟩
    · rw [q] at e; cases e
    · rw [q] at e; cases e; exact old _ _ ha rfl
  refine valBodyG (S := framesOf (valEnv g.objs.size :: decEnv L :: outer)) rv (X'.keeps hk) (T.keeps fun b o q => hk _ _ (F.keep _ _ q)) (nl.keeps fun b o q => hk _ _ (F.keep _ _ q)) Fv (hv.keep fun a _ o q => hk' _ _ q) hz hvL ?_ ?_
  · rintro hN h₁ e d h₂ tk₂ k₁ ⟨m, Fm⟩ f
    have ks : ∀ b o, s.heap.get? b = some o → h₁.get? b = some o := fun b o q => k₁ b o (old b o q) (hk' b o q)
    have ff₁ : h₁.FunFrames h₀ (valEnv g.objs.size :: decEnv L :: outer) := by
      refine Heap.FunFrames.cons (fun q => nomatch (show ScopeKind.function = ScopeKind.module from q)) rfl Fm.ns ?_ (FunFrames.keepAt ff fun b o _ q => ks b o q)
      cases q : h₀.get? g.objs.size with
      | none => rfl
      | some o' => exact absurd rfl (old _ _ (F.keep _ _ q))
    refine leavingF (outer := decEnv L :: outer) (base := h₀) rv.frames (f.frames ff₁ fun b _ q => nomatch q) rfl (fun _ q => q) f (.inl rfl) (hlow fun b o hb => let ⟨sl, q⟩ := f.slots b o (fun q => nomatch q) hb; ⟨_, q⟩) fun h₃ f₃ => ?_
    have y := f₃.rebase (P := []) (s₀ := s.heap) fun b o _ q => ks b o q
    refine hno hN e d h₃ tk₂ ⟨fun b o hP hS hb => y.keep b o hP (fun q => ?_) hb, y.slots, y.eNew, y.exc, y.hint⟩
    rcases List.mem_cons.mp (show b ∈ g.objs.size :: framesOf (decEnv L :: outer) from q) with q | q
    · exact old _ _ hb q
    · exact hS q
  · intro n st e hH d h₂ tk₂ t1 t2 hD hd0 k₁ hLv
    have ks : ∀ b o, s.heap.get? b = some o → h₂.get? b = some o := fun b o q => k₁ b o (old b o q) (hk' b o q)
    have F₂ := frExt F ks
    refine stN F₂ (news_full h₀ L h₂) fun h₃ F₃ N₃ => ?_
    rw [dmap_mat] at F₃
    have k₃ := keep_full (X := fun _ => False) F₃ F₂.keep N₃ fun p hp _ => hp
    have hdL : d ≠ L := by
      rintro rfl
      obtain ⟨o, q⟩ := hLo
      have q := hk' _ _ q
      rw [hd0] at q; cases q
    refine hyes n st e hH h₃ _ d t1 t2 F₃ ?_ fun b o hb q => k₃ b o hb _root_.id (ks b o q)
    obtain ⟨o, es, ep, ho, rest⟩ := hD
    exact ⟨o, es, ep, k₃ d o hdL _root_.id ho, rest⟩
end
end Mine

end
section
open PySem PySem.W PySem.W.X PySem.Calls PyProof.Rows PySem.Builtin
set_option maxRecDepth 100000
namespace Mine
theorem warm11 : (∀ P, Mine.hd.heap_39 P = Mine.hd.heap_39 P) ∧ PySem.Challenge.rw_ae6005_01 = PySem.Challenge.rw_ae6005_01 := by
  k_fill
  exact ⟨fun _ => rfl, rfl⟩
def yieldOf : Stmt → Expr
  | .Expr (.Yield (some e) _) _ => e
  | _ => .Constant .none 0 default
def dPair : Expr := yieldOf (decTurn.getD 1 (.Pass default))
section
variable {w : World} {s : Shared} {h₀ : Heap} {L l : Addr} {v : Value} {lineV matV : Option Value} {mg mb : Str → Option Value} {mean : ExcName → Option Value} {A : Around} {b : Oct} {E : Value → Shared → Prop} {outer : List Env}
set_option maxHeartbeats 4000000 in
theorem dec2 {d : Addr} {u1 u2 : Oct} {t1 t2 : Tok} {Q : Value → Shared → Prop} (X : (Mine.hd.heap_39 w.params).In h₀) (T : Top view₀ (looseW view₀ loose₀) mean mg mb h₀) (F : Fr h₀ L s.heap (decMap l lineV (some (.ref d))))
    (hD : s.heap.DictOf (sk w) d [(kName, .bytes u1 t1), (kValue, .bytes u2 t2)])
    (h : ∀ tk, Q (.ref s.heap.objs.size) { s with heap := s.heap.push (tupObj [.bytes u1 t1, .bytes u2 t2]), toks := tk }) :
    wpAny (mdl prog₀ w) A (eval dPair (decEnv L)) Q E s := by
  have N := news_full h₀ L s.heap
  show wpAny _ _ (eval (Expr.Tuple _ _ _) (envOf _ { kind := _, names := _, isGenerator := _, isCoroutine := _, more := _ } _ _ _)) _ _ _
  repeat' (first | walk1 | (dsimp only; walk1))
  have isN : ∀ (k : Str) (t : Tok), (sk w).is k (.str k t) = true := fun k t => by show Value.isStrOf k (.str k t) = true; simp [Value.isStrOf]
  refine lift (tail_of_ItemOn (ops := [.str kName s.toks, .ref d]) ⟨"dict", _, slot_dict_getitem.lookup, hD.typeIs, wpAny_getItem_slot hD.typeIs (by decide) slot_dict_getitem (call_meetsIn slot_dict_getitem hD.typeIs entry_dict_getitem (args_dict_getitem _ _) (meets_dict_getitem (sk w) d (k := kName) (isN _ _))
      ⟨_, .bytes u1 t1, hD.mapOf, rfl, ?_⟩)⟩ (by with_unfolding_all rfl) (by intro _; with_unfolding_all rfl))
  repeat' (first | walk1 | (dsimp only; walk1))
  refine lift (tail_of_ItemOn (ops := [.str kValue (s.toks + 1 + 1), .ref d]) ⟨"dict", _, slot_dict_getitem.lookup, hD.typeIs, wpAny_getItem_slot hD.typeIs (by decide) slot_dict_getitem (call_meetsIn slot_dict_getitem hD.typeIs entry_dict_getitem (args_dict_getitem _ _) (meets_dict_getitem (sk w) d (k := kValue) (isN _ _))
      ⟨_, .bytes u2 t2, hD.mapOf, rfl, ?_⟩)⟩ (by with_unfolding_all rfl) (by intro _; with_unfolding_all rfl))
  show wpAny _ _ (spliced []) _ _ _
  refine Calls.spliced_nil ?_
  unfold newTuple
  refine wpAny_newObj_type ?_ (by size_fits)
  exact h _
end
end Mine

end
section
open PySem PySem.W PySem.W.X PySem.Calls PyProof.Rows PySem.Builtin
set_option maxRecDepth 100000
namespace Mine

section
variable {M : Model} {A : Around} {E : Value → Shared → Prop} {s : Shared} {P S : List Addr} {hr base : Heap} {e d L : Addr} {fl : Option Value} {env : Env} {outer : List Env} {Q : Unit → Shared → Prop}

theorem noteFP {head : Value} {hadNext : Bool} (hfr : A.frames = some (env :: outer)) (hl : s.heap.FunFrames base (env :: outer)) (hf : env.frame = some L) (hS : ∀ x ∈ (env :: outer).filterMap (·.frame), x ∈ S)
    (x : Flying P S hr e d fl s.heap)
    (h : ∀ h', Flying P S hr e d (some (rawInt L)) h' → Q () { s with heap := h' }) :
    wpAny M A (do let a ← frameOf env; let pl ← entryPlaceOf L hadNext; let b ← EntryCells.newEntry head a .none (rawInt L) .none pl; setField (.ref e) 1 b) Q E s := by
  refine wpAny_bind (wpAny_frameOf_fun hfr hl hf fun h₁ hs₁ => ?_)
  refine wpAny_bind (wpAny_entryPlaceOf fun pl hpl => ?_)
  have x₁ := x.slotsOnly hs₁ hS fun b hb => (hl.mem hb).2
  obtain ⟨vs, he, hz, _⟩ := x₁.exc
  unfold EntryCells.newEntry newFields
  refine wpAny_bind (wpAny_newObj_type ?_ (hpl.sizeOk5 _ _ _ _ _))
  have he₂ := Heap.get?_push_of_some (h := h₁) { cls := .type "traceback", dict := none, data := .fields ([head, .ref L, .none, rawInt L, .none] ++ (if pl.isEmpty then List.replicate 6 Value.none else pl)).toArray } he
  refine wpAny_setField he₂ rfl (by rw [hz]; decide) (h _ ?_)
  have hTe : h₁.objs.size ≠ e := Nat.ne_of_gt (Heap.lt_size he)
  have self := Heap.get?_update_self (Obj.mapFields (·.setIfInBounds 1 (Value.ref h₁.objs.size))) he₂ (Obj.isFreed_of_fields (Obj.data_mapFields (show (excObj d vs).data = .fields vs from rfl) _))
  have other : ∀ b o, b ≠ e → h₁.get? b = some o → ((h₁.push { cls := .type "traceback", dict := none, data := .fields ([head, .ref L, .none, rawInt L, .none] ++ (if pl.isEmpty then List.replicate 6 Value.none else pl)).toArray }).update e
      (Obj.mapFields (·.setIfInBounds 1 (Value.ref h₁.objs.size)))).get? b = some o := fun b o hb hg => by
    rw [Heap.get?_update_other _ _ (Ne.symm hb)]; exact Heap.get?_push_of_some _ hg
  have hrT : h₁.objs.size ∈ P ∨ hr.get? h₁.objs.size = none := by
    by_cases hP : h₁.objs.size ∈ P
    · exact .inl hP
    cases q : hr.get? h₁.objs.size with
    | none => exact .inr rfl
    | some o =>
      obtain ⟨sl, q'⟩ := x₁.slots _ o hP q
      exact absurd (Heap.lt_size q') (Nat.lt_irrefl _)
  have hbe : ∀ b o, b ∉ P → hr.get? b = some o → b ≠ e := fun b o hP hb => newOr x₁.eNew hP hb
  refine ⟨fun b o hp hS' hb => other b o (hbe b o hp hb) (x₁.keep b o hp hS' hb), fun b o hp hb => ?_, x₁.eNew, ⟨_, self, by simp [hz], h₁.objs.size, ([head, .ref L, .none, rawInt L, .none] ++ (if pl.isEmpty then List.replicate 6 Value.none else pl)).toArray, by simp [hz], hTe, hrT, ?_, ?_⟩, ?_⟩
  · obtain ⟨sl, q⟩ := x₁.slots b o hp hb
    exact ⟨sl, other b _ (hbe b o hp hb) q⟩
  · rw [Heap.get?_update_other _ _ (Ne.symm hTe)]
    exact Heap.get?_push_size h₁ rfl
  · rcases hpl with rfl | ⟨_, _, _, _, _, _, _, rfl⟩ <;> simp
  · obtain ⟨m, hm, hm'⟩ := x₁.hint
    refine ⟨m, hm.at' fun o q => other d o ?_ q, hm'⟩
    rintro rfl
    obtain ⟨o, es, ep, ho, hd, _⟩ := hm
    rw [he] at ho; cases ho; cases hd

/-- a frame notes the exception: it flies there now -/
theorem noteFrameFP (hfr : A.frames = some (env :: outer)) (hl : s.heap.FunFrames base (env :: outer)) (hf : env.frame = some L) (hS : ∀ x ∈ (env :: outer).filterMap (·.frame), x ∈ S)
    (x : Flying P S hr e d fl s.heap) (hfl : fl = none ∨ fl = some .none)
    (h : ∀ h', Flying P S hr e d (some (rawInt L)) h' → Q () { s with heap := h' }) :
    wpAny M A (noteFrame (.ref e) env) Q E s := by
  unfold noteFrame
  simp only [hf]
  rcases hfl with rfl | rfl
  · obtain ⟨vs, he, hz, h1⟩ := id x.exc
    refine wpAny_bind (wpAny_field he rfl h1 ?_)
    rw [if_neg (by decide)]
    exact noteFP hfr hl hf hS x h
  · obtain ⟨vs, he, hz, T, ts, hT, hTe, hTn, ho, h3⟩ := id x.exc
    have hsz : 3 < ts.size := (Array.getElem?_eq_some_iff.mp h3).1
    refine wpAny_bind (wpAny_field he rfl hT ?_)
    rw [if_pos (show (Value.ref T != Value.none) = true from by simp)]
    refine wpAny_bind (wpAny_field ho rfl h3 ?_)
    rw [if_neg (show ¬ ((Value.none == rawInt L) = true) from by simp [rawInt])]
    refine wpAny_bind (wpAny_setField ho rfl hsz ?_)
    have x' := x.setTb he hz hT hTe hTn ho hsz (v := .none)
    have other : ∀ b o, s.heap.get? b = some o → (∀ vs, o.data ≠ .fields vs) → ∃ o', (s.heap.update T (Obj.mapFields (·.setIfInBounds 3 Value.none))).get? b = some o' ∧ o'.data = o.data := fun b o hb hn =>
      ⟨o, (Heap.get?_update_other _ _ fun q => by rw [← q, ho] at hb; cases hb; exact hn ts rfl).trans hb, rfl⟩
    exact noteFP hfr (hl.of_keeps other) hf hS x' h

theorem leavingFP (hfr : A.frames = some (env :: outer)) (hl : s.heap.FunFrames base (env :: outer)) (hf : env.frame = some L) (hS : ∀ x ∈ (env :: outer).filterMap (·.frame), x ∈ S)
    (x : Flying P S hr e d fl s.heap) (hfl : fl = none ∨ fl = some .none ∨ fl = some (rawInt L))
    (h : ∀ h', Flying P S hr e d (some .none) h' → Q () { s with heap := h' }) :
    wpAny M A (leaving env (.ref e)) Q E s := by
  unfold leaving
  have key : ∀ h', Flying P S hr e d (some (rawInt L)) h' → wpAny M A (setFlight (.ref e) none) Q E { s with heap := h' } := fun h' x' => setFlightF x' h
  rcases hfl with rfl | rfl | rfl
  · exact wpAny_bind (noteFrameFP hfr hl hf hS x (.inl rfl) key)
  · exact wpAny_bind (noteFrameFP hfr hl hf hS x (.inr rfl) key)
  · exact wpAny_bind (noteFrameHere hf x (key _ x))
end
section
variable {M : Model} {A : Around} {c : Code} {fs : List Frame} {s : Shared} {P : End → Shared → Prop} {env : Env} {outer : List Env} {hr base : Heap} {e d L : Addr} {PP S : List Addr} {fl : Option Value}
theorem notedSegP (hfr : (A.over c fs).frames = some (env :: outer)) (hl : s.heap.FunFrames base (env :: outer)) (hf : env.frame = some L) (hS : ∀ x ∈ framesOf (env :: outer), x ∈ S)
    (x : Flying PP S hr e d fl s.heap) (hfl : fl = none ∨ fl = some .none)
    (h : ∀ h', Flying PP S hr e d (some (rawInt L)) h' → SegG M A c (leafOf (.error (.ref e))) fs { s with heap := h' } P) :
    SegG M A c (noted env (.ref e)) fs s P := by
  refine ggWrap (toG ?_)
  exact wpAny_bind (noteFrameFP hfr hl hf hS x hfl fun h' x' => wpAny_theTreesLotGoes (h h' x'))
theorem leaveSegP (hfr : (A.over c fs).frames = some (env :: outer)) (hl : s.heap.FunFrames base (env :: outer)) (hf : env.frame = some L) (hS : ∀ x ∈ framesOf (env :: outer), x ∈ S)
    (x : Flying PP S hr e d (some (rawInt L)) s.heap)
    (h : ∀ h', Flying PP S hr e d (some .none) h' → SegG M A c (leafOf (.error (.ref e))) fs { s with heap := h' } P) :
    SegG M A c ((leaving env (.ref e)).wrap (fun _ => .raise (.ref e)) .raise id id) fs s P :=
  ggWrap (toG (leavingFP hfr hl hf hS x (.inr (.inr rfl)) h))

/-- a flight, seen from an earlier state and from below its frame -/
theorem flyBack {h' : Heap} {Pi P₀ : List Addr} {s₀ s₁ : Heap} (hf : env.frame = some L) (k : ∀ b o, b ∉ P₀ → s₀.get? b = some o → s₁.get? b = some o) (hp : ∀ b ∈ Pi, b ∈ P₀ ∨ s₀.get? b = none) (LP : L ∈ P₀)
    (x : Flying Pi (framesOf (env :: outer)) s₁ e d fl h') : Flying P₀ (framesOf outer) s₀ e d fl h' := by
  have notIn : ∀ b o, b ∉ P₀ → s₀.get? b = some o → b ∉ Pi := fun b o hb q hi => by
    rcases hp b hi with r | r
    · exact hb r
    · rw [q] at r; cases r
  have fresh : ∀ b, (b ∈ Pi ∨ s₁.get? b = none) → (b ∈ P₀ ∨ s₀.get? b = none) := fun b hb => by
    by_cases hm : b ∈ P₀
    · exact .inl hm
    refine .inr ?_
    cases q : s₀.get? b with
    | none => rfl
    | some o =>
      rcases hb with hb | hb
      · exact absurd hb (notIn b o hm q)
      · have := k b o hm q; rw [hb] at this; cases this
  refine ⟨fun b o hp hS hb => x.keep b o (notIn b o hp hb) (fun q => ?_) (k b o hp hb), fun b o hp hb => x.slots b o (notIn b o hp hb) (k b o hp hb), fresh _ x.eNew, ?_, x.hint⟩
  · rw [show framesOf (env :: outer) = L :: framesOf outer from by simp [framesOf, hf]] at q
    rcases List.mem_cons.mp q with rfl | q
    · exact hp LP
    · exact hS q
  · obtain ⟨vs, he, hz, ht⟩ := x.exc
    refine ⟨vs, he, hz, ?_⟩
    cases fl with
    | none => exact ht
    | some v => obtain ⟨T, ts, a1, a2, a3, a4⟩ := ht; exact ⟨T, ts, a1, a2, fresh _ a3, a4⟩
end
end Mine

end
section
open PySem PySem.W PySem.W.X PySem.Calls PyProof.Rows PySem.Builtin
set_option maxRecDepth 100000
namespace Mine

abbrev DecEnd (w : World) (A : Around) (h₀ : Heap) (outer : List Env) (o : List (Oct × Oct) × Bool) (P : List Addr) (G : List Nat) (s : Shared) : End → Shared → Prop := EndR (mdl prog₀ w) A h₀ h₀ outer PairOut o.2 o.1 P G s

/-- the decoder between two lines -/
structure DecSt (w : World) (A : Around) (h₀ : Heap) (outer : List Env) (L l ga : Addr) (g : Nat) (gs : GenState) (P : List Addr) (G : List Nat) (P₂ : List Addr) (G₂ : List Nat) (s s₁ : Shared) (lineV matV : Option Value) (outs : List Oct) (bad : Bool) : Prop where
  fr : Fr h₀ L s₁.heap (decMap l lineV matV)
  gen : s₁.heap.IsGen ga g
  gst : s₁.gens[g]? = some gs
  rd : Ready (mdl prog₀ w) (inD A L ga) h₀ h₀ (decEnv L :: outer) OctOut bad outs gs P₂ G₂ s₁
  size : ∀ b ∈ outs, b.size ≤ 1000
  ff : s₁.heap.FunFrames h₀ outer
  out : ∀ x ∈ framesOf outer, x ∉ L :: ga :: P₂
  woke : Woke P G s s₁ (L :: ga :: P₂) (g :: G₂)
  LP : L ∈ P
  Ln : L ∉ P₂
  gaL : ga ≠ L
  gan : ga ∉ P₂
  gn : g ∉ G₂
  P0 : ∀ b ∈ P₂, h₀.get? b = none
  ga0 : h₀.get? ga = none

theorem isGen_of {h h' : Heap} {ga : Addr} {g : Nat} (x : h.IsGen ga g) (k : ∀ o, h.get? ga = some o → h'.get? ga = some o) : h'.IsGen ga g := by
  obtain ⟨o, nm, qn, ho, hr⟩ := x
  exact ⟨o, nm, qn, k _ ho, hr⟩
theorem isGen_there {h : Heap} {ga : Addr} {g : Nat} (x : h.IsGen ga g) : ∃ o, h.get? ga = some o := let ⟨o, _, _, ho, _⟩ := x; ⟨o, ho⟩
theorem frNs {h₀ h : Heap} {L : Addr} {m : Str → Option Value} (F : Fr h₀ L h m) : ∃ o, h.get? L = some o := let ⟨o, _, _, q, _⟩ := F.ns; ⟨o, q⟩

section
variable {w : World} {A : Around} {h₀ : Heap} {outer : List Env} {L l ga : Addr} {g : Nat} {gs : GenState} {P P₂ : List Addr} {G G₂ : List Nat} {s s₁ s₂ : Shared} {lineV matV : Option Value} {outs : List Oct} {bad : Bool}
  {mg mb : Str → Option Value} {mean : ExcName → Option Value} {lv : List Value} {p : Pos}

theorem DecSt.wakeAt (x : DecSt w A h₀ outer L l ga g gs P G P₂ G₂ s s₁ lineV matV outs bad) (a : AtW h₀ h₀ outer (L :: ga :: P₂) (g :: G₂) s₁ s₂) :
    DecSt w A h₀ outer L l ga g gs (L :: ga :: P₂) (g :: G₂) P₂ G₂ s₂ s₂ lineV matV outs bad :=
  ⟨⟨x.fr.ns.at' fun o q => a.own _ _ (.head _) q, a.old, x.fr.above⟩, isGen_of x.gen fun o q => a.own _ _ (.tail _ (.head _)) q, (a.gens g (.head _)).trans x.gst,
    x.rd.at (fun b o hb q => a.own b o (.tail _ (.tail _ hb)) q) (fun g' hg => a.gens g' (.tail _ hg)), x.size, a.fr, x.out, Woke.refl _ _ _, .head _, x.Ln, x.gaL, x.gan, x.gn, x.P0, x.ga0⟩

/-- the inner generator may be woken -/
theorem DecSt.atW (x : DecSt w A h₀ outer L l ga g gs P G P₂ G₂ s s₁ lineV matV outs bad) : AtW h₀ h₀ (decEnv L :: outer) P₂ G₂ s₁ s₁ := by
  have ff := fframes (h₀ := h₀) x.fr x.ff (decEnv L) (fun q => nomatch (show ScopeKind.function = ScopeKind.module from q)) rfl
  refine ⟨fun _ _ _ q => q, fun _ _ => rfl, x.fr.keep, ff, fun y hy hP => ?_, fun y hy => ?_⟩
  · rcases List.mem_cons.mp (show y ∈ L :: framesOf outer from hy) with rfl | hy
    · exact x.Ln hP
    · exact x.out y hy (.tail _ (.tail _ hP))
  · exact (ff.mem hy).1

/-- an exception goes out of the decoder's wake -/
theorem decThrow {e d : Addr} {Pi : List Addr} {s₃ : Shared} (r : Rk 10 A outer) (ff : s₁.heap.FunFrames h₀ (decEnv L :: outer)) (hPi : ∀ b ∈ framesOf (decEnv L :: outer), b ∉ Pi)
    (f : Flying Pi (framesOf (decEnv L :: outer)) s₁.heap e d (some .none) s₃.heap) (back : ∀ h', Flying Pi (framesOf (decEnv L :: outer)) s₁.heap e d (some .none) h' → Flying P (framesOf outer) s.heap e d (some .none) h')
    (g1 : ∀ g, g < s.gens.size → g ∉ G → s₃.gens[g]? = s.gens[g]?) (g2 : s.gens.size ≤ s₃.gens.size) (g3 : AllBare s.gens → AllBare s₃.gens) (g4 : s₃.os = s.os) :
    SegG (mdl prog₀ w) A (dLoop L ga) (noted (decEnv L) (.ref e)) (dStack L lv p) s₃ (DecEnd w A h₀ outer ([], true) P G s) := by
  have rl : Rk 9 (A.over (dLoop L ga) (dStack L lv p)) (decEnv L :: outer) := r.loop
  have rf : Rk 9 (A.over (.func decBody (decEnv L)) []) (decEnv L :: outer) := r.func
  refine notedSegP (outer := outer) rl.frames (f.frames ff hPi) rfl (fun _ q => q) f (.inr rfl) fun h₄ f₄ => ?_
  refine ggPop (.error (.ref e)) ?_
  show SegG _ A _ (((.raise (.ref e) : Sem Flow).onRaise _).wrap _ _ id id) _ _ _
  refine popErr rfl f₄ fun h₅ f₅ => ?_
  refine leaveSegP (outer := outer) rf.frames (f₅.frames ff hPi) rfl (fun _ q => q) f₅ fun h₆ f₆ => ?_
  refine ggEnd _ ?_
  show EndW outer PairOut true _ [] P G s _ _
  exact ⟨e, d, rfl, back _ f₆, g1, g2, g3, g4⟩

theorem decTurn_eq : decTurn = [decTurn.getD 0 (.Pass default), decTurn.getD 1 (.Pass default)] := rfl

set_option maxHeartbeats 1000000 in
theorem decLoop {pf : Oct → Option (Oct × Oct)} (ok : PairOk pf) (r : Rk 10 A outer) (X : (Mine.hd.heap_39 w.params).In h₀) (T : Top view₀ (looseW view₀ loose₀) mean mg mb h₀) (nl : h₀.NoLimit) :
    ∀ (outs : List Oct) (P P₂ : List Addr) (G G₂ : List Nat) (gs : GenState) (s s₁ : Shared) (lineV matV : Option Value), DecSt w A h₀ outer L l ga g gs P G P₂ G₂ s s₁ lineV matV outs bad →
    SegG (mdl prog₀ w) A (dLoop L ga) ((mdl prog₀ w).den (dLoop L ga)) (dStack L lv p) s₁ (DecEnd w A h₀ outer (decOut pf bad outs) P G s) := by
  intro outs
  have rl : Rk 9 (A.over (dLoop L ga) (dStack L lv p)) (decEnv L :: outer) := r.loop
  induction outs with
  | nil =>
    intro P P₂ G G₂ gs s s₁ lineV matV x
    have aF : ga ∉ framesOf (decEnv L :: outer) := fun q => by
      rcases List.mem_cons.mp (show ga ∈ L :: framesOf outer from q) with q | q
      · exact x.gaL q
      · exact x.out ga q (.tail _ (.head _))
    refine ggForLoop (nextReady rl X nl x.rd x.atW x.gen x.gst x.gn x.gan aF x.P0 (fun _ _ q => nomatch q) (fun _ hb s' P' G' W => ?_) (fun _ hb e d s' f a1 a2 a3 a4 => ?_))
    · subst hb
      show SegG _ A _ (leafOf (.ok .next)) _ _ _
      refine ggPop (.ok .next) ?_
      show SegG _ A _ ((execs [] (decEnv L)).wrap KF (HF (decEnv L)) id id) _ _ _
      refine ggExecsNil ?_
      show SegG _ A _ (leafOf (.ok (.ret .none))) _ _ _
      refine ggEnd _ ?_
      show EndW outer PairOut false _ [] P G s _ _
      refine ⟨rfl, L :: ga :: P', g :: G', x.woke.trans ⟨fun b o hb q => W.keep b o (fun hP => hb (.tail _ (.tail _ hP))) q, W.gkeep, W.gsize, W.bare, W.os, fun b hb => ?_, W.newG⟩⟩
      rcases List.mem_cons.mp hb with rfl | hb
      · exact .inl (.head _)
      rcases List.mem_cons.mp hb with rfl | hb
      · exact .inl (.tail _ (.head _))
      rcases W.newP b hb with q | q
      · exact .inl (.tail _ (.tail _ q))
      · exact .inr q
    · subst hb
      refine decThrow (s₁ := s₁) r x.atW.fr x.atW.frP f (fun h' f' => flyBack (env := decEnv L) rfl x.woke.keep (fun b hb => x.woke.newP b (.tail _ (.tail _ hb))) x.LP f') (fun g' hg hG => ?_) (Nat.le_trans x.woke.gsize a2) (a3 ∘ x.woke.bare) (a4.trans x.woke.os)
      refine (a1 g' (Nat.lt_of_lt_of_le hg x.woke.gsize) fun q => ?_).trans (x.woke.gkeep g' hg hG)
      rcases x.woke.newG g' q with q | q
      · exact hG q
      · omega
  | cons b outs ih =>
    intro P P₂ G G₂ gs s s₁ lineV matV x
    have aF : ga ∉ framesOf (decEnv L :: outer) := fun q => by
      rcases List.mem_cons.mp (show ga ∈ L :: framesOf outer from q) with q | q
      · exact x.gaL q
      · exact x.out ga q (.tail _ (.head _))
    refine ggForLoop (nextReady rl X nl x.rd x.atW x.gen x.gst x.gn x.gan aF x.P0 (fun b' outs' e v s' P' G' gs' hO W hg' gn' R => ?_) (fun q => nomatch q) (fun q => nomatch q))
    cases e
    -- the inner generator told a line
    have x0 : ∀ b ∈ P', h₀.get? b = none := fun a ha => by
      rcases W.newP a ha with q | q
      · exact x.P0 a q
      · cases e : h₀.get? a with
        | none => rfl
        | some o => have := x.fr.keep _ _ e; rw [q] at this; cases this
    have isNew : ∀ a o, a ∉ P₂ → s₁.heap.get? a = some o → a ∉ P' := fun a o hn q hP => by
      rcases W.newP a hP with r | r
      · exact hn r
      · rw [q] at r; cases r
    obtain ⟨oL, hL⟩ := frNs x.fr
    obtain ⟨og, hgo⟩ := isGen_there x.gen
    have Ln' := isNew L oL x.Ln hL
    have gan' := isNew ga og x.gan hgo
    have kW : ∀ a o, a ∉ P₂ → s₁.heap.get? a = some o → s'.heap.get? a = some o := W.keep
    have F' : Fr h₀ L s'.heap (decMap l lineV matV) := ⟨x.fr.ns.at' fun o q => kW _ _ x.Ln q, fun a o q => kW a o (fun hP => by rw [x.P0 a hP] at q; cases q) (x.fr.keep a o q), x.fr.above⟩
    have ff' : s'.heap.FunFrames h₀ outer := FunFrames.keepAt x.ff fun a o ha q => kW a o (fun hP => x.out a ha (.tail _ (.tail _ hP))) q
    have out' : ∀ y ∈ framesOf outer, y ∉ L :: ga :: P' := fun y hy hm => by
      rcases List.mem_cons.mp hm with rfl | hm
      · exact x.out _ hy (.head _)
      rcases List.mem_cons.mp hm with rfl | hm
      · exact x.out _ hy (.tail _ (.head _))
      obtain ⟨_, o, ho, _⟩ := x.ff.mem hy
      exact isNew y o (fun q => x.out y hy (.tail _ (.tail _ q))) ho hm
    have W' : Woke P G s s' (L :: ga :: P') (g :: G') := by
      refine x.woke.trans ⟨fun b o hb q => W.keep b o (fun hP => hb (.tail _ (.tail _ hP))) q, W.gkeep, W.gsize, W.bare, W.os, fun b hb => ?_, W.newG⟩
      rcases List.mem_cons.mp hb with rfl | hb
      · exact .inl (.head _)
      rcases List.mem_cons.mp hb with rfl | hb
      · exact .inl (.tail _ (.head _))
      rcases W.newP b hb with q | q
      · exact .inl (.tail _ (.tail _ q))
      · exact .inr q
    have hz : b.size ≤ 1000 := x.size b (.head _)
    show wpG _ _ (assign (.Name _ _) _ _) _ _ _
    refine toG (wpAny_assign_Name (stN F' (news_full h₀ L s'.heap) fun h₂ F₂ N₂ => ?_))
    rw [dmap_line] at F₂
    have k₂ := keep_full (X := fun _ => False) F₂ F'.keep N₂ fun p hp _ => hp
    have hv₂ : OctAt h₂ v b := hO.1.keep fun a e o q => k₂ a o (octNoL F' hO.1 a e) _root_.id q
    have ff₂ : h₂.FunFrames h₀ (decEnv L :: outer) := fframes (h₀ := h₀) F₂ (FunFrames.keepAt ff' fun a o ha q => k₂ a o (fun e => out' a ha (e ▸ .head _)) _root_.id q) (decEnv L) (fun q => nomatch (show ScopeKind.function = ScopeKind.module from q)) rfl
    rw [decTurn_eq]
    refine ggPlain (dec1 (s := { s' with heap := h₂, toks := s'.toks + 1 }) (rl.le (by decide)) X T nl F₂ hv₂ hz ff₂ (fun hN e d h₃ tk₃ f => ?_) (fun n st e hH h₃ tk₃ d t1 t2 F₃ hD k₃ => ?_))
    · rw [show decOut pf bad (b :: outs) = ([], true) from by simp only [decOut, ok.no b hz hN]]
      refine decThrow (Pi := []) (s₁ := { s' with heap := h₂, toks := s'.toks + 1 }) (s₃ := { s' with heap := h₃, toks := tk₃ }) r ff₂ (fun _ _ q => nomatch q) f (fun h' f' => ?_) W'.gkeep W'.gsize W'.bare W'.os
      refine flyBack (Pi := []) (env := decEnv L) rfl (fun a o ha q => ?_) (fun _ q => nomatch q) x.LP f'
      exact k₂ a o (fun e => ha (e ▸ x.LP)) _root_.id (W'.keep a o ha q)
    · rw [show decOut pf bad (b :: outs) = ((b.extract 0 n, b.extract st e) :: (decOut pf bad outs).1, (decOut pf bad outs).2) from by simp only [decOut, ok.yes b n st e hz hH]]
      refine ggExecsCons ?_
      show SegG _ A _ ((exec (Stmt.Expr (Expr.Yield (some dPair) _) _) _).wrap _ _ _ _) _ _ _
      refine ggYieldStmt rfl rfl rfl (toG (dec2 (s := { s' with heap := h₃, toks := tk₃ }) X T F₃ hD fun tk₄ l' p' k' hk => ?_))
      have k₄ : ∀ a o, a ≠ L → s'.heap.get? a = some o → (h₃.push (tupObj [.bytes (b.extract 0 n) t1, .bytes (b.extract st e) t2])).get? a = some o := fun a o ha q => Heap.get?_push_of_some _ (k₃ a o ha (k₂ a o ha _root_.id q))
      have F₄ := F₃.push (tupObj [.bytes (b.extract 0 n) t1, .bytes (b.extract st e) t2])
      refine ⟨_, false, l', k', _, p', _, L :: ga :: P', g :: G', rfl, ⟨⟨_, t1, t2, rfl, Heap.get?_push_size _ rfl⟩, fun a e hm => ?_⟩, ?_, ready_of fun s₂ a₂ => ?_⟩
      · cases e
        have gone : h₃.get? h₃.objs.size = none := Heap.get?_none_of_le (Nat.le_refl _)
        have here : ∀ b, b ≠ L → (∃ o, s'.heap.get? b = some o) → b ≠ h₃.objs.size := fun b hb ⟨o, q⟩ e => by
          have q' := k₃ b o hb (k₂ b o hb _root_.id q)
          rw [e, gone] at q'; cases q'
        obtain ⟨oL₃, hL₃⟩ := frNs F₃
        rcases List.mem_cons.mp hm with e | hm
        · rw [← e, gone] at hL₃; cases hL₃
        rcases List.mem_cons.mp hm with e | hm
        · exact here ga x.gaL ⟨og, kW _ _ x.gan hgo⟩ e.symm
        · exact here _ (fun e => Ln' (e ▸ hm)) (hO.2 _ hm) rfl
      · refine W'.trans (.heap (tk := tk₄) (fun a o ha q => k₄ a o (fun e => ha (e ▸ .head _)) q) fun b hb => .inl hb)
      · refine ⟨rfl, ?_, hk _ _ (ggExecsNil (ggAgain rfl rfl ?_))⟩
        · intro y hy
          rcases List.mem_cons.mp hy with rfl | hy
          · rfl
          · cases hy
        · have y : DecSt w A h₀ outer L l ga g gs' P G P' G' s { s' with heap := h₃.push (tupObj [.bytes (b.extract 0 n) t1, .bytes (b.extract st e) t2]), toks := tk₄ } (some v) (some (.ref d)) outs bad := by
            refine ⟨F₄, isGen_of x.gen fun o q => k₄ _ _ x.gaL (kW _ _ x.gan q), hg', R.at (fun a o ha q => k₄ a o (fun e => Ln' (e ▸ ha)) q) fun _ _ => rfl, fun c hc => x.size c (.tail _ hc), FunFrames.keepAt ff' fun a o ha q => k₄ a o (fun e => out' a ha (e ▸ .head _)) q, out',
              W'.trans (.heap (tk := tk₄) (fun a o ha q => k₄ a o (fun e => ha (e ▸ .head _)) q) fun b hb => .inl hb), x.LP, Ln', x.gaL, gan', gn', x0, x.ga0⟩
          exact ih _ _ _ _ _ _ _ _ _ (y.wakeAt a₂)
end
end Mine

end
section
open PySem PySem.W PySem.W.X PySem.Calls PyProof.Rows PySem.Builtin
set_option maxRecDepth 100000
namespace Mine
theorem warm12 : (∀ P, Mine.hd.heap_39 P = Mine.hd.heap_39 P) ∧ PySem.Challenge.rw_ae6005_01 = PySem.Challenge.rw_ae6005_01 := by
  k_fill
  exact ⟨fun _ => rfl, rfl⟩

theorem foldOut_size : ∀ (rest : List Oct) (last : Option Oct), ∀ b ∈ (foldOut last rest).1, b.size ≤ szOf last rest
  | [], none => fun b hb => nomatch hb
  | [], some a => fun b hb => by
    rcases List.mem_cons.mp hb with rfl | hb
    · simp [szOf]
    · cases hb
  | c :: bs, none => fun b hb => by
    simp only [foldOut] at hb
    split at hb
    · have := foldOut_size bs (some c) b hb
      simp only [szOf, List.map_cons, List.sum_cons, Option.elim] at this ⊢
      omega
    · cases hb
  | c :: bs, some a => fun b hb => by
    simp only [foldOut] at hb
    split at hb
    · rcases List.mem_cons.mp hb with rfl | hb
      · simp only [szOf, Option.elim]; omega
      · have := foldOut_size bs (some c) b hb
        simp only [szOf, List.map_cons, List.sum_cons, Option.elim] at this ⊢
        omega
    · have := foldOut_size bs (some (glue a c)) b hb
      have h2 := glue_size a c
      simp only [szOf, List.map_cons, List.sum_cons, Option.elim] at this ⊢
      omega

theorem binds_lines (l : Addr) : (fun x => ([(Str.ofString "lines", Value.ref l)] : List (Str × Value)).reverse.lookup x) = foldMap₀ l := by
  funext y
  show List.lookup y [_] = _
  unfold foldMap₀
  by_cases h : y = Str.ofString "lines"
  · subst h; rfl
  · rw [if_neg h, List.lookup_cons, beq_false_of_ne h]; rfl
theorem decMap_start (l : Addr) : foldMap₀ l = decMap l none none := by
  funext y; unfold foldMap₀ decMap
  by_cases h : y = Str.ofString "matches"
  · subst h; rfl
  by_cases h' : y = Str.ofString "line"
  · subst h'; rfl
  rw [if_neg h, if_neg h']

section
variable {w : World} {A : Around} {h₀ : Heap} {outer : List Env} {L l : Addr} {vals : List Value} {s : Shared}
  {mg mb : Str → Option Value} {mean : ExcName → Option Value}
theorem decBody_eq : decBody = [decFor] := rfl

set_option maxHeartbeats 4000000 in
theorem decFresh {n : Nat} {items : List Oct} {pf : Oct → Option (Oct × Oct)} (ok : PairOk pf) (r : Rk 10 A outer) (X : (Mine.hd.heap_39 w.params).In h₀) (T : Top view₀ (looseW view₀ loose₀) mean mg mb h₀) (nl : h₀.NoLimit)
    (F : Fr h₀ L s.heap (decMap l none none)) (hl : s.heap.get? l = some (listObj vals n)) (ho : Octs s.heap vals items) (hz : szOf none items ≤ 900) (ff : s.heap.FunFrames h₀ outer) (out : ∀ x ∈ framesOf outer, x ∉ L :: l :: refs vals)
    (hap : (Value.ref L :: Value.ref l :: vals).Pairwise Apart) (hfr : ∀ a ∈ L :: l :: refs vals, h₀.get? a = none) :
    SegG (mdl prog₀ w) A (.func decBody (decEnv L)) ((mdl prog₀ w).den (.func decBody (decEnv L))) [] s (DecEnd w A h₀ outer (decOut pf (foldOut none items).2 (foldOut none items).1) (L :: l :: refs vals) [] s) := by
  refine ggFunc ?_
  have rf : Rk 9 (A.over (.func decBody (decEnv L)) []) (decEnv L :: outer) := r.func
  have N := news_full h₀ L s.heap
  have X' := X.keeps F.keep
  rw [show execs decBody (decEnv L) = execs [decFor] (decEnv L) from rfl]
  refine ggExecsCons ?_
  show SegG _ A _ ((exec (Stmt.For (forTarget decFor) (Expr.Call (Expr.Name _ _) [Expr.Name _ _] [] _) decTurn [] _) (envOf _ { kind := _, names := _, isGenerator := _, isCoroutine := _, more := _ } _ _ _)).wrap _ _ _ _) _ _ _
  refine ggFor (gCallName1 rfl ?_)
  repeat' (first | walk1 | (dsimp only; walk1))
  refine gCallWithFn (a := 105) (o := objAt w.params 105) (fd := fdAt w.params 105) (Calls.evalArgs_plain (Calls.spliced_cons (ld F (by rfl) ?_)))
  refine Calls.spliced_nil ⟨⟨X' _ _ (fn105 w.params).look, (fn105 w.params).data⟩, ?_⟩
  refine toG (Fn.callGen (binds := [(Str.ofString "lines", .ref l)]) (fn105 w.params) (rf.le (by decide)) X' (nl.keeps F.keep) sc105 rfl (pk105 w (.ref l)) fun h' tk ga F₁ hg hne hn => ?_)
  rw [binds_lines] at F₁
  refine toG (lift (wpAny_pyIter_gen hg fun p' l' => ?_))
  obtain ⟨oL, hL⟩ := frNs F
  have lt : ∀ b o, s.heap.get? b = some o → b ≠ s.heap.objs.size := fun b o q => Nat.ne_of_lt (Heap.lt_size q)
  have there : ∀ b, b ∈ l :: refs vals → ∃ o, s.heap.get? b = some o := fun b hb => by
    rcases List.mem_cons.mp hb with rfl | hb
    · exact ⟨_, hl⟩
    · exact ho.there b (mem_refs.mp hb)
  have apL : ∀ b ∈ l :: refs vals, b ≠ L := fun b hb e => by
    subst e
    rcases List.mem_cons.mp hb with e | hb
    · exact (List.pairwise_cons.mp hap).1 _ (.head _) b rfl (by rw [e])
    · exact (List.pairwise_cons.mp hap).1 _ (.tail _ (mem_refs.mp hb)) b rfl rfl
  have gaOld : ∀ b o, s.heap.get? b = some o → b ≠ ga := fun b o q e => by rw [e, hn] at q; cases q
  have none0 : ∀ b, s.heap.get? b = none → h₀.get? b = none := fun b q => by
    cases e : h₀.get? b with
    | none => rfl
    | some o => have := F.keep _ _ e; rw [q] at this; cases this
  have szn : s.heap.get? s.heap.objs.size = none := Heap.get?_none_of_le (Nat.le_refl _)
  have apl : ∀ v ∈ Value.ref l :: vals, ∀ a, v = .ref a → a ∈ l :: refs vals := fun v hv a e => by
    subst e
    rcases List.mem_cons.mp hv with q | hv
    · cases q; exact .head _
    · exact .tail _ (mem_refs.mpr hv)
  refine decLoop (lv := l') (p := p') ok r X T nl _ _ (s.heap.objs.size :: l :: refs vals) [] [] (.fresh (.func foldBody (foldEnv s.heap.objs.size))) s _ none none ⟨frExt F F₁.keep, hg, by simp, ?_, ?_, FunFrames.keepAt ff fun b o _ q => F₁.keep b o q, ?_, ?_, .head _, ?_, ?_, ?_, (fun q => nomatch q), ?_, none0 _ hn⟩
  · have rl : Rk 9 (A.over (dLoop L ga) (dStack L [] default)) (decEnv L :: outer) := r.loop
    have ri : Rk 8 (inD A L ga) (decEnv L :: outer) := rl.one
    refine foldReady (n := n) (s₀ := { s with heap := h', toks := tk, gens := s.gens.push (.fresh (.func foldBody (foldEnv s.heap.objs.size))) }) ri X T nl F₁.ns (Nat.le_trans F.above (Nat.le_of_lt (Heap.lt_size hL))) (F₁.keep _ _ hl) (ho.keep fun v _ a _ o q => F₁.keep _ _ q) hz ?_ ?_
    · refine List.pairwise_cons.mpr ⟨fun v hv a e q => ?_, (List.pairwise_cons.mp hap).2⟩
      obtain ⟨o, q'⟩ := there a (apl v hv a q)
      cases e
      exact lt _ o q' rfl
    · intro a ha
      rcases List.mem_cons.mp ha with rfl | ha
      · exact none0 _ szn
      · exact hfr a (.tail _ ha)
  · intro b hb
    have := foldOut_size items none b hb
    omega
  · intro x hx hm
    obtain ⟨_, o, q, _⟩ := ff.mem hx
    rcases List.mem_cons.mp hm with rfl | hm
    · exact out _ hx (.head _)
    rcases List.mem_cons.mp hm with rfl | hm
    · exact gaOld _ o q rfl
    rcases List.mem_cons.mp hm with rfl | hm
    · exact lt _ o q rfl
    · exact out _ hx (.tail _ hm)
  · refine ⟨fun b o _ q => F₁.keep b o q, fun g hg _ => ?_, ?_, fun hb y hy => ?_, rfl, fun b hb => ?_, fun g hg => ?_⟩
    · show (s.gens.push _)[g]? = _
      rw [Array.getElem?_push_lt hg, Array.getElem?_eq_getElem hg]
    · show _ ≤ (s.gens.push _).size
      rw [Array.size_push]; omega
    · rcases Array.mem_push.mp hy with h | rfl
      · exact hb y h
      · rfl
    · rcases List.mem_cons.mp hb with rfl | hb
      · exact .inl (.head _)
      rcases List.mem_cons.mp hb with rfl | hb
      · exact .inr hn
      rcases List.mem_cons.mp hb with rfl | hb
      · exact .inr szn
      · exact .inl (.tail _ hb)
    · rcases List.mem_cons.mp hg with rfl | hg
      · exact .inr (Nat.le_refl _)
      · cases hg
  · intro hm
    rcases List.mem_cons.mp hm with e | hm
    · exact lt _ _ hL e
    · exact apL _ hm rfl
  · exact fun e => gaOld _ _ hL e.symm
  · intro hm
    rcases List.mem_cons.mp hm with e | hm
    · exact hne e
    · obtain ⟨o, q⟩ := there _ hm
      exact gaOld _ o q rfl
  · intro b hb
    rcases List.mem_cons.mp hb with rfl | hb
    · exact none0 _ szn
    · exact hfr b (.tail _ hb)

/-- a fresh decoder is ready -/
theorem decReady {s₀ : Shared} {n : Nat} {items : List Oct} {pf : Oct → Option (Oct × Oct)} (ok : PairOk pf) (r : Rk 10 A outer) (X : (Mine.hd.heap_39 w.params).In h₀) (T : Top view₀ (looseW view₀ loose₀) mean mg mb h₀) (nl : h₀.NoLimit)
    (ns : s₀.heap.Ns L (foldMap₀ l)) (above : h₀.objs.size ≤ L)
    (hl : s₀.heap.get? l = some (listObj vals n)) (ho : Octs s₀.heap vals items) (hz : szOf none items ≤ 900) (hap : (Value.ref L :: Value.ref l :: vals).Pairwise Apart) (hfr : ∀ a ∈ L :: l :: refs vals, h₀.get? a = none) :
    Ready (mdl prog₀ w) A h₀ h₀ outer PairOut (decOut pf (foldOut none items).2 (foldOut none items).1).2 (decOut pf (foldOut none items).2 (foldOut none items).1).1 (.fresh (.func decBody (decEnv L))) (L :: l :: refs vals) [] s₀ := by
  refine ready_of fun s a => ⟨rfl, ?_⟩
  rw [decMap_start] at ns
  exact decFresh ok r X T nl ⟨ns.at' fun o q => a.own _ _ (.head _) q, a.old, above⟩ (a.own _ _ (.tail _ (.head _)) hl)
    (ho.keep fun v hv b e o q => a.own _ _ (.tail _ (.tail _ (by subst e; exact mem_refs.mpr hv))) q) hz a.fr a.frP hap hfr
end
end Mine

end
section
open PySem PySem.W PySem.W.X PySem.Calls PyProof.Rows PySem.Builtin
set_option maxRecDepth 100000
namespace Mine
theorem warm13 : (∀ P, Mine.hd.heap_39 P = Mine.hd.heap_39 P) ∧ PySem.Challenge.rw_ae6005_01 = PySem.Challenge.rw_ae6005_01 := by
  k_fill
  exact ⟨fun _ => rfl, rfl⟩

def joinSt : Stmt := topSt 14
def joinBody : List Stmt := defBody joinSt
def joinScope : Scope := defScope joinSt
abbrev joinEnv (L : Addr) : Env := envOf (Str.ofString "_law_join") joinScope L 120 (.ref 119)
theorem fn120 (P : Params) : Fn P 120 119 (Str.ofString "_law_join") joinScope joinBody :=
  ⟨by kernel_rfl, by kernel_rfl, by kernel_rfl, by kernel_rfl, by kernel_rfl, by kernel_rfl, by kernel_rfl, by kernel_rfl, by kernel_rfl, by kernel_rfl, by kernel_rfl, by kernel_rfl⟩
def pairSt : Stmt := topSt 15
def pairBody : List Stmt := defBody pairSt
def pairScope : Scope := defScope pairSt
abbrev pairEnv (L : Addr) : Env := envOf (Str.ofString "_law_pair") pairScope L 125 (.ref 124)
theorem fn125 (P : Params) : Fn P 125 124 (Str.ofString "_law_pair") pairScope pairBody :=
  ⟨by kernel_rfl, by kernel_rfl, by kernel_rfl, by kernel_rfl, by kernel_rfl, by kernel_rfl, by kernel_rfl, by kernel_rfl, by kernel_rfl, by kernel_rfl, by kernel_rfl, by kernel_rfl⟩
def lfoldSt : Stmt := topSt 16
def lfoldBody : List Stmt := defBody lfoldSt
def lfoldScope : Scope := defScope lfoldSt
abbrev lfoldEnv (L : Addr) : Env := envOf (Str.ofString "_law_fold") lfoldScope L 130 (.ref 129)
theorem fn130 (P : Params) : Fn P 130 129 (Str.ofString "_law_fold") lfoldScope lfoldBody :=
  ⟨by kernel_rfl, by kernel_rfl, by kernel_rfl, by kernel_rfl, by kernel_rfl, by kernel_rfl, by kernel_rfl, by kernel_rfl, by kernel_rfl, by kernel_rfl, by kernel_rfl, by kernel_rfl⟩
def lpairsSt : Stmt := topSt 17
def lpairsBody : List Stmt := defBody lpairsSt
def lpairsScope : Scope := defScope lpairsSt
abbrev lpairsEnv (L : Addr) : Env := envOf (Str.ofString "_law_pairs") lpairsScope L 137 (.ref 136)
theorem fn137 (P : Params) : Fn P 137 136 (Str.ofString "_law_pairs") lpairsScope lpairsBody :=
  ⟨by kernel_rfl, by kernel_rfl, by kernel_rfl, by kernel_rfl, by kernel_rfl, by kernel_rfl, by kernel_rfl, by kernel_rfl, by kernel_rfl, by kernel_rfl, by kernel_rfl, by kernel_rfl⟩
def lawSt : Stmt := topSt 18
def lawBody : List Stmt := defBody lawSt
def lawScope : Scope := defScope lawSt
abbrev lawEnv (L : Addr) : Env := envOf (Str.ofString "law") lawScope L 142 (.ref 141)
theorem fn142 (P : Params) : Fn P 142 141 (Str.ofString "law") lawScope lawBody :=
  ⟨by kernel_rfl, by kernel_rfl, by kernel_rfl, by kernel_rfl, by kernel_rfl, by kernel_rfl, by kernel_rfl, by kernel_rfl, by kernel_rfl, by kernel_rfl, by kernel_rfl, by kernel_rfl⟩
end Mine

end
section
open PySem PySem.W PySem.W.X PySem.Calls PyProof.Rows PySem.Builtin
set_option maxRecDepth 100000
namespace Mine
theorem warm14 : (∀ P, Mine.hd.heap_39 P = Mine.hd.heap_39 P) ∧ PySem.Challenge.rw_ae6005_01 = PySem.Challenge.rw_ae6005_01 := by
  k_fill
  exact ⟨fun _ => rfl, rfl⟩

/-- where the colon stands -/
def findC (b : Oct) : Int := match Bytes.find? b #[58] 0 b.size with
  | some i => i
  | none => -1
section
variable {prog : Program} {w : World} {A : Around} {E : Value → Shared → Prop} {s : Shared} {b c : Oct} {t u : Tok} {Q : Value → Shared → Prop}

theorem bFind_args : Bytes.searchArgs .bytes "find" ⟨[.bytes b t, .bytes #[58] u], []⟩ = pure (b, #[58], if (Bytes.window b.size none none).2 - (Bytes.window b.size none none).1 < ((#[58] : Oct).size : Int) then none else some ((Bytes.window b.size none none).1.toNat, (Bytes.window b.size none none).2.toNat)) := by
  unfold Bytes.searchArgs
  show (Bytes.buffer? _ (.bytes #[58] u) >>= fun x => _) = _
  rw [KBy.buffer_eq]
  rfl
theorem window_none (n : Nat) : Bytes.window n none none = (0, (n : Int)) := by
  unfold Bytes.window
  have e : ¬ ((n : Int) < 0) := by omega
  simp [e]

theorem bFind (h : ∀ t' k, Q (.int (findC b) t') { s with toks := k }) : wpAny (model prog w) A (call (.builtin "bytes.find") [.bytes b t, .bytes #[58] u]) Q E s := by
  refine wpAny_call_entry slot_bytes_find (typeIs_bytes _ _ _) entry_bytes_find ?_ (by unfold argsOk; kernel_rfl)
  show wpAny _ _ (Bytes.searchArgs .bytes "find" ⟨[.bytes b t, .bytes #[58] u], []⟩ >>= fun x => _) _ _ s
  refine wpAny_bind (wpAny_of_eq bFind_args ?_)
  rw [window_none]
  dsimp only
  by_cases hb : (b.size : Int) - 0 < ((#[58] : Oct).size : Int)
  · have e : findC b = -1 := by
      have : b.size = 0 := by simp at hb; omega
      unfold findC Bytes.find?
      rw [this]; rfl
    have h := h s.toks (s.toks + 1)
    rw [e] at h
    rw [if_pos hb]
    refine wpAny_bind (wpAny_rule ?_)
    exact wpAny_bind (wpAny_mkInt (wpAny_pure ⟨_, rfl, h⟩))
  · rw [if_neg hb]
    have h := h s.toks (s.toks + 1)
    unfold findC at h
    dsimp only [Option.bind, Int.toNat, Bool.false_eq_true, if_false]
    rw [if_neg Bool.false_ne_true]
    cases e : Bytes.find? b #[58] 0 b.size with
    | none =>
      rw [e] at h
      refine wpAny_bind (wpAny_rule ?_)
      exact wpAny_bind (wpAny_mkInt (wpAny_pure ⟨_, rfl, h⟩))
    | some i =>
      rw [e] at h
      exact wpAny_bind (wpAny_mkInt (wpAny_pure ⟨_, rfl, h⟩))
end
end Mine

end
section
open PySem PySem.W PySem.W.X PySem.Calls PyProof.Rows PySem.Builtin
set_option maxRecDepth 100000
namespace Mine
abbrev isBlank : UInt8 → Bool := (#[32, 9] : Oct).contains
/-- what lstrip and strip leave -/
def lstripL (b : Oct) : List UInt8 := b.toList.dropWhile isBlank
def stripL (b : Oct) : List UInt8 := ((lstripL b).reverse.dropWhile isBlank).reverse
theorem len_dropWhile {α : Type} (p : α → Bool) : ∀ l : List α, (l.dropWhile p).length ≤ l.length
  | [] => Nat.le_refl _
  | a :: l => by
    rw [List.dropWhile_cons]
    split
    · exact Nat.le_succ_of_le (len_dropWhile p l)
    · exact Nat.le_refl _
theorem eq_dropWhile {α : Type} (p : α → Bool) : ∀ l : List α, (l.dropWhile p).length = l.length → l.dropWhile p = l
  | [], _ => rfl
  | a :: l, h => by
    rw [List.dropWhile_cons] at h ⊢
    split at h
    · rename_i hp
      have := len_dropWhile p l
      rw [List.length_cons] at h
      omega
    · rename_i hp
      rw [if_neg hp]
theorem lstripL_len (b : Oct) : (lstripL b).length ≤ b.size := by
  have := len_dropWhile isBlank b.toList
  rw [Array.length_toList] at this
  exact this
theorem stripL_len (b : Oct) : (stripL b).length ≤ b.size := by
  have := len_dropWhile isBlank (lstripL b).reverse
  have h2 := lstripL_len b
  unfold stripL
  rw [List.length_reverse]
  rw [List.length_reverse] at this
  omega
theorem lstripL_eq {b : Oct} (h : (lstripL b).length = b.size) : (lstripL b).toArray = b := by
  rw [show lstripL b = b.toList from eq_dropWhile _ _ (by rw [Array.length_toList]; exact h)]
theorem stripL_eq {b : Oct} (h : (stripL b).length = b.size) : (stripL b).toArray = b := by
  have h2 := lstripL_len b
  have h1 := len_dropWhile isBlank (lstripL b).reverse
  have h : ((lstripL b).reverse.dropWhile isBlank).length = b.size := by rw [← h]; unfold stripL; rw [List.length_reverse]
  rw [List.length_reverse] at h1
  have e1 : (lstripL b).length = b.size := by omega
  have e2 : (lstripL b).reverse.dropWhile isBlank = (lstripL b).reverse := eq_dropWhile _ _ (by rw [List.length_reverse]; omega)
  unfold stripL
  rw [e2, List.reverse_reverse]
  exact lstripL_eq e1
section
variable {prog : Program} {w : World} {A : Around} {E : Value → Shared → Prop} {s : Shared} {b c : Oct} {t u : Tok} {Q : Value → Shared → Prop}
theorem like_eq {id : String} : Bytes.bytesLike id (.bytes b t) = pure b := by
  unfold Bytes.bytesLike
  rw [KBy.buffer_eq]
  rfl
theorem bLstrip (hz : b.size ≤ 1000) (h : ∀ t' k, Q (.bytes (lstripL b).toArray t') { s with toks := k }) : wpAny (model prog w) A (call (.builtin "bytes.lstrip") [.bytes b t, .bytes #[32, 9] u]) Q E s := by
  refine wpAny_call_entry slot_bytes_lstrip (typeIs_bytes _ _ _) entry_bytes_lstrip ?_ (by unfold argsOk; kernel_rfl)
  show wpAny _ _ (Bytes.bytesLike _ (.bytes #[32, 9] u) >>= fun set => _) _ _ s
  rw [like_eq]
  refine wpAny_bind (wpAny_pure ?_)
  show wpAny _ _ (if ((lstripL b).length == b.size) = true then _ else _) _ _ s
  by_cases e : (lstripL b).length = b.size
  · rw [if_pos (beq_iff_eq.mpr e)]
    refine wpAny_bind (wpAny_rule ?_)
    have h := h t s.toks
    rw [lstripL_eq e] at h
    refine wpAny_bind (m := Bytes.Kind.same _ _) ?_
    unfold Bytes.Kind.same
    rw [if_pos (by rfl)]
    refine wpAny_bind (wpAny_typeOf (typeIs_bytes _ _ _) ?_)
    exact wpAny_pure (wpAny_pure ⟨_, rfl, h⟩)
  · rw [if_neg (fun q => e (beq_iff_eq.mp q))]
    refine wpAny_bind (wpAny_mkBytes (wpAny_pure ⟨_, rfl, h _ _⟩) ?_)
    have := lstripL_len b
    rw [sizeLine_eq]
    show (lstripL b).toArray.size ≤ _
    simp only [List.size_toArray]
    omega
theorem bStrip (hz : b.size ≤ 1000) (h : ∀ t' k, Q (.bytes (stripL b).toArray t') { s with toks := k }) : wpAny (model prog w) A (call (.builtin "bytes.strip") [.bytes b t, .bytes #[32, 9] u]) Q E s := by
  refine wpAny_call_entry slot_bytes_strip (typeIs_bytes _ _ _) entry_bytes_strip ?_ (by unfold argsOk; kernel_rfl)
  show wpAny _ _ (Bytes.bytesLike _ (.bytes #[32, 9] u) >>= fun set => _) _ _ s
  rw [like_eq]
  refine wpAny_bind (wpAny_pure ?_)
  show wpAny _ _ (if ((stripL b).length == b.size) = true then _ else _) _ _ s
  by_cases e : (stripL b).length = b.size
  · rw [if_pos (beq_iff_eq.mpr e)]
    refine wpAny_bind (wpAny_rule ?_)
    have h := h t s.toks
    rw [stripL_eq e] at h
    refine wpAny_bind (m := Bytes.Kind.same _ _) ?_
    unfold Bytes.Kind.same
    rw [if_pos (by rfl)]
    refine wpAny_bind (wpAny_typeOf (typeIs_bytes _ _ _) ?_)
    exact wpAny_pure (wpAny_pure ⟨_, rfl, h⟩)
  · rw [if_neg (fun q => e (beq_iff_eq.mp q))]
    refine wpAny_bind (wpAny_mkBytes (wpAny_pure ⟨_, rfl, h _ _⟩) ?_)
    have := stripL_len b
    rw [sizeLine_eq]
    show (stripL b).toArray.size ≤ _
    simp only [List.size_toArray]
    omega
end
end Mine

end
section
open PySem PySem.W PySem.W.X PySem.Calls PyProof.Rows PySem.Builtin PySem.SeqAt
set_option maxRecDepth 100000
namespace Mine
theorem all_true (n : Nat) : ((List.range n).all fun _ => true) = true := List.all_eq_true.mpr fun _ _ => rfl
section
variable {prog : Program} {w : World} {A : Around} {E : Value → Shared → Prop} {s : Shared} {b c : Oct} {t u : Tok} {Q : Value → Shared → Prop} {k : Int}
theorem index_int {k : Int} {u : Tok} : asIndex (.int k u) = pure k := rfl
theorem meets_bytes_contains (b : Oct) (t : Tok) (k : Int) (u : Tok) (h0 : 0 ≤ k) (h1 : k < 256) :
    Meets («bytes.__contains__» ⟨[.bytes b t, .int k u], []⟩) (fun _ R s => R (.ok (.ret (.bool (b.contains k.toNat.toUInt8)))) s) := by
  refine .of_wp fun prog w A R s hR => ?_
  show wpAny _ _ (Bytes.containsIn "bytes.__contains__" (.bytes b t) (.int k u) >>= fun x => _) _ _ s
  unfold Bytes.containsIn
  rw [index_int, KBy.buffer_eq]
  refine wpAny_bind (wpAny_bind (wpAny_attempt (wpAny_pure ?_)))
  refine wpAny_bind (wpAny_pure ?_)
  dsimp only
  rw [if_neg (by simp; omega)]
  exact wpAny_pure (wpAny_pure ⟨_, rfl, hR⟩)
theorem bIn (h0 : 0 ≤ k) (h1 : k < 256) (h : Q (.bool (b.contains k.toNat.toUInt8)) s) : wpAny (model prog w) A (compareOp .In (.int k u) (.bytes b t)) Q E s :=
  SeqRoads2.in_meets (typeIs_bytes s b t) FB.slot_bytes_contains FB.entry_bytes_contains (FB.args_bytes_contains_2 _ _) (meets_bytes_contains b t k u h0 h1) ⟨_, rfl, h⟩
theorem bNotIn (h0 : 0 ≤ k) (h1 : k < 256) (h : Q (.bool (!b.contains k.toNat.toUInt8)) s) : wpAny (model prog w) A (compareOp .NotIn (.int k u) (.bytes b t)) Q E s :=
  SeqRoads2.notIn_meets (typeIs_bytes s b t) FB.slot_bytes_contains FB.entry_bytes_contains (FB.args_bytes_contains_2 _ _) (meets_bytes_contains b t k u h0 h1) ⟨_, rfl, h⟩

theorem eqAtBytes (A : Around) (s : Shared) (b : Oct) (t u : Tok) : EqAt A s (.bytes b t) (.bytes b u) true := fun prog w E Q h => by
  unfold eqBool
  refine wpAny_holding ?_
  refine wpAny_ite_split (fun hab => ?_) (fun hab => ?_)
  · exact wpAny_bind (wpAny_rule (wpAny_pure h))
  · refine wpAny_bind ?_
    have h' : wpAny (model prog w) A (compareOp .Eq (.bytes b t) (.bytes b u)) (fun v s' => wpAny (model prog w) A (truthOfDropped v) Q E s') E s := by
      refine eq_bytes (wpAny_truthy_bool ?_)
      rw [beq_self_eq_true]; exact h
    exact h'
theorem eqAtPair {u v : Value} {q : Oct × Oct} (hu : A.units < cLine) (x : PairAt s.heap u q) (y : PairAt s.heap v q) : EqAt A s u v true := by
  obtain ⟨t, t1, t2, rfl, ht⟩ := x
  obtain ⟨t', t1', t2', rfl, ht'⟩ := y
  by_cases e : t = t'
  · subst e; exact EqAt.same _
  refine EqAt.of_refs e ?_
  have := RcAt.tuples (s := s) (A := A) (l := t) (b := t') (items := [Value.bytes q.1 t1, .bytes q.2 t2].toArray) (items2 := [Value.bytes q.1 t1', .bytes q.2 t2'].toArray) (e := fun _ => true) ⟨_, ht, rfl, _, rfl⟩ ⟨_, ht', rfl, _, rfl⟩ hu (fun j h1 h2 => by
    match j with
    | 0 => exact eqAtBytes _ _ _ _ _
    | 1 => exact eqAtBytes _ _ _ _ _)
  rw [all_true] at this
  exact this
theorem listEq {l l' : Addr} {xs ys : Array Value} (hl : s.heap.IsList l xs) (hb : s.heap.IsList l' ys) (hsz : xs.size = ys.size) (hu : A.units < cLine) (he : ∀ j (h1 : j < xs.size) (h2 : j < ys.size), EqAt A.in1 s xs[j] ys[j] true)
    (h : Q (.bool true) s) : wpAny (model prog w) A (compareOp .Eq (.ref l) (.ref l')) Q E s := by
  have x := RcAt.lists (e := fun _ => true) hl hb hsz hu he
  refine x prog w E Q ?_
  rw [all_true]
  exact h
theorem listNe {l l' : Addr} {xs ys : Array Value} (hl : s.heap.IsList l xs) (hb : s.heap.IsList l' ys) (hsz : xs.size = ys.size) (hu : A.units < cLine) (he : ∀ j (h1 : j < xs.size) (h2 : j < ys.size), EqAt A.in1 s xs[j] ys[j] true)
    (h : Q (.bool false) s) : wpAny (model prog w) A (compareOp .NotEq (.ref l) (.ref l')) Q E s := by
  have x := RcNeAt.lists (e := fun _ => true) hl hb hsz hu he
  refine x prog w E Q ?_
  rw [all_true]
  exact h
/-- compared with a list of none -/
theorem listEqNil {l l' : Addr} {xs : Array Value} (hl : s.heap.IsList l xs) (hb : s.heap.IsList l' #[]) (hu : A.units < cLine) (h : Q (.bool xs.isEmpty) s) : wpAny (model prog w) A (compareOp .Eq (.ref l) (.ref l')) Q E s := by
  by_cases e : xs.size = 0
  · have e' : xs = #[] := Array.eq_empty_of_size_eq_zero e
    subst e'
    exact listEq hl hb rfl hu (fun j h1 => absurd h1 (Nat.not_lt_zero _)) h
  · refine RcAt.lists_lengths hl hb (by simp; exact fun q => e (by rw [q]; rfl)) hu prog w E Q ?_
    have e' : xs.isEmpty = false := by simp [Array.isEmpty, e]
    rw [e'] at h; exact h
theorem listNeNil {l l' : Addr} {xs : Array Value} (hl : s.heap.IsList l xs) (hb : s.heap.IsList l' #[]) (hu : A.units < cLine) (h : Q (.bool !xs.isEmpty) s) : wpAny (model prog w) A (compareOp .NotEq (.ref l) (.ref l')) Q E s := by
  by_cases e : xs.size = 0
  · have e' : xs = #[] := Array.eq_empty_of_size_eq_zero e
    subst e'
    exact listNe hl hb rfl hu (fun j h1 => absurd h1 (Nat.not_lt_zero _)) h
  · refine RcNeAt.lists_lengths hl hb (by simp; exact fun q => e (by rw [q]; rfl)) hu prog w E Q ?_
    have e' : xs.isEmpty = false := by simp [Array.isEmpty, e]
    rw [e'] at h; exact h
end
end Mine

end
section
open PySem PySem.W PySem.W.X PySem.Calls PyProof.Rows PySem.Builtin PySem.SeqAt
set_option maxRecDepth 100000
namespace Mine
theorem warm15 : (∀ P, Mine.hd.heap_39 P = Mine.hd.heap_39 P) ∧ PySem.Challenge.rw_ae6005_01 = PySem.Challenge.rw_ae6005_01 := by
  k_fill
  exact ⟨fun _ => rfl, rfl⟩
def signsB : Oct := #[33, 35, 36, 37, 38, 39, 42, 43, 45, 46, 94, 95, 96, 124, 126, 48, 49, 50, 51, 52, 53, 54, 55, 56, 57, 97, 98, 99, 100, 101, 102, 103, 104, 105, 106, 107, 108, 109, 110, 111, 112, 113, 114, 115, 116, 117, 118, 119, 120, 121, 122, 65, 66, 67, 68, 69, 70, 71, 72, 73, 74, 75, 76, 77, 78, 79, 80, 81, 82, 83, 84, 85, 86, 87, 88, 89, 90]
def badB : Oct := #[0, 10, 11, 12, 13]
abbrev pairMap (line : Value) (colV valV : Option Value) : Str → Option Value := fun y =>
  if y = Str.ofString "value" then valV else if y = Str.ofString "colon" then colV else if y = Str.ofString "line" then some line else none
theorem pmap_col (line : Value) (c v : Option Value) (u : Value) : (fun y => if y = Str.ofString "colon" then some u else pairMap line c v y) = pairMap line (some u) v := by
  funext y; simp only [pairMap]
  by_cases h : y = Str.ofString "colon"
  · subst h; rfl
  · simp [h]
theorem pmap_val (line : Value) (c v : Option Value) (u : Value) : (fun y => if y = Str.ofString "value" then some u else pairMap line c v y) = pairMap line c (some u) := by
  funext y; simp only [pairMap]; split <;> rfl
section
variable {prog : Program} {w : World} {A : Around} {E : Value → Shared → Prop} {s : Shared} {b : Oct} {t : Tok}
theorem bCut {value slice : Expr} {l u : Value} {lo hi : Option Int} {Q : Value → Shared → Prop} (hl : IsPart l lo) (hu : IsPart u hi) (hz : b.size ≤ 1000)
    (h : ∀ t' k', Q (.bytes (KBy.picked b lo hi) t') { s with heap := s.heap.push { cls := .type "slice", data := .fields #[l, u, .none] }, toks := k' })
    (hs : subscripted slice false (.bytes b t) (.ref s.heap.objs.size) = operate [.ref s.heap.objs.size, .bytes b t] (getItem (.bytes b t) (.ref s.heap.objs.size)) := by with_unfolding_all rfl)
    (ht : ∀ r, letTemporaryGo value (.bytes b t) r = pure () := by intro _; with_unfolding_all rfl) :
    wpAny (model prog w) A (subscriptTail value slice (.bytes b t) (.ref s.heap.objs.size)) Q E { s with heap := s.heap.push { cls := .type "slice", data := .fields #[l, u, .none] } } :=
  tail_of_ItemOn ⟨"bytes", _, FB.slot_bytes_getitem.lookup, typeIs_bytes _ _ _, getItem_meets (typeIs_bytes _ _ _) (by decide) FB.slot_bytes_getitem FB.entry_bytes_getitem (FB.args_bytes_getitem_2 _ _) (KBc.meets_slice2 b t _ hl hu)
    ⟨Heap.IsSliceOf.new _ _ _ _, Nat.le_trans (KBc.size_picked_le b _ _) (by rw [sizeLine_eq]; omega), fun t' k' => h t' k'⟩⟩ hs ht
end

/-- none of these octets is let through by p -/
def noneOf (p : UInt8 → Bool) (b : Oct) : Bool := b.all fun c => !p c
def intP (p : UInt8 → Bool) : Value → Bool
  | .int k _ => p k.toNat.toUInt8
  | _ => false

section
variable {w : World} {s : Shared} {h₀ : Heap} {L : Addr} {mg mb : Str → Option Value} {mean : ExcName → Option Value} {b : Oct} {E : Value → Shared → Prop} {outer : List Env} {t : Tok} {colV valV : Option Value}
theorem toU8 (c : UInt8) : ((c.toNat : Int)).toNat.toUInt8 = c := by
  show c.toNat.toUInt8 = c
  simp
/-- what a filter over octets leaves: nothing iff nothing passes -/
theorem filterEmpty {b : Oct} {p : UInt8 → Bool} {vs : List Value} {ys : Array Value} (hn : vs.length = b.size) (hP : ∀ (j : Nat) v, vs[j]? = some v → ∃ (c : UInt8) (u : Tok), b[j]? = some c ∧ v = Value.int (c.toNat : Int) u) (hF : Paired (fun v y => v = y) (vs.filter (intP p)) ys.toList) :
    ys.isEmpty = noneOf p b := by
  have e1 : ys.isEmpty = (vs.filter (intP p)).isEmpty := by
    have := hF.length
    have e2 : ys.toList.length = ys.size := rfl
    rw [Bool.eq_iff_iff, List.isEmpty_iff, Array.isEmpty_iff, ← Array.size_eq_zero_iff, ← List.length_eq_zero_iff, this, e2]
  rw [e1]
  unfold noneOf
  rw [Bool.eq_iff_iff, List.isEmpty_iff, List.filter_eq_nil_iff, Array.all_eq_true]
  constructor
  · intro h i hi
    have hi' : i < vs.length := by omega
    obtain ⟨c, u, hc, hv⟩ := hP i vs[i] (List.getElem?_eq_getElem hi')
    have := h vs[i] (List.getElem_mem hi')
    rw [hv] at this
    have e : b[i] = c := by rw [Array.getElem?_eq_getElem hi] at hc; exact Option.some.inj hc
    rw [e]
    simpa [intP, toU8] using this
  · intro h v hv
    obtain ⟨i, hi, rfl⟩ := List.mem_iff_getElem.mp hv
    obtain ⟨c, u, hc, hv'⟩ := hP i vs[i] (List.getElem?_eq_getElem hi)
    have hi' : i < b.size := by omega
    have e : b[i] = c := by rw [Array.getElem?_eq_getElem hi'] at hc; exact Option.some.inj hc
    have := h i hi'
    rw [hv']
    rw [e] at this
    simpa [intP, toU8] using this

set_option maxHeartbeats 1000000 in
/-- a filter over octets -/
theorem compFilter {A : Around} {env : Env} {iter test : Expr} {scope : Scope} {pos px pe : Pos} {Q : Value → Shared → Prop} (p : UInt8 → Bool) (hh : A.handled = none)
    (hfree : ∀ y ∈ scope.names, y.2 ≠ .free) (hcell : ∀ y ∈ scope.names, y.2 ≠ .cell) (hkind : scope.kind = .function)
    (hnames : ∀ y ∈ scope.names, y.2 = .local → scope.names.lookup y.1 = some .local) (hx : scope.names.lookup (Str.ofString "c") = some .local)
    (htest : ∀ C (c : UInt8) u s₃ m₃ E', s₃.heap.Ns C m₃ → m₃ (Str.ofString "c") = some (.int (c.toNat : Int) u) → (∀ b o, s.heap.get? b = some o → s₃.heap.get? b = some o) →
      wpAny (model prog₀ w) A (isTrue test (compEnv scope C env) (eval test (compEnv scope C env))) (fun ok s₄ => ok = p c ∧ Keeps s₃ s₄) E' s₃)
    (h : wpAny (model prog₀ w) A (eval iter env) (fun x s₁ => ∃ b t, x = Value.bytes b t ∧ b.size ≤ 1000 ∧ (∀ b o, s.heap.get? b = some o → s₁.heap.get? b = some o) ∧
      (∀ D h' tk ys, s₁.heap.get? D = none → h'.IsList D ys → ys.isEmpty = noneOf p b → (∀ b o, s₁.heap.get? b = some o → h'.get? b = some o) → Q (.ref D) { s₁ with heap := h', toks := tk })) E s)
    (hs : ∀ x, foldedSetIterable iter env x = pure x := by intro _; rfl) :
    wpAny (model prog₀ w) A (eval (.ListComp (.Name (Str.ofString "c") pe) [⟨.Name (Str.ofString "c") px, iter, [test], 0⟩] scope pos) env) Q E s := by
  refine wpAny_ListComp_walk (intP p) (fun v y => v = y) hfree hcell hkind hnames hx (wpAny_mono h ?_ fun _ _ e => e) hs
  rintro x s₁ ⟨b, t, rfl, hz, k₁, hQ⟩
  refine KBw.pyIter_bytes ?_
  have old : ∀ b o, s₁.heap.get? b = some o → b ∉ [s₁.heap.objs.size] := fun b o q hb => by
    rw [List.mem_singleton.mp hb] at q
    exact absurd (Heap.lt_size q) (Nat.lt_irrefl _)
  refine ⟨s₁.heap.objs.size, [s₁.heap.objs.size], [s₁.heap.objs.size], b.size, _, _, rfl, KBw.walks hh s₁.heap.objs.size b t, by rw [sizeLine_eq]; omega, ⟨_, Heap.get?_push_size _ rfl, rfl, rfl⟩, ?_, ⟨?_, ?_⟩, ?_⟩
  · intro b hb
    rw [List.mem_singleton.mp hb]
    simp [Heap.push]
  · rintro C i v s₃ m₃ E' ⟨c, u, hc, rfl⟩ hn hm hk _
    refine wpAny_tests_one (wpAny_mono (htest C c u s₃ m₃ E' hn hm fun b o q => hk b o (old b o (k₁ b o q)) (Heap.get?_push_of_some _ (k₁ b o q))) ?_ fun _ _ e => e)
    rintro ok s₄ ⟨rfl, k⟩
    exact ⟨by simp [intP], k⟩
  · rintro C i v s₃ m₃ E' ⟨c, u, hc, rfl⟩ _ hn hm hk _
    exact wpAny_Name (wpAny_loadName_local (by exact hkind) (by exact hx) hn hm ⟨rfl, s₃.heap, s₃.toks, rfl, fun _ _ q => q⟩) (by decide)
  · intro D h' tk ys vs hD hl _ hlen hP hF hk
    have hD' : s₁.heap.get? D = none := by
      cases q : s₁.heap.get? D with
      | none => rfl
      | some o => have := Heap.get?_push_of_some (h := s₁.heap) { cls := .type "bytes_iterator", data := .fields #[.bytes b t, .int 0 0] } q; rw [hD] at this; cases this
    exact hQ D h' tk ys hD' hl (filterEmpty hlen hP hF) fun b o q => hk b o (old b o q) (Heap.get?_push_of_some _ q)
end
end Mine

end
section
open PySem PySem.W PySem.W.X PySem.Calls PyProof.Rows PySem.Builtin PySem.SeqAt
set_option maxRecDepth 100000
namespace Mine
theorem warm16 : (∀ P, Mine.hd.heap_39 P = Mine.hd.heap_39 P) ∧ PySem.Challenge.rw_ae6005_01 = PySem.Challenge.rw_ae6005_01 := by
  k_fill
  exact ⟨fun _ => rfl, rfl⟩
def cEnv (scope : Scope) (C L : Addr) : Env := compEnv scope C (pairEnv L)
def compScope : Expr → Scope
  | .ListComp _ _ s _ => s
  | _ => default
def cmpLeft : Expr → Expr
  | .Compare l _ _ _ => l
  | _ => .Constant .none 0 default
def boolArg (n : Nat) : Expr → Expr
  | .BoolOp _ vs _ => vs.getD n (.Constant .none 0 default)
  | _ => .Constant .none 0 default
def tComp1 : Expr := cmpLeft (boolArg 1 (ifTestOf (pairBody.getD 1 (.Pass default))))
def tComp2 : Expr := cmpLeft (ifTestOf (pairBody.getD 3 (.Pass default)))
noncomputable def signTok (w : World) : Tok := match peek (Mine.hd.heap_39 w.params) ⟨prog₀, w.params⟩ (loadName (compEnv (compScope tComp1) 0 (pairEnv 0)) (Str.ofString "_law_signs")) with
  | some (.bytes _ t) => t
  | _ => 0
theorem pk_signs (w : World) (L C : Addr) : PK w (loadName (compEnv (compScope tComp1) C (pairEnv L)) (Str.ofString "_law_signs")) (.bytes signsB (signTok w)) := by kernel_rfl

theorem ite_split' {c : Prop} [Decidable c] {X Y : Prop} (h1 : c → X) (h2 : ¬ c → Y) : if c then X else Y := by
  by_cases hc : c
  · rw [if_pos hc]; exact h1 hc
  · rw [if_neg hc]; exact h2 hc
section
variable {w : World} {s : Shared} {h₀ : Heap} {L : Addr} {mg mb : Str → Option Value} {mean : ExcName → Option Value} {b : Oct} {E : Value → Shared → Prop} {outer : List Env} {t : Tok} {colV valV : Option Value}
set_option maxHeartbeats 4000000 in
theorem pair1 {Q : Flow → Shared → Prop} (X : (Mine.hd.heap_39 w.params).In h₀) (T : Top view₀ (looseW view₀ loose₀) mean mg mb h₀) (F : Fr h₀ L s.heap (pairMap (.bytes b t) colV valV))
    (h : ∀ h' tk tn, Fr h₀ L h' (pairMap (.bytes b t) (some (.int (findC b) tn)) valV) → (∀ b o, b ≠ L → s.heap.get? b = some o → h'.get? b = some o) → Q .next { s with heap := h', toks := tk }) :
    wpAny (model prog₀ w) (A₉ outer) (exec (pairBody.getD 0 (.Pass default)) (pairEnv L)) Q E s := by
  have N := news_full h₀ L s.heap
  show wpAny _ _ (exec (Stmt.Assign _ _ _) (envOf _ { kind := _, names := _, isGenerator := _, isCoroutine := _, more := _ } _ _ _)) _ _ _
  repeat' (first | walk1 | (dsimp only; walk1))
  refine getMethod_builtin (typeIs_bytes _ _ _) plain_bytes slot_bytes_find type_bytes_find (fun a e => by cases e) ?_
  dsimp only
  repeat' (first | walk1 | (dsimp only; walk1))
  refine bFind fun t' k => ?_
  refine stN F N fun h' F' N' => ?_
  rw [pmap_col] at F'
  have k' := keep_full (X := fun _ => False) F' F.keep N' fun p hp _ => hp
  exact h h' _ t' F' fun b o hb q => k' b o hb _root_.id q

set_option maxHeartbeats 4000000 in
theorem pair2 {Q : Bool → Shared → Prop} {n : Int} {tn : Tok} (X : (Mine.hd.heap_39 w.params).In h₀) (T : Top view₀ (looseW view₀ loose₀) mean mg mb h₀) (F : Fr h₀ L s.heap (pairMap (.bytes b t) (some (.int n tn)) valV)) (hn : -1 ≤ n) (hn' : n ≤ b.size) (hz : b.size ≤ 1000)
    (h : ∀ h' tk, (∀ b o, s.heap.get? b = some o → h'.get? b = some o) → Q (decide (n < 1) || !noneOf (fun c => !signsB.contains c) (KBy.picked b none (some n))) { s with heap := h', toks := tk }) :
    wpAny (model prog₀ w) (A₉ outer) (isTrue (ifTestOf (pairBody.getD 1 (.Pass default))) (pairEnv L) (eval (ifTestOf (pairBody.getD 1 (.Pass default))) (pairEnv L))) Q E s := by
  have N := news_full h₀ L s.heap
  show wpAny _ _ (isTrue (Expr.BoolOp _ _ _) (envOf _ { kind := _, names := _, isGenerator := _, isCoroutine := _, more := _ } _ _ _) _) _ _ _
  iterate 6 (first | walk1 | (dsimp only; walk1))
  refine ite_split' (fun hlt => ?_) (fun hge => ?_)
  · have h := h s.heap (s.toks + 1) fun _ _ q => q
    rw [hlt] at h
    exact h
  · have hge : ¬ n < 1 := by simpa using hge
    have e0 : decide (n < 1) = false := decide_eq_false hge
    rw [e0, Bool.false_or] at h
    iterate 2 (first | walk1 | (dsimp only; walk1))
    show wpAny _ _ (eval (.ListComp (.Name (Str.ofString "c") _) [⟨.Name (Str.ofString "c") _, _, [_], 0⟩] (compScope tComp1) _) (pairEnv L)) _ _ _
    refine compFilter (fun c => !signsB.contains c) rfl (by decide +kernel) (by decide +kernel) rfl (by decide +kernel) rfl ?_ ?_
    · intro C c u s₃ m₃ E' hn hm hk
      refine wpAny_isTrue_Compare1 (wpAny_Name (wpAny_loadName_local rfl rfl hn hm ?_) (by decide))
      refine wpAny_Name ((pkLooks (X.keeps fun b o q => hk b o (F.keep b o q)) (pk_signs w L C)) _ _ _ _ (fun _ _ x => x) ?_) (by decide)
      have hc := c.toNat_lt
      refine bNotIn (by omega) (by omega) (wpAny_truthy_bool ⟨?_, s₃.heap, s₃.toks, rfl, fun _ _ q => q⟩)
      rw [toU8]
    · repeat' (first | walk1 | (dsimp only; walk1))
      refine bCut .none (.int _ _) hz fun t' k' => ⟨_, t', rfl, Nat.le_trans (KBc.size_picked_le b _ _) hz, fun b o q => Heap.get?_push_of_some _ q, fun D h' tk ys hD hl hy hk => ?_⟩
      have k₁ : ∀ b o, s.heap.get? b = some o → h'.get? b = some o := fun b o q => hk b o (Heap.get?_push_of_some _ q)
      repeat' (first | walk1 | (dsimp only; walk1))
      refine wpAny_newObj_type ?_ (by size_fits)
      have hl' : (h'.push { cls := .type "list", dict := none, data := .seq ([] : List Value).toArray }).IsList h'.objs.size #[] := ⟨_, Heap.get?_push_size _ rfl, rfl, _, rfl⟩
      refine listNeNil (hl.at fun o q => Heap.get?_push_of_some _ q) hl' (Nat.le_of_ble_eq_true rfl) (wpAny_truthy_bool ?_)
      have h := h _ tk fun b o q => Heap.get?_push_of_some { cls := .type "list", dict := none, data := .seq ([] : List Value).toArray } (k₁ b o q)
      rw [← hy] at h
      cases hys : ys.isEmpty with
      | true =>
        rw [hys] at h
        repeat' (first | walk1 | (dsimp only; walk1))
        exact h
      | false =>
        rw [hys] at h
        repeat' (first | walk1 | (dsimp only; walk1))
        exact h

def bodyAt (n : Nat) : Stmt := pairBody.getD n (.Pass default)
set_option maxHeartbeats 4000000 in
theorem pair3 {Q : Flow → Shared → Prop} {n : Int} {tn : Tok} (X : (Mine.hd.heap_39 w.params).In h₀) (T : Top view₀ (looseW view₀ loose₀) mean mg mb h₀) (F : Fr h₀ L s.heap (pairMap (.bytes b t) (some (.int n tn)) valV)) (hn : 1 ≤ n) (hn' : n ≤ b.size) (hz : b.size ≤ 1000)
    (h : ∀ h' tk t', Fr h₀ L h' (pairMap (.bytes b t) (some (.int n tn)) (some (.bytes (stripL (KBy.picked b (some (n + 1)) none)).toArray t'))) → (∀ b o, b ≠ L → s.heap.get? b = some o → h'.get? b = some o) → Q .next { s with heap := h', toks := tk }) :
    wpAny (model prog₀ w) (A₉ outer) (exec (pairBody.getD 2 (.Pass default)) (pairEnv L)) Q E s := by
  have N := news_full h₀ L s.heap
  show wpAny _ _ (exec (Stmt.Assign _ _ _) (envOf _ { kind := _, names := _, isGenerator := _, isCoroutine := _, more := _ } _ _ _)) _ _ _
  repeat' (first | walk1 | (dsimp only; walk1))
  refine bCut (.int _ _) .none hz fun t₁ k₁ => ?_
  refine getMethod_builtin (typeIs_bytes _ _ _) plain_bytes slot_bytes_strip type_bytes_strip (fun a e => by cases e) ?_
  dsimp only
  repeat' (first | walk1 | (dsimp only; walk1))
  refine bStrip (Nat.le_trans (KBc.size_picked_le b _ _) hz) fun t' k => ?_
  refine stN (F.push _) (News.pushKeep N _) fun h' F' N' => ?_
  rw [pmap_val] at F'
  have k' := keep_full (X := fun _ => False) F' F.keep N' fun p hp _ => hp
  exact h h' _ t' F' fun b o hb q => k' b o hb _root_.id q

theorem pair4 {Q : Bool → Shared → Prop} {c : Oct} {tc : Tok} (X : (Mine.hd.heap_39 w.params).In h₀) (T : Top view₀ (looseW view₀ loose₀) mean mg mb h₀) (F : Fr h₀ L s.heap (pairMap (.bytes b t) colV (some (.bytes c tc)))) (hz : c.size ≤ 1000)
    (h : ∀ h' tk, (∀ b o, s.heap.get? b = some o → h'.get? b = some o) → Q (!noneOf (fun x => badB.contains x) c) { s with heap := h', toks := tk }) :
    wpAny (model prog₀ w) (A₉ outer) (isTrue (ifTestOf (pairBody.getD 3 (.Pass default))) (pairEnv L) (eval (ifTestOf (pairBody.getD 3 (.Pass default))) (pairEnv L))) Q E s := by
  have N := news_full h₀ L s.heap
  show wpAny _ _ (isTrue (Expr.Compare tComp2 _ _ _) (envOf _ { kind := _, names := _, isGenerator := _, isCoroutine := _, more := _ } _ _ _) _) _ _ _
  refine wpAny_isTrue_Compare1 ?_
  show wpAny _ _ (eval (.ListComp (.Name (Str.ofString "c") _) [⟨.Name (Str.ofString "c") _, _, [_], 0⟩] (compScope tComp2) _) (pairEnv L)) _ _ _
  refine compFilter (fun x => badB.contains x) rfl (by decide +kernel) (by decide +kernel) rfl (by decide +kernel) rfl ?_ ?_
  · intro C c u s₃ m₃ E' hn hm hk
    refine wpAny_isTrue_Compare1 (wpAny_Name (wpAny_loadName_local rfl rfl hn hm ?_) (by decide))
    refine Constant_bytes ?_
    have hc := c.toNat_lt
    refine bIn (by omega) (by omega) (wpAny_truthy_bool ⟨?_, s₃.heap, _, rfl, fun _ _ q => q⟩)
    rw [toU8]; rfl
  · refine ld F (by rfl) ⟨c, tc, rfl, hz, fun _ _ q => q, fun D h' tk ys hD hl hy hk => ?_⟩
    show wpAny _ _ (eval (.List [] _) _) _ _ _
    repeat' (first | walk1 | (dsimp only; walk1))
    refine wpAny_newObj_type ?_ (by size_fits)
    have hl' : (h'.push { cls := .type "list", dict := none, data := .seq ([] : List Value).toArray }).IsList h'.objs.size #[] := ⟨_, Heap.get?_push_size _ rfl, rfl, _, rfl⟩
    refine listNeNil (hl.at fun o q => Heap.get?_push_of_some _ q) hl' (Nat.le_of_ble_eq_true rfl) (wpAny_truthy_bool ?_)
    have h := h _ tk fun b o q => Heap.get?_push_of_some { cls := .type "list", dict := none, data := .seq ([] : List Value).toArray } (hk b o q)
    rw [← hy] at h
    exact h

set_option maxHeartbeats 4000000 in
theorem pair5 {Q : Flow → Shared → Prop} {n : Int} {c : Oct} {tn tc : Tok} (X : (Mine.hd.heap_39 w.params).In h₀) (T : Top view₀ (looseW view₀ loose₀) mean mg mb h₀) (F : Fr h₀ L s.heap (pairMap (.bytes b t) (some (.int n tn)) (some (.bytes c tc)))) (hn : 1 ≤ n) (hn' : n ≤ b.size) (hz : b.size ≤ 1000)
    (h : ∀ h' tk v, (∀ b o, s.heap.get? b = some o → h'.get? b = some o) → PairAt h' v (KBy.picked b none (some n), c) → Q (.ret v) { s with heap := h', toks := tk }) :
    wpAny (model prog₀ w) (A₉ outer) (exec (pairBody.getD 4 (.Pass default)) (pairEnv L)) Q E s := by
  have N := news_full h₀ L s.heap
  show wpAny _ _ (exec (Stmt.Return _ _) (envOf _ { kind := _, names := _, isGenerator := _, isCoroutine := _, more := _ } _ _ _)) _ _ _
  repeat' (first | walk1 | (dsimp only; walk1))
  refine bCut .none (.int _ _) hz fun t₁ k₁ => ?_
  have F₁ := F.push { cls := .type "slice", data := .fields #[.none, .int n tn, .none] }
  refine Calls.spliced_cons (ld F₁ (by rfl) (Calls.spliced_nil ?_))
  unfold newTuple
  refine wpAny_newObj_type ?_ (by size_fits)
  exact h _ _ _ (fun b o q => Heap.get?_push_of_some _ (Heap.get?_push_of_some _ q)) ⟨_, _, _, rfl, Heap.get?_push_size _ rfl⟩
end
end Mine

end
section
open PySem PySem.W PySem.W.X PySem.Calls PyProof.Rows PySem.Builtin PySem.SeqAt
set_option maxRecDepth 100000
namespace Mine
/-- the pair that the law reckons of a line -/
def pairL (b : Oct) : Option (Oct × Oct) :=
  if (decide (findC b < 1) || !noneOf (fun c => !signsB.contains c) (KBy.picked b none (some (findC b)))) = true then none
  else if (!noneOf (fun x => badB.contains x) (stripL (KBy.picked b (some (findC b + 1)) none)).toArray) = true then none
  else some (KBy.picked b none (some (findC b)), (stripL (KBy.picked b (some (findC b + 1)) none)).toArray)
theorem findC_bound (b : Oct) : -1 ≤ findC b ∧ findC b ≤ b.size := by
  unfold findC
  cases e : Bytes.find? b #[58] 0 b.size with
  | none => dsimp only; omega
  | some i =>
    have := List.mem_of_find?_eq_some e
    simp only [List.mem_map, List.mem_range] at this
    obtain ⟨j, hj, rfl⟩ := this
    simp at hj ⊢
    omega
theorem sc125 : Sc pairScope [Str.ofString "line"] := ⟨rfl, rfl, by decide +kernel, by decide +kernel⟩
theorem pk125 (w : World) (l : Value) : PK w (bindArgs (fdAt w.params 125) ⟨[l], []⟩) [(Str.ofString "line", l)] := by kernel_rfl
theorem pmap_start (v : Value) : (fun x => ([(Str.ofString "line", v)] : List (Str × Value)).reverse.lookup x) = pairMap v none none := by
  funext y
  show List.lookup y [_] = _
  unfold pairMap
  by_cases h1 : y = Str.ofString "value"
  · subst h1; rfl
  by_cases h2 : y = Str.ofString "colon"
  · subst h2; rfl
  rw [if_neg h1, if_neg h2]
  by_cases h : y = Str.ofString "line"
  · subst h; rfl
  · rw [if_neg h, List.lookup_cons, beq_false_of_ne h]; rfl
theorem pairBody_eq : pairBody = [pairBody.getD 0 (.Pass default), pairBody.getD 1 (.Pass default), pairBody.getD 2 (.Pass default), pairBody.getD 3 (.Pass default), pairBody.getD 4 (.Pass default)] := rfl

section
variable {w : World} {s : Shared} {h₀ : Heap} {L : Addr} {mg mb : Str → Option Value} {mean : ExcName → Option Value} {A : Around} {b : Oct} {E : Value → Shared → Prop} {outer : List Env} {t : Tok}
theorem pairBodyG {Q : Flow → Shared → Prop} (r : Rm A outer) (X : (Mine.hd.heap_39 w.params).In h₀) (T : Top view₀ (looseW view₀ loose₀) mean mg mb h₀) (F : Fr h₀ L s.heap (pairMap (.bytes b t) none none)) (hz : b.size ≤ 1000)
    (hno : pairL b = none → ∀ h' tk, (∀ b o, b ≠ L → s.heap.get? b = some o → h'.get? b = some o) → Q (.ret .none) { s with heap := h', toks := tk })
    (hyes : ∀ q, pairL b = some q → ∀ h' tk v, (∀ b o, b ≠ L → s.heap.get? b = some o → h'.get? b = some o) → PairAt h' v q → Q (.ret v) { s with heap := h', toks := tk }) :
    wpG (mdl prog₀ w) A (execs pairBody (pairEnv L)) Q E s := by
  obtain ⟨hb1, hb2⟩ := findC_bound b
  unfold pairL at hno hyes
  rw [pairBody_eq]
  refine gStep (lift (r.any (pair1 X T F fun h₁ tk₁ tn F₁ k₁ => ?_)))
  show wpG _ _ (execs [_, _, _, _] _) _ _ _
  refine gExecs ?_
  show wpG _ _ (exec (Stmt.If (ifTestOf (pairBody.getD 1 (.Pass default))) [Stmt.Return (some (Expr.Constant Const.none _ _)) _] [] _) _) _ _ _
  refine gIf (toG (lift (r.any (pair2 (s := { s with heap := h₁, toks := tk₁ }) X T F₁ hb1 hb2 hz fun h₂ tk₂ k₂ => ?_))))
  have F₂ := frExt F₁ k₂
  cases e1 : (decide (findC b < 1) || !noneOf (fun c => !signsB.contains c) (KBy.picked b none (some (findC b)))) with
  | true =>
    rw [e1] at hno
    show wpG _ _ (execs [_] _) _ _ _
    refine gExecs (gReturn (toG (Constant_none ?_)))
    exact hno rfl _ _ fun b o hb q => k₂ b o (k₁ b o hb q)
  | false =>
    have h1 : 1 ≤ findC b := by
      have := (Bool.or_eq_false_iff.mp e1).1
      have := of_decide_eq_false this
      omega
    rw [e1] at hno hyes
    rw [if_neg Bool.false_ne_true] at hno hyes
    show wpG _ _ (execs [] _) _ _ _
    refine gExecsNil ?_
    refine gStep (lift (r.any (pair3 (s := { s with heap := h₂, toks := tk₂ }) X T F₂ h1 hb2 hz fun h₃ tk₃ t₃ F₃ k₃ => ?_)))
    show wpG _ _ (execs [_, _] _) _ _ _
    refine gExecs ?_
    show wpG _ _ (exec (Stmt.If (ifTestOf (pairBody.getD 3 (.Pass default))) [Stmt.Return (some (Expr.Constant Const.none _ _)) _] [] _) _) _ _ _
    have hcs : (stripL (KBy.picked b (some (findC b + 1)) none)).toArray.size ≤ 1000 := by
      have h1 := stripL_len (KBy.picked b (some (findC b + 1)) none)
      have h2 := KBc.size_picked_le b (some (findC b + 1)) none
      simp only [List.size_toArray]
      omega
    refine gIf (toG (lift (r.any (pair4 (s := { s with heap := h₃, toks := tk₃ }) X T F₃ hcs fun h₄ tk₄ k₄ => ?_))))
    have F₄ := frExt F₃ k₄
    cases e2 : (!noneOf (fun x => badB.contains x) (stripL (KBy.picked b (some (findC b + 1)) none)).toArray) with
    | true =>
      rw [e2] at hno
      show wpG _ _ (execs [_] _) _ _ _
      refine gExecs (gReturn (toG (Constant_none ?_)))
      exact hno rfl _ _ fun b o hb q => k₄ b o (k₃ b o hb (k₂ b o (k₁ b o hb q)))
    | false =>
      rw [e2] at hyes
      show wpG _ _ (execs [] _) _ _ _
      refine gExecsNil ?_
      refine gStep (lift (r.any (pair5 (s := { s with heap := h₄, toks := tk₄ }) X T F₄ h1 hb2 hz fun h₅ tk₅ v k₅ hp => ?_)))
      exact hyes _ rfl h₅ tk₅ v (fun b o hb q => k₅ b o (k₄ b o (k₃ b o hb (k₂ b o (k₁ b o hb q))))) hp

/-- the call of _law_pair -/
theorem pairCall {Q : Value → Shared → Prop} (r : Rk 2 A outer) (X : (Mine.hd.heap_39 w.params).In s.heap) (T : Top view₀ (looseW view₀ loose₀) mean mg mb s.heap) (nl : s.heap.NoLimit) (hz : b.size ≤ 1000)
    (hno : pairL b = none → ∀ h' tk, (∀ b o, s.heap.get? b = some o → h'.get? b = some o) → Q .none { s with heap := h', toks := tk })
    (hyes : ∀ q, pairL b = some q → ∀ h' tk v, (∀ b o, s.heap.get? b = some o → h'.get? b = some o) → PairAt h' v q → Q v { s with heap := h', toks := tk }) :
    wpG (mdl prog₀ w) A (call (.ref 125) [.bytes b t]) Q E s := by
  refine Fn.callG (binds := [(Str.ofString "line", .bytes b t)]) (fn125 w.params) (r.le (by decide)) X nl sc125 rfl (pk125 w _) fun h' tk F => ?_
  rw [pmap_start] at F
  have old : ∀ b o, s.heap.get? b = some o → b ≠ s.heap.objs.size := fun b o q => Nat.ne_of_lt (Heap.lt_size q)
  refine pairBodyG (s := { s with heap := h', toks := tk }) (r.deeper _).rm X T F hz (fun e h₂ tk₂ k => ?_) fun q e h₂ tk₂ v k hp => ?_
  · exact hno e h₂ tk₂ fun b o q => k b o (old b o q) (F.keep b o q)
  · exact hyes q e h₂ tk₂ v (fun b o q => k b o (old b o q) (F.keep b o q)) hp
end
end Mine

end
section
open PySem PySem.W PySem.W.X PySem.Calls PyProof.Rows PySem.Builtin PySem.SeqAt
set_option maxRecDepth 100000
namespace Mine
theorem warm17 : (∀ P, Mine.hd.heap_39 P = Mine.hd.heap_39 P) ∧ PySem.Challenge.rw_ae6005_01 = PySem.Challenge.rw_ae6005_01 := by
  k_fill
  exact ⟨fun _ => rfl, rfl⟩
abbrev joinMap (l : Addr) (jV lineV : Option Value) : Str → Option Value := fun y =>
  if y = Str.ofString "line" then lineV else if y = Str.ofString "joined" then jV else if y = Str.ofString "lines" then some (.ref l) else none
theorem jmap_line (l : Addr) (c v : Option Value) (u : Value) : (fun y => if y = Str.ofString "line" then some u else joinMap l c v y) = joinMap l c (some u) := by
  funext y; simp only [joinMap]; split <;> rfl
theorem jmap_j (l : Addr) (c v : Option Value) (u : Value) : (fun y => if y = Str.ofString "joined" then some u else joinMap l c v y) = joinMap l (some u) v := by
  funext y; simp only [joinMap]
  by_cases h : y = Str.ofString "joined"
  · subst h; rfl
  · simp [h]
def jFor : Stmt := joinBody.getD 1 (.Pass default)
def jTurn : List Stmt := forBody jFor
def jIf : Stmt := jTurn.getD 0 (.Pass default)
def jSet : Stmt := (ifThen jIf).getD 1 (.Pass default)
def jNil : Expr := ifTestOf ((ifThen jIf).getD 0 (.Pass default))
def jApp : Stmt := (ifElse jIf).getD 0 (.Pass default)
example : joinBody.length = 3 := rfl
example : jTurn.length = 1 := rfl
example : (ifThen jIf).length = 2 := rfl
example : (ifElse jIf).length = 1 := rfl
def startsBlank (b : Oct) : Bool := (KBy.picked b none (some 1)).toList == [32] || (KBy.picked b none (some 1)).toList == [9]


section
variable {prog : Program} {w : World} {A : Around} {E : Value → Shared → Prop} {s : Shared}
theorem setLastItem {l : Addr} {items : Array Value} {t : Tok} {v : Value} {Q : Unit → Shared → Prop} (hp : s.heap.PlainList l items) (hn : 0 < items.size)
    (hQ : ∀ h', h'.PlainList l (items.setIfInBounds (items.size - 1) v) → Heap.SameBut l s.heap h' → Q () { s with heap := h' }) :
    wpAny (model prog w) A (setItem (.ref l) (.int (-1) t) v) Q E s := by
  have hl := hp.isList
  obtain ⟨n₀, ho⟩ := id hp
  have hd : (listObj items.toList n₀).data = .seq items n₀ := rfl
  unfold setItem
  refine wpAny_holding ?_
  refine wpAny_bind (wpAny_sequenceKey hl.typeIs (by decide) ?_)
  refine wpAny_bind (wpAny_callSpecial?_slot (name := Str.ofString "__setitem__") hl.typeIs slot_list_setitem
    (wpAny_call_entry slot_list_setitem hl.typeIs entry_list_setitem ?_ (args_list_setitem _ _ _)))
  show wpAny _ _ (Builtin.List.listSubscript? (.int (-1) t) >>= _) _ _ s
  refine wpAny_bind (wpAny_listSubscript_int (fitsIndex_neg (by omega) (by omega)) ?_)
  have hidx : seqIndex? (-1) items.size = some (items.size - 1) := by
    rw [seqIndex_neg (by omega) (by omega)]
    congr 1
    omega
  show wpAny _ _ ((Builtin.List.listItems (.ref l) >>= fun xs => pure ((seqIndex? (-1) xs.size).bind fun i => xs[i]?.map (i, ·))) >>= _) _ _ s
  refine wpAny_bind (wpAny_bind ?_)
  show wpAny _ _ (seqItems? (.ref l) >>= _) _ _ s
  refine wpAny_bind (wpAny_seqItems ho hd (wpAny_pure (wpAny_pure ?_)))
  rw [hidx]
  have hx' : items[items.size - 1]? = some items[items.size - 1] := Array.getElem?_eq_getElem (by omega)
  simp only [Option.bind_some, hx', Option.map_some]
  show wpAny _ _ (setSeqItemAt l (items.size - 1) v >>= _) _ _ s
  have hmap : Obj.mapSeq (·.setIfInBounds (items.size - 1) v) { cls := .type "list", data := .seq items n₀ } = { cls := .type "list", data := .seq (items.setIfInBounds (items.size - 1) v) n₀ } := by simp [Obj.mapSeq]
  have hfin : (s.heap.update l (Obj.mapSeq (·.setIfInBounds (items.size - 1) v))).PlainList l (items.setIfInBounds (items.size - 1) v) :=
    ⟨n₀, by rw [Heap.get?_update_self _ ho (by rw [hmap]; rfl), hmap]⟩
  refine wpAny_bind (wpAny_setSeqItemAt ho hd ?_)
  first
    | exact wpAny_bind (wpAny_pure (wpAny_pure ⟨.none, rfl, wpAny_pure (hQ _ hfin (Heap.SameBut.update ..))⟩))
    | exact wpAny_pure ⟨.none, rfl, wpAny_pure (hQ _ hfin (Heap.SameBut.update ..))⟩
end
/-- these are immediate octets -/
def BsAt : List Value → List Oct → Prop
  | [], [] => True
  | v :: vs, b :: bs => (∃ t, v = Value.bytes b t) ∧ BsAt vs bs
  | _, _ => False
theorem BsAt.len : ∀ {vs : List Value} {bs : List Oct}, BsAt vs bs → vs.length = bs.length
  | [], [], _ => rfl
  | v :: vs, b :: bs, h => by rw [List.length_cons, List.length_cons, BsAt.len h.2]
  | [], _ :: _, h => h.elim
  | _ :: _, [], h => h.elim
theorem BsAt.snoc : ∀ {vs : List Value} {bs : List Oct} {b : Oct} {t : Tok}, BsAt vs bs → BsAt (vs ++ [.bytes b t]) (bs ++ [b])
  | [], [], b, t, _ => ⟨⟨t, rfl⟩, trivial⟩
  | v :: vs, c :: bs, b, t, h => ⟨h.1, BsAt.snoc h.2⟩
  | [], _ :: _, _, _, h => h.elim
  | _ :: _, [], _, _, h => h.elim
theorem BsAt.get : ∀ {vs : List Value} {bs : List Oct}, BsAt vs bs → ∀ (i : Nat) (v : Value), vs[i]? = some v → ∃ b t, bs[i]? = some b ∧ v = Value.bytes b t
  | [], [], _, i, v, h => by simp at h
  | u :: vs, b :: bs, x, 0, v, h => by
    obtain ⟨t, e⟩ := x.1
    simp at h
    exact ⟨b, t, rfl, by rw [← h, e]⟩
  | u :: vs, b :: bs, x, i + 1, v, h => by
    simp at h
    obtain ⟨c, t, e1, e2⟩ := BsAt.get x.2 i v h
    exact ⟨c, t, by simpa using e1, e2⟩
  | [], _ :: _, h, _, _, _ => h.elim
  | _ :: _, [], h, _, _, _ => h.elim
theorem BsAt.split : ∀ {us : List Value} {v : Value} {bs : List Oct}, BsAt (us ++ [v]) bs → ∃ cs c t, bs = cs ++ [c] ∧ v = Value.bytes c t ∧ BsAt us cs
  | [], v, [b], h => let ⟨t, e⟩ := h.1; ⟨[], b, t, rfl, e, trivial⟩
  | [], v, b :: c :: bs, h => h.2.elim
  | [], v, [], h => h.elim
  | u :: us, v, b :: bs, h => by
    obtain ⟨cs, c, t, e, e2, h3⟩ := BsAt.split h.2
    exact ⟨b :: cs, c, t, by rw [e]; rfl, e2, h.1, h3⟩
  | u :: us, v, [], h => h.elim

section
variable {w : World} {s : Shared} {h₀ : Heap} {L l J : Addr} {mg mb : Str → Option Value} {mean : ExcName → Option Value} {b : Oct} {E : Value → Shared → Prop} {outer : List Env} {t : Tok} {jV lineV : Option Value}
set_option maxHeartbeats 4000000 in
theorem joinTest {Q : Bool → Shared → Prop} (F : Fr h₀ L s.heap (joinMap l jV (some (.bytes b t)))) (hz : b.size ≤ 1000)
    (h : ∀ h' tk, (∀ b o, s.heap.get? b = some o → h'.get? b = some o) → Q (startsBlank b) { s with heap := h', toks := tk }) :
    wpAny (model prog₀ w) (A₉ outer) (isTrue (ifTestOf jIf) (joinEnv L) (eval (ifTestOf jIf) (joinEnv L))) Q E s := by
  have N := news_full h₀ L s.heap
  unfold startsBlank at h
  show wpAny _ _ (isTrue (Expr.BoolOp _ _ _) (envOf _ { kind := _, names := _, isGenerator := _, isCoroutine := _, more := _ } _ _ _) _) _ _ _
  repeat' (first | walk1 | (dsimp only; walk1))
  refine bCut .none (.int _ _) hz fun t' k' => ?_
  refine Constant_bytes ?_
  refine eq_bytes (wpAny_truthy_bool ?_)
  refine ite_split' (fun h1 => ?_) (fun h1 => ?_)
  · have h1 : ((KBy.picked b none (some 1)).toList == [32]) = true := h1
    have h := h _ (k' + 1) fun b o q => Heap.get?_push_of_some { cls := .type "slice", data := .fields #[.none, .int 1 s.toks, .none] } q
    rw [h1] at h
    exact h
  · have h1 : ((KBy.picked b none (some 1)).toList == [32]) = false := by simpa using h1
    rw [h1, Bool.false_or] at h
    have F₁ := F.push { cls := .type "slice", data := .fields #[.none, .int 1 s.toks, .none] }
    clear F
    repeat' (first | walk1 | (dsimp only; walk1))
    refine bCut .none (.int _ _) hz fun t' k' => ?_
    refine Constant_bytes ?_
    refine eq_bytes (wpAny_truthy_bool ?_)
    have kk : ∀ {o₁ o₂ : Obj} (b : Addr) (o : Obj), s.heap.get? b = some o → ((s.heap.push o₁).push o₂).get? b = some o := fun b o q => Heap.get?_push_of_some _ (Heap.get?_push_of_some _ q)
    cases e : ((KBy.picked b none (some 1)).toList == [9]) with
    | true =>
      rw [e] at h
      exact h _ _ kk
    | false =>
      rw [e] at h
      rw [if_neg Bool.false_ne_true]
      repeat' (first | walk1 | (dsimp only; walk1))
      exact h _ _ kk

set_option maxHeartbeats 4000000 in
theorem joinNil {vs : List Value} {Q : Bool → Shared → Prop} (F : Fr h₀ L s.heap (joinMap l (some (.ref J)) lineV)) (hJ : s.heap.PlainList J vs.toArray)
    (h : ∀ h' tk, (∀ b o, s.heap.get? b = some o → h'.get? b = some o) → Q vs.isEmpty { s with heap := h', toks := tk }) :
    wpAny (model prog₀ w) (A₉ outer) (isTrue jNil (joinEnv L) (eval jNil (joinEnv L))) Q E s := by
  have N := news_full h₀ L s.heap
  show wpAny _ _ (isTrue (Expr.Compare _ _ _ _) (envOf _ { kind := _, names := _, isGenerator := _, isCoroutine := _, more := _ } _ _ _) _) _ _ _
  iterate 4 (first | walk1 | (dsimp only; walk1))
  refine wpAny_newObj_type ?_ (by size_fits)
  have hl' : (s.heap.push { cls := .type "list", dict := none, data := .seq ([] : List Value).toArray }).IsList s.heap.objs.size #[] := ⟨_, Heap.get?_push_size _ rfl, rfl, _, rfl⟩
  refine listEqNil (hJ.isList.at fun o q => Heap.get?_push_of_some _ q) hl' (Nat.le_of_ble_eq_true rfl) (wpAny_truthy_bool ?_)
  have e : vs.toArray.isEmpty = vs.isEmpty := by cases vs <;> rfl
  rw [e]
  exact h _ _ fun b o q => Heap.get?_push_of_some _ q

set_option maxHeartbeats 4000000 in
theorem joinSet {us : List Value} {c : Oct} {tc : Tok} {Q : Flow → Shared → Prop} (F : Fr h₀ L s.heap (joinMap l (some (.ref J)) (some (.bytes b t)))) (hJ : s.heap.PlainList J (us ++ [Value.bytes c tc]).toArray) (hz : b.size ≤ 1000) (hzc : c.size ≤ 5000)
    (h : ∀ h' tk (t' : Tok), h'.PlainList J (us ++ [Value.bytes ((c ++ #[32]) ++ (lstripL b).toArray) t']).toArray → Heap.SameBut J s.heap h' → Q .next { s with heap := h', toks := tk }) :
    wpAny (model prog₀ w) (A₉ outer) (exec jSet (joinEnv L)) Q E s := by
  have N := news_full h₀ L s.heap
  have hsz : (us ++ [Value.bytes c tc]).toArray.size = us.length + 1 := by simp
  show wpAny _ _ (exec (Stmt.Assign [Expr.Subscript _ _ _] _ _) (envOf _ { kind := _, names := _, isGenerator := _, isCoroutine := _, more := _ } _ _ _)) _ _ _
  repeat' (first | walk1 | (dsimp only; walk1))
  refine subscriptTail_builtin hJ.isList.typeIs slot_list_getitem.lookup (wpAny_getItem_list_neg (x := .bytes c tc) hJ.isList (by omega) (by rw [hsz]; omega) (by omega) (by rw [hsz, show (-1 + ((us.length + 1 : Nat) : Int)).toNat = us.length from by omega]; simp) ?_) (by with_unfolding_all rfl) (by intro _; with_unfolding_all rfl)
  refine Constant_bytes ?_
  refine KBy.add_bytes (by simp; omega) fun t₁ k₁ => ?_
  dsimp only
  repeat' (first | walk1 | (dsimp only; walk1))
  refine getMethod_builtin (typeIs_bytes _ _ _) plain_bytes slot_bytes_lstrip type_bytes_lstrip (fun a e => by cases e) ?_
  dsimp only
  repeat' (first | walk1 | (dsimp only; walk1))
  refine bLstrip hz fun t₂ k₂ => ?_
  have hl := lstripL_len b
  refine KBy.add_bytes (by simp; omega) fun t₃ k₃ => ?_
  dsimp only
  repeat' (first | walk1 | (dsimp only; walk1))
  refine setLastItem hJ (by rw [hsz]; omega) fun h' hJ' hs => h h' _ t₃ ?_ hs
  have e : ((us ++ [Value.bytes c tc]).toArray.setIfInBounds ((us ++ [Value.bytes c tc]).toArray.size - 1) (Value.bytes ((c ++ #[32]) ++ (lstripL b).toArray) t₃)) = (us ++ [Value.bytes ((c ++ #[32]) ++ (lstripL b).toArray) t₃]).toArray := by
    rw [hsz]
    simp
  rw [← e]; exact hJ'
set_option maxHeartbeats 4000000 in
theorem joinApp {vs : List Value} {Q : Flow → Shared → Prop} (F : Fr h₀ L s.heap (joinMap l (some (.ref J)) (some (.bytes b t)))) (hJ : s.heap.PlainList J vs.toArray) (hn : vs.length ≤ 1000)
    (h : ∀ h' tk, h'.PlainList J (vs ++ [Value.bytes b t]).toArray → Heap.SameBut J s.heap h' → Q .next { s with heap := h', toks := tk }) :
    wpAny (model prog₀ w) (A₉ outer) (exec jApp (joinEnv L)) Q E s := by
  have N := news_full h₀ L s.heap
  show wpAny _ _ (exec (Stmt.Expr _ _) (envOf _ { kind := _, names := _, isGenerator := _, isCoroutine := _, more := _ } _ _ _)) _ _ _
  repeat' (first | walk1 | (dsimp only; walk1))
  refine getMethod_builtin hJ.isList.typeIs _root_.PySem.F.plainAttrs_list slot_list_append type_list_append (fun a e => by cases e; obtain ⟨n, q⟩ := hJ; exact ⟨_, q, rfl⟩) ?_
  dsimp only
  repeat' (first | walk1 | (dsimp only; walk1))
  refine wpAny_list_append_plain hJ (fun h' hJ' hs => ?_) (by simp [sizeLine_eq]; omega)
  exact h h' _ (by simpa using hJ') hs
end
end Mine

end
section
open PySem PySem.W PySem.W.X PySem.Calls PyProof.Rows PySem.Builtin PySem.SeqAt
set_option maxRecDepth 100000
namespace Mine
theorem warm18 : (∀ P, Mine.hd.heap_39 P = Mine.hd.heap_39 P) ∧ PySem.Challenge.rw_ae6005_01 = PySem.Challenge.rw_ae6005_01 := by
  k_fill
  exact ⟨fun _ => rfl, rfl⟩
/-- a line joined to the one ahead, as the law reckons it -/
def glueJ (c b : Oct) : Oct := (c ++ #[32]) ++ (lstripL b).toArray
def joinGo : List Oct → List Oct → Option (List Oct)
  | acc, [] => some acc
  | acc, b :: bs => if startsBlank b = true then (match acc.getLast? with
      | none => none
      | some c => joinGo (acc.dropLast ++ [glueJ c b]) bs) else joinGo (acc ++ [b]) bs
theorem glueJ_size (c b : Oct) : (glueJ c b).size ≤ c.size + 1 + b.size := by
  have := lstripL_len b
  unfold glueJ
  simp
  omega
abbrev sumOf (rest : List Oct) : Nat := (rest.map fun b => b.size + 1).sum
theorem sum_len : ∀ rest : List Oct, rest.length ≤ sumOf rest
  | [] => Nat.le_refl _
  | b :: bs => by
    have := sum_len bs
    simp only [sumOf, List.map_cons, List.sum_cons, List.length_cons] at this ⊢
    omega

theorem sc120 : Sc joinScope [Str.ofString "lines"] := ⟨rfl, rfl, by decide +kernel, by decide +kernel⟩
theorem pk120 (w : World) (l : Value) : PK w (bindArgs (fdAt w.params 120) ⟨[l], []⟩) [(Str.ofString "lines", l)] := by kernel_rfl
theorem jmap_start (l : Addr) : (fun x => ([(Str.ofString "lines", Value.ref l)] : List (Str × Value)).reverse.lookup x) = joinMap l none none := by
  rw [binds_lines]
  funext y; unfold foldMap₀ joinMap
  by_cases h : y = Str.ofString "line"
  · subst h; rfl
  by_cases h' : y = Str.ofString "joined"
  · subst h'; rfl
  rw [if_neg h, if_neg h']
theorem joinBody_eq : joinBody = [joinBody.getD 0 (.Pass default), jFor, joinBody.getD 2 (.Pass default)] := rfl
theorem jTurn_eq : jTurn = [jIf] := rfl

/-- the loop of _law_join, between two turns -/
structure JoinSt (h₀ : Heap) (L l J it : Addr) (vals : List Value) (res : Option (List Oct)) (h : Heap) (rest : List Oct) : Prop where
  fr : ∃ lineV, Fr h₀ L h (joinMap l (some (.ref J)) lineV)
  iter : ∃ i, h.IsListIter it l i ∧ BsAt (vals.drop i) rest
  acc : ∃ vs acc, h.PlainList J vs.toArray ∧ BsAt vs acc ∧ joinGo acc rest = res ∧ acc.length + rest.length ≤ 900 ∧ ∀ c ∈ acc, c.size + sumOf rest ≤ 900
  sum : sumOf rest ≤ 900

section
variable {w : World} {s : Shared} {h₀ : Heap} {L l J it : Addr} {mg mb : Str → Option Value} {mean : ExcName → Option Value} {A : Around} {b : Oct} {E : Value → Shared → Prop} {outer : List Env} {t : Tok} {vals : List Value} {res : Option (List Oct)}

set_option maxHeartbeats 1000000 in
theorem joinLoop {Q : Flow → Shared → Prop} (r : Rm A outer) (X : (Mine.hd.heap_39 w.params).In h₀) (hl : h₀.IsList l vals.toArray)
    (hJL : J ≠ L) (hiL : it ≠ L) (hiJ : it ≠ J) (hJ0 : h₀.get? J = none) (hi0 : h₀.get? it = none)
    (hno : res = none → ∀ h' tk, (∃ m, Fr h₀ L h' m) → Q (.ret .none) { s with heap := h', toks := tk })
    (hyes : ∀ acc, res = some acc → ∀ h' tk vs lineV, Fr h₀ L h' (joinMap l (some (.ref J)) lineV) → h'.PlainList J vs.toArray → BsAt vs acc → Q .next { s with heap := h', toks := tk })
    {rest : List Oct} (x : JoinSt h₀ L l J it vals res s.heap rest) :
    codeG (mdl prog₀ w) A (.forLoop (forTarget jFor) (.ref it) jTurn [] (joinEnv L)) (fun r s' => match r with | .ok f => Q f s' | .error e => cameBackBy (mdl prog₀ w) A (joinEnv L) E e s') s := by
  refine forLoopG (fun n s' => ∃ h' tk rest, s' = { s with heap := h', toks := tk } ∧ n = rest.length ∧ JoinSt h₀ L l J it vals res h' rest) ?_ rest.length ⟨s.heap, s.toks, rest, rfl, rfl, x⟩
  rintro n s' ⟨h', tk, rest, rfl, rfl, x⟩
  obtain ⟨lineV, F⟩ := x.fr
  obtain ⟨i, hit, hB⟩ := x.iter
  obtain ⟨vs, acc, hJ, hA, hres, hlen, hsz⟩ := x.acc
  have hl' : h'.IsList l vals.toArray := hl.at fun o q => F.keep _ _ q
  have lJ : l ≠ J := fun e => by obtain ⟨o, q, _⟩ := hl; rw [e, hJ0] at q; cases q
  have lit : l ≠ it := fun e => by obtain ⟨o, q, _⟩ := hl; rw [e, hi0] at q; cases q
  cases rest with
  | nil =>
    have hx : vals.toArray[i]? = none := by
      have := hB.len
      simp only [List.length_drop, List.length_nil] at this
      simp only [List.getElem?_toArray]
      exact List.getElem?_eq_none (by omega)
    refine toG (lift (wpAny_pyNext_list_end r.hd hit hl' hx fun h₁ hb => ?_))
    refine gExecsNil ?_
    refine hyes acc ?_ h₁ tk vs lineV ⟨F.ns.at' fun o q => hb _ _ (Ne.symm hiL) q, fun b o q => hb b o (fun e => by rw [e, hi0] at q; cases q) (F.keep b o q), F.above⟩ (hJ.at fun o q => hb _ _ (Ne.symm hiJ) q) hA
    rw [← hres]; rfl
  | cons b bs =>
    obtain ⟨v, todo, hv⟩ : ∃ v todo, vals.drop i = v :: todo := by
      cases e : vals.drop i with
      | nil => rw [e] at hB; exact hB.elim
      | cons v todo => exact ⟨v, todo, rfl⟩
    rw [hv] at hB
    obtain ⟨⟨tv, rfl⟩, hB⟩ := hB
    have hx : vals.toArray[i]? = some (.bytes b tv) := by
      simp only [List.getElem?_toArray]
      have h2 := congrArg (fun l => l[0]?) hv
      simpa using h2
    have hd : vals.drop (i + 1) = todo := by rw [← List.tail_drop, hv]; rfl
    have hzb : b.size ≤ 1000 := by
      have := x.sum
      simp only [sumOf, List.map_cons, List.sum_cons] at this
      omega
    have hs2 : sumOf bs ≤ 900 ∧ b.size + sumOf bs ≤ 899 := by
      have := x.sum
      simp only [sumOf, List.map_cons, List.sum_cons] at this ⊢
      omega
    refine toG (lift (wpAny_pyNext_list_item hit hl' hx fun h₁ hi₁ hs₁ => ?_))
    have F₁ : Fr h₀ L h₁ (joinMap l (some (.ref J)) lineV) := frSet F hs₁ hiL hi0
    have hJ₁ : h₁.PlainList J vs.toArray := hJ.at fun o q => (hs₁.2 J (Ne.symm hiJ)).trans q
    show wpAny _ _ (assign (.Name _ _) _ _) _ _ _
    refine wpAny_assign_Name (stN F₁ (news_full h₀ L h₁) fun h₂ F₂ N₂ => ?_)
    rw [jmap_line] at F₂
    have k₂ := keep_full (X := fun _ => False) F₂ F₁.keep N₂ fun p hp _ => hp
    have hJ₂ : h₂.PlainList J vs.toArray := hJ₁.at fun o q => k₂ J o hJL _root_.id q
    have hi₂ : h₂.IsListIter it l (i + 1) := hi₁.at fun o q => k₂ it o hiL _root_.id q
    rw [jTurn_eq]
    refine gExecs ?_
    show wpG _ _ (exec (Stmt.If (ifTestOf jIf) (ifThen jIf) (ifElse jIf) _) _) _ _ _
    refine gIf (toG (lift (r.any (joinTest (s := { s with heap := h₂, toks := tk + 1 }) F₂ hzb fun h₃ tk₃ k₃ => ?_))))
    have F₃ := frExt F₂ k₃
    have hJ₃ : h₃.PlainList J vs.toArray := hJ₂.at fun o q => k₃ J o q
    have hi₃ : h₃.IsListIter it l (i + 1) := hi₂.at fun o q => k₃ it o q
    cases hsb : startsBlank b with
    | true =>
      show wpG _ _ (execs [_, jSet] _) _ _ _
      refine gExecs ?_
      show wpG _ _ (exec (Stmt.If jNil [Stmt.Return (some (Expr.Constant Const.none _ _)) _] [] _) _) _ _ _
      refine gIf (toG (lift (r.any (joinNil (s := { s with heap := h₃, toks := tk₃ }) F₃ hJ₃ fun h₄ tk₄ k₄ => ?_))))
      have F₄ := frExt F₃ k₄
      have hJ₄ : h₄.PlainList J vs.toArray := hJ₃.at fun o q => k₄ J o q
      have hi₄ : h₄.IsListIter it l (i + 1) := hi₃.at fun o q => k₄ it o q
      rcases List.eq_nil_or_concat vs with rfl | ⟨us, u, rfl⟩
      · have hacc : acc = [] := by
          cases acc with
          | nil => rfl
          | cons c cs => exact hA.elim
        subst hacc
        show wpG _ _ (execs [_] _) _ _ _
        refine gExecs (gReturn (toG (Constant_none ?_)))
        refine hno ?_ _ _ ⟨_, F₄⟩
        rw [← hres]
        simp only [joinGo, hsb, if_true, List.getLast?_nil]
      · rw [List.concat_eq_append] at hJ₄ hA
        have e : (us.concat u).isEmpty = false := by simp
        rw [e]
        obtain ⟨cs, c, tc, rfl, rfl, hU⟩ := BsAt.split hA
        show wpG _ _ (execs [] _) _ _ _
        refine gExecsNil ?_
        have hzc := hsz c (by simp)
        refine gStep (lift (r.any (joinSet (s := { s with heap := h₄, toks := tk₄ }) F₄ hJ₄ hzb (by omega) fun h₅ tk₅ t₅ hJ₅ hs₅ => ?_)))
        refine gExecsNil ?_
        show wpG _ _ (execs [] _) _ _ _
        refine gExecsNil ?_
        refine ⟨bs.length, by simp, h₅, tk₅, bs, rfl, rfl, ?_⟩
        have F₅ := frSet F₄ hs₅ hJL hJ0
        refine ⟨⟨_, F₅⟩, ⟨i + 1, hi₄.at fun o q => (hs₅.2 it hiJ).trans q, by rw [hd]; exact hB⟩, ⟨_, cs ++ [glueJ c b], hJ₅, hU.snoc, ?_, ?_, ?_⟩, hs2.1⟩
        · rw [← hres]
          simp only [joinGo, hsb, if_true, List.getLast?_append, List.getLast?_singleton, List.dropLast_concat]
          simp
        · simp only [List.length_append, List.length_cons, List.length_nil] at hlen ⊢
          omega
        · intro d hd
          rcases List.mem_append.mp hd with hd | hd
          · have := hsz d (List.mem_append_left _ hd)
            simp only [sumOf, List.map_cons, List.sum_cons] at this ⊢
            omega
          · rw [List.mem_singleton.mp hd]
            have := glueJ_size c b
            simp only [sumOf, List.map_cons, List.sum_cons] at hzc ⊢
            omega
    | false =>
      show wpG _ _ (execs [jApp] _) _ _ _
      have hvl := hA.len
      refine gStep (lift (r.any (joinApp (s := { s with heap := h₃, toks := tk₃ }) F₃ hJ₃ (by omega) fun h₅ tk₅ hJ₅ hs₅ => ?_)))
      refine gExecsNil ?_
      show wpG _ _ (execs [] _) _ _ _
      refine gExecsNil ?_
      refine ⟨bs.length, by simp, h₅, tk₅, bs, rfl, rfl, ?_⟩
      have F₅ := frSet F₃ hs₅ hJL hJ0
      refine ⟨⟨_, F₅⟩, ⟨i + 1, hi₃.at fun o q => (hs₅.2 it hiJ).trans q, by rw [hd]; exact hB⟩, ⟨_, acc ++ [b], hJ₅, hA.snoc, ?_, ?_, ?_⟩, hs2.1⟩
      · rw [← hres]
        simp only [joinGo, hsb, if_neg Bool.false_ne_true]
      · simp only [List.length_append, List.length_cons, List.length_nil] at hlen ⊢
        omega
      · intro d hd
        rcases List.mem_append.mp hd with hd | hd
        · have := hsz d hd
          simp only [sumOf, List.map_cons, List.sum_cons] at this ⊢
          omega
        · rw [List.mem_singleton.mp hd]
          omega

set_option maxHeartbeats 4000000 in
/-- the call of _law_join -/
theorem joinCall {items : List Oct} {Q : Value → Shared → Prop} (r : Rk 2 A outer) (X : (Mine.hd.heap_39 w.params).In s.heap) (T : Top view₀ (looseW view₀ loose₀) mean mg mb s.heap) (nl : s.heap.NoLimit)
    (hl : s.heap.IsList l vals.toArray) (hB : BsAt vals items) (hz : sumOf items ≤ 900)
    (hno : joinGo [] items = none → ∀ h' tk, (∀ b o, s.heap.get? b = some o → h'.get? b = some o) → Q .none { s with heap := h', toks := tk })
    (hyes : ∀ acc, joinGo [] items = some acc → ∀ h' tk J vs, (∀ b o, s.heap.get? b = some o → h'.get? b = some o) → s.heap.get? J = none → h'.PlainList J vs.toArray → BsAt vs acc → Q (.ref J) { s with heap := h', toks := tk }) :
    wpG (mdl prog₀ w) A (call (.ref 120) [.ref l]) Q E s := by
  refine Fn.callG (binds := [(Str.ofString "lines", .ref l)]) (fn120 w.params) (r.le (by decide)) X nl sc120 rfl (pk120 w _) fun h' tk F => ?_
  rw [jmap_start] at F
  have rd : Rm (A.deeper (joinEnv s.heap.objs.size)) (joinEnv s.heap.objs.size :: outer) := (r.deeper _).rm
  have N := news_full s.heap s.heap.objs.size h'
  have fresh : ∀ h₁ : Heap, (∃ m, Fr s.heap s.heap.objs.size h₁ m) → s.heap.get? h₁.objs.size = none ∧ h₁.objs.size ≠ s.heap.objs.size := fun h₁ ⟨m, F⟩ => by
    obtain ⟨o, hL⟩ := frNs F
    have := Heap.lt_size hL
    exact ⟨Heap.get?_none_of_le (Nat.le_of_lt this), Nat.ne_of_gt this⟩
  rw [show execs joinBody (envOf (Str.ofString "_law_join") joinScope s.heap.objs.size 120 (.ref 119)) = execs [joinBody.getD 0 (.Pass default), jFor, joinBody.getD 2 (.Pass default)] (joinEnv s.heap.objs.size) from rfl]
  refine gStep ?_
  show wpAny _ _ (exec (Stmt.Assign [Expr.Name _ _] (Expr.List [] _) _) (envOf _ { kind := _, names := _, isGenerator := _, isCoroutine := _, more := _ } _ _ _)) _ _ _
  iterate 3 (first | walk1 | (dsimp only; walk1))
  refine wpAny_newObj_type ?_ (by size_fits)
  have F₀ := F.push { cls := .type "list", dict := none, data := .seq ([] : List Value).toArray }
  have hJp : (h'.push { cls := .type "list", dict := none, data := .seq ([] : List Value).toArray }).PlainList h'.objs.size ([] : List Value).toArray := ⟨_, Heap.get?_push_size _ rfl⟩
  obtain ⟨hJ0, hJL⟩ := fresh h' ⟨_, F⟩
  generalize h'.push { cls := .type "list", dict := none, data := .seq ([] : List Value).toArray } = hp at F₀ hJp ⊢
  generalize h'.objs.size = J at hJp hJ0 hJL ⊢
  refine stN F₀ (news_full _ _ hp) fun h₁ F₁ N₁ => ?_
  rw [jmap_j] at F₁
  have k₁ := keep_full (X := fun _ => False) F₁ F₀.keep N₁ fun p hp _ => hp
  have hJ₁ : h₁.PlainList J ([] : List Value).toArray := hJp.at fun o q => k₁ J o hJL _root_.id q
  show wpG _ _ (execs [jFor, _] (joinEnv s.heap.objs.size)) _ _ _
  refine gExecs ?_
  show wpG _ _ (exec (Stmt.For (forTarget jFor) (Expr.Name _ _) jTurn [] _) (joinEnv s.heap.objs.size)) _ _ _
  refine gFor (ld F₁ (by rfl) (lift (wpAny_pyIter_list (hl.at fun o q => F₁.keep _ _ q) ?_)))
  dsimp only
  obtain ⟨hi0, hiL⟩ := fresh h₁ ⟨_, F₁⟩
  have hiJ : h₁.objs.size ≠ J := fun e => by
    obtain ⟨n, q⟩ := hJ₁
    rw [← e] at q
    exact absurd (Heap.lt_size q) (Nat.lt_irrefl _)
  have hit : (h₁.push { cls := .type "list_iterator", data := .fields #[.ref l, .int 0 0] }).IsListIter h₁.objs.size l 0 := ⟨_, Heap.get?_push_size _ rfl, rfl, rfl⟩
  have F₂ := F₁.push { cls := .type "list_iterator", data := .fields #[.ref l, .int 0 0] }
  have hJ₂ : (h₁.push { cls := .type "list_iterator", data := .fields #[.ref l, .int 0 0] }).PlainList J ([] : List Value).toArray := hJ₁.at fun o q => Heap.get?_push_of_some _ q
  have sl := sum_len items
  refine joinLoop (res := joinGo [] items) rd X hl hJL hiL hiJ hJ0 hi0 (fun e h₃ tk₃ ⟨m, F₃⟩ => ?_) (fun acc e h₃ tk₃ vs lineV F₃ hJ₃ hA => ?_) (rest := items) ⟨⟨_, F₂⟩, ⟨0, hit, hB⟩, ⟨[], [], hJ₂, trivial, rfl, by simp; omega, fun c hc => nomatch hc⟩, hz⟩
  · exact hno e h₃ tk₃ F₃.keep
  · show wpG _ _ (execs [Stmt.Return (some (Expr.Name _ _)) _] _) _ _ _
    refine gExecs (gReturn (toG (ld F₃ (by rfl) ?_)))
    exact hyes acc e h₃ tk₃ J vs F₃.keep hJ0 hJ₃ hA
end
end Mine

end
section
open PySem PySem.W PySem.W.X PySem.Calls PyProof.Rows PySem.Builtin PySem.Builtin.ObjectAttr
set_option maxRecDepth 100000
namespace Mine
theorem warm19 : (∀ P, Mine.hd.heap_39 P = Mine.hd.heap_39 P) ∧ PySem.Challenge.rw_ae6005_01 = PySem.Challenge.rw_ae6005_01 := by
  k_fill
  exact ⟨fun _ => rfl, rfl⟩
theorem pk_ga (w : World) : PK w (typeLookup (.ref 78) (Str.ofString "__getattribute__")) (some (.builtin "BaseException.__getattribute__")) := by kernel_rfl
theorem pk_gattr (w : World) : PK w (typeLookup (.ref 78) (Str.ofString "__getattr__")) none := by kernel_rfl
theorem pk_isTup (w : World) : PK w (isInstance (.ref 78) (.type "tuple")) false := by kernel_rfl
theorem pk_isExc (w : World) : PK w (isExcClass (.ref 78)) true := by kernel_rfl

section
variable {w : World} {A : Around} {E : Value → Shared → Prop} {s : Shared} {e d : Addr} {vs : Array Value}
theorem excT (he : s.heap.get? e = some (excObj d vs)) {Q : Value → Shared → Prop} (h : Q (.ref 78) s) : wpAny (model prog₀ w) A (typeOf (.ref e)) Q E s := typeRef he h
theorem look {α : Type} {t : Sem α} {r : α} {Q : α → Shared → Prop} (X : (Mine.hd.heap_39 w.params).In s.heap) (pk : PK w t r) (h : Q r s) : wpAny (model prog₀ w) A t Q E s := (pkLooks X pk) _ _ _ _ (fun _ _ x => x) h

/-- the clause's class takes it -/
theorem excMatch {Q : Bool → Shared → Prop} (X : (Mine.hd.heap_39 w.params).In s.heap) (he : s.heap.get? e = some (excObj d vs)) (h : Q true s) : wpAny (model prog₀ w) A (excMatches (.ref e) (.ref 78)) Q E s := by
  unfold excMatches
  refine wpAny_bind (look X (pk_isTup w) ?_)
  rw [if_neg Bool.false_ne_true]
  refine wpAny_bind (wpAny_pure ?_)
  simp only [List.forIn_cons, List.forIn_nil]
  refine wpAny_bind (wpAny_bind (wpAny_bind (look X (pk_isExc w) ?_)))
  rw [if_neg (by decide)]
  refine wpAny_pure (wpAny_pure ?_)
  refine wpAny_bind (excT he ?_)
  refine wpAny_bind (wpAny_bind (wpAny_bind (look X (pk_sub78 w) ?_)))
  rw [if_pos rfl]
  refine wpAny_pure (wpAny_pure ?_)
  exact wpAny_pure h

theorem getHint {m : Str → Option Value} {Q : Value → Shared → Prop} (X : (Mine.hd.heap_39 w.params).In s.heap) (he : s.heap.get? e = some (excObj d vs)) (hd : s.heap.Ns d m) (hm : m (Str.ofString "error_status_hint") = some (.int 400 303))
    (h : ∀ tk, Q (.int 400 303) { s with toks := tk }) : wpAny (model prog₀ w) A (getAttr (.ref e) (Str.ofString "error_status_hint") true) Q E s := by
  unfold getAttr getAttrBy
  refine wpAny_bind (wpAny_mkText (wpAny_holding ?_))
  generalize hs₁ : ({ s with toks := s.toks + 1 } : Shared) = s₁
  have hh : s₁.heap = s.heap := by rw [← hs₁]
  have he₁ : s₁.heap.get? e = some (excObj d vs) := by rw [hh]; exact he
  have X₁ : (Mine.hd.heap_39 w.params).In s₁.heap := by rw [hh]; exact X
  refine wpAny_bind (excT he₁ (wpAny_bind (look X₁ (pk_ga w) ?_)))
  show wpAny _ _ (if (onTheHeap (.ref 78) && (Value.builtin "BaseException.__getattribute__" == Value.builtin "object.__getattribute__")) = true then _ else _) _ _ _
  have hne : (Value.builtin "BaseException.__getattribute__" == Value.builtin "object.__getattribute__") = false := by decide +kernel
  rw [hne, Bool.and_false, if_neg Bool.false_ne_true]
  unfold getAttrByItsOwn hookBefore
  show wpAny _ _ (typeLookup (.ref 78) (Str.ofString "__getattr__") >>= fun _ => _) _ _ _
  refine wpAny_bind (look X₁ (pk_gattr w) ?_)
  refine wpAny_bind (wpAny_attempt (wpAny_holding ?_))
  unfold callGetattribute boundAndCalled
  show wpAny _ _ (bindSpecial (.builtin "BaseException.__getattribute__") (.ref e) >>= _) _ _ _
  refine wpAny_bind (wpAny_of_eq (PySem.F.attr_Exception.ga.bind _) ?_)
  refine wpAny_call ?_
  refine codeAny_call_builtin PySem.F.attr_Exception.ga.plain PySem.F.entry_bexc_ga ?_
  have chk : ∀ {Q' : Unit → Shared → Prop} {E' : Value → Shared → Prop}, Q' () s₁ → wpAny (model prog₀ w) A.in1 (checkBuiltinCall "BaseException.__getattribute__" ⟨[.ref e, .str (Str.ofString "error_status_hint") s.toks], []⟩) Q' E' s₁ := by
    intro Q' E' hq
    have hk : builtinKind "BaseException.__getattribute__" = some .slot := by decide +kernel
    have hsplit : splitId "BaseException.__getattribute__" = some ("BaseException", "__getattribute__") := by decide +kernel
    have ha := PySem.F.args_bexc_ga (.ref e) (.str (Str.ofString "error_status_hint") s.toks)
    simp only [checkBuiltinCall, hk, hsplit]
    unfold isInstance
    refine wpAny_bind (wpAny_bind (excT he₁ (look X₁ (pk_base w) ?_)))
    repeat (first | assumption | wp_step)
  refine chk ?_
  unfold Builtin.«object.__getattribute__»
  show wpAny _ _ (typeOf (.ref e) >>= _) _ _ _
  refine wpAny_bind (excT he₁ ?_)
  unfold find
  refine wpAny_bind (wpAny_bind (look X₁ (pk_hint w) ?_))
  unfold getOf dataDescriptor? ownThenClass inOwnDict ObjectAttr.ownDict
  refine wpAny_bind (wpAny_pure (wpAny_bind (wpAny_pure ?_)))
  show wpAny _ _ (((loadHead e >>= _) >>= _) >>= _) _ _ _
  refine wpAny_bind (wpAny_bind ?_)
  refine wpAny_bind ?_
  unfold loadHead
  refine wpAny_loadPart he₁ ?_
  show wpAny _ _ (instanceDict e false) _ _ _
  unfold instanceDict
  refine wpAny_bind (wpAny_loadPart he₁ ?_)
  show wpAny _ _ (classData 78 >>= _) _ _ _
  unfold classData
  refine wpAny_bind (wpAny_bind (wpAny_load (X₁ _ _ (k78 _)) ?_))
  rw [cd78_data]
  refine wpAny_pure ?_
  dsimp only
  rw [cd78_has]
  refine wpAny_pure ?_
  show wpAny _ _ (nsGet d _) _ _ _
  refine wpAny_nsGet (by rw [hh]; exact hd) ?_
  rw [hm]
  refine wpAny_bind (wpAny_rule (wpAny_pure ?_))
  refine wpAny_pure ?_
  show wpAny _ _ (pure (Value.int 400 303)) _ _ _
  refine wpAny_pure ?_
  subst hs₁
  exact h _
end
end Mine

end
section
open PySem PySem.W PySem.W.X PySem.Calls PyProof.Rows PySem.Builtin
set_option maxRecDepth 100000
namespace Mine
theorem Ns.same {h : Heap} {a : Addr} {m m' : Str → Option Value} (x : h.Ns a m) (y : h.Ns a m') : m = m' := by
  obtain ⟨o, es, ep, ho, hd, hk, hm⟩ := x
  obtain ⟨o', es', ep', ho', hd', hk', hm'⟩ := y
  rw [ho] at ho'; cases ho'
  rw [hd] at hd'; cases hd'
  funext n
  rw [← hm n, ← hm' n]
theorem Ns.slots {h h' : Heap} {a : Addr} {m : Str → Option Value} (x : h.Ns a m) (k : ∀ o, h.get? a = some o → ∃ sl, h'.get? a = some { o with slots := sl }) : h'.Ns a m := by
  obtain ⟨o, es, ep, ho, hd, hk⟩ := x
  obtain ⟨sl, q⟩ := k o ho
  exact ⟨_, es, ep, q, hd, hk⟩

/-- the suite that gives the hint back -/
def hintSuite (n : Str) (np ap rp : Pos) : List Stmt := [.Return (some (.Attribute (.Name n np) (Str.ofString "error_status_hint") ap)) rp]

section
variable {w : World} {A : Around} {E : Value → Shared → Prop} {s : Shared} {P S : List Addr} {hr h₀ : Heap} {e d L : Addr} {fl : Option Value} {outer : List Env} {Q : Flow → Shared → Prop} {m₀ : Str → Option Value}
  {name : Str} {scope : Scope} {a : Addr} {cd : Value}

set_option maxHeartbeats 1000000 in
theorem catchHint {cp np ap rp pos : Pos} (hk : scope.kind = .function) (hl : (envOf name scope L a cd).kindOf (Str.ofString "error") = some .local) (pk : PK w (loadName (envOf name scope L a cd) (Str.ofString "LocalProtocolError")) (.ref 78))
    (hfr : A.frames = some (envOf name scope L a cd :: outer)) (ff : hr.FunFrames h₀ (envOf name scope L a cd :: outer)) (hPf : ∀ b ∈ framesOf (envOf name scope L a cd :: outer), b ∉ P) (hS : ∀ x ∈ framesOf (envOf name scope L a cd :: outer), x ∈ S)
    (x : Flying P S hr e d fl s.heap) (hfl : fl = none ∨ fl = some .none ∨ fl = some (rawInt L)) (hX : ∀ h' : Heap, (∀ b o, b ∉ P → b ∉ S → hr.get? b = some o → h'.get? b = some o) → (Mine.hd.heap_39 w.params).In h')
    (ns : hr.Ns L m₀) (hm₀ : m₀ (Str.ofString "error_status_hint") = none)
    (h : ∀ h' tk, (∀ b o, b ∉ P → b ∉ S → hr.get? b = some o → h'.get? b = some o) → (∀ b o, b ∉ P → b ≠ L → hr.get? b = some o → ∃ sl, h'.get? b = some { o with slots := sl }) → Q (.ret (.int 400 303)) { s with heap := h', toks := tk }) :
    wpAny (mdl prog₀ w) A (noteFrame (.ref e) (envOf name scope L a cd)) (fun _ s₂ => wpAny (mdl prog₀ w) A (setFlight (.ref e) none) (fun _ s₃ =>
      wpAny (mdl prog₀ w) A (handleBy (.ref e) (envOf name scope L a cd) [.ExceptHandler (some (.Name (Str.ofString "LocalProtocolError") cp)) (some (Str.ofString "error")) (hintSuite (Str.ofString "error") np ap rp) pos]) Q E s₃) E s₂) E s := by
  have LS : L ∈ S := hS L (by simp [framesOf, envOf])
  have LP : L ∉ P := hPf L (by simp [framesOf, envOf])
  suffices main : ∀ h₁, Flying P S hr e d (some (rawInt L)) h₁ → wpAny (mdl prog₀ w) A (setFlight (.ref e) none) (fun _ s₃ =>
      wpAny (mdl prog₀ w) A (handleBy (.ref e) (envOf name scope L a cd) [.ExceptHandler (some (.Name (Str.ofString "LocalProtocolError") cp)) (some (Str.ofString "error")) (hintSuite (Str.ofString "error") np ap rp) pos]) Q E s₃) E { s with heap := h₁ } by
    rcases hfl with rfl | rfl | rfl
    · exact noteFrameFP (outer := outer) hfr (x.frames ff hPf) rfl hS x (.inl rfl) main
    · exact noteFrameFP (outer := outer) hfr (x.frames ff hPf) rfl hS x (.inr rfl) main
    · exact noteFrameHere rfl x (main _ x)
  intro h₁ x₁
  refine setFlightF x₁ fun h₂ x₂ => ?_
  refine lift ?_
  obtain ⟨vs, he, hz, _⟩ := id x₂.exc
  have hX₂ := hX h₂ x₂.keep
  refine wpAny_handleBy_cons (codeAny_handlers_test (wpAny_Name ((pkLooks hX₂ pk) _ _ _ _ (fun _ _ x => x) ?_) (by decide))) (by intro q; cases q)
  refine excMatch hX₂ he ?_
  refine codeAny_handlers_suite_as ?_
  refine setFlightF x₂ fun h₃ x₃ => ?_
  have ns₃ : h₃.Ns L m₀ := Mine.Ns.slots ns fun o q => x₃.slots L o LP q
  have hp : ((envOf name scope L a cd).scope.kind == .class || ((envOf name scope L a cd).scope.kind == .module && (envOf name scope L a cd).locals != (envOf name scope L a cd).globals)) = false := by
    show (scope.kind == .class || (scope.kind == .module && L != mainGlobals)) = false
    rw [hk]; rfl
  refine wpAny_storeName_local hl ns₃ (fun h₄ ns₄ hs₄ => ?_) hp
  obtain ⟨vs₃, he₃, hz₃, _⟩ := x₃.exc
  obtain ⟨m, hd, hm⟩ := x₃.hint
  have dL : d ≠ L := by
    rintro rfl
    rw [Ns.same hd ns₃, hm₀] at hm
    cases hm
  have eL : e ≠ L := by
    rintro rfl
    obtain ⟨o, es, ep, ho, hdd, _⟩ := ns₃
    rw [he₃] at ho; cases ho; cases hdd
  have he₄ : h₄.get? e = some (excObj d vs₃) := (hs₄.2 e eL).trans he₃
  have keep₄ : ∀ b o, b ∉ P → b ∉ S → hr.get? b = some o → h₄.get? b = some o := fun b o hP hS' q => (hs₄.2 b fun e => hS' (e ▸ LS)).trans (x₃.keep b o hP hS' q)
  have slots₄ : ∀ b o, b ∉ P → b ≠ L → hr.get? b = some o → ∃ sl, h₄.get? b = some { o with slots := sl } := fun b o hP hL q => by
    obtain ⟨sl, q'⟩ := x₃.slots b o hP q
    exact ⟨sl, (hs₄.2 b hL).trans q'⟩
  have hd₄ : h₄.Ns d m := hd.at' fun o q => (hs₄.2 d dL).trans q
  show wpAny _ _ (exec (.Return (some (.Attribute (.Name (Str.ofString "error") np) (Str.ofString "error_status_hint") ap)) rp) (envOf name scope L a cd) >>= fun f => match f with | .next => execs [] (envOf name scope L a cd) | f => pure f) _ _ _
  refine wpAny_bind ?_
  refine wpAny_Return_some (Attribute_name (wpAny_Name (wpAny_loadName_local (v := .ref e) hk hl ns₄ (if_pos rfl) ?_) (by decide)))
  refine getHint (hX h₄ keep₄) he₄ hd₄ hm fun tk => ?_
  refine wpAny_pure ?_
  refine wpAny_nameGoes hl ns₄ hp fun h₅ m₅ ns₅ hs₅ => ?_
  refine h h₅ _ (fun b o hP hS' q => (hs₅.2 b fun e => hS' (e ▸ LS)).trans (keep₄ b o hP hS' q)) fun b o hP hL q => ?_
  obtain ⟨sl, q'⟩ := slots₄ b o hP hL q
  exact ⟨sl, (hs₅.2 b hL).trans q'⟩
end
end Mine

end
section
open PySem PySem.W PySem.W.X PySem.Calls PyProof.Rows PySem.Builtin
set_option maxRecDepth 100000
namespace Mine

/-- what stood stands, but P -/
structure Past (P : List Addr) (s s' : Shared) : Prop where
  keep : ∀ b o, b ∉ P → s.heap.get? b = some o → s'.heap.get? b = some o
  bare : AllBare s.gens → AllBare s'.gens
  os : s'.os = s.os

/-- a consumer of a ready generator, between two tellings -/
structure Con {β : Type} (M : Model) (A' : Around) (h₀ : Heap) (outer : List Env) (Out : List Addr → Heap → Value → β → Prop) (bad : Bool) (ga : Addr) (g : Nat) (Own : List Addr) (gs : GenState) (P : List Addr) (G : List Nat) (s : Shared) (outs : List β) : Prop where
  gen : s.heap.IsGen ga g
  gst : s.gens[g]? = some gs
  rd : Ready M A' h₀ h₀ outer Out bad outs gs P G s
  gan : ga ∉ P
  gn : g ∉ G
  P0 : ∀ b ∈ P, h₀.get? b = none
  old : ∀ b o, h₀.get? b = some o → s.heap.get? b = some o
  ff : s.heap.FunFrames h₀ outer
  own : ∀ x ∈ Own, x ∉ ga :: P
  there : ∀ x ∈ Own, ∃ o, s.heap.get? x = some o
  fO : ∀ x ∈ framesOf outer, x ∈ Own

section
variable {β : Type} {w : World} {A A' : Around} {h₀ : Heap} {outer : List Env} {Out : List Addr → Heap → Value → β → Prop} {bad : Bool} {ga : Addr} {g : Nat} {Own P : List Addr} {G : List Nat} {gs : GenState} {s s' : Shared} {outs : List β}
  {Q : Option Value → Shared → Prop} {E : Value → Shared → Prop}

theorem Con.atW {M : Model} (c : Con M A' h₀ outer Out bad ga g Own gs P G s outs) : AtW h₀ h₀ outer P G s s :=
  ⟨fun _ _ _ q => q, fun _ _ => rfl, c.old, c.ff, fun x hx hP => c.own x (c.fO x hx) (.tail _ hP), fun x hx => (c.ff.mem hx).1⟩

/-- the consumer's own steps -/
theorem Con.carry {M : Model} {h' : Heap} {tk : Nat} (c : Con M A' h₀ outer Out bad ga g Own gs P G s outs) (k : ∀ b o, b ∈ ga :: P → s.heap.get? b = some o → h'.get? b = some o) (old : ∀ b o, h₀.get? b = some o → h'.get? b = some o)
    (ff : h'.FunFrames h₀ outer) (there : ∀ x ∈ Own, ∃ o, h'.get? x = some o) : Con M A' h₀ outer Out bad ga g Own gs P G { s with heap := h', toks := tk } outs :=
  ⟨isGen_of c.gen fun o q => k _ _ (.head _) q, c.gst, c.rd.at (fun b o hb q => k b o (.tail _ hb) q) fun _ _ => rfl, c.gan, c.gn, c.P0, old, ff, c.own, there, c.fO⟩

theorem Con.next {k : Nat} (r : Rk k A outer) (X : (Mine.hd.heap_39 w.params).In h₀) (nl : h₀.NoLimit) (c : Con (mdl prog₀ w) A.in1 h₀ outer Out bad ga g Own gs P G s outs)
    (hsome : ∀ b outs', outs = b :: outs' → ∀ v s' gs' P' G', Out P' s'.heap v b → Con (mdl prog₀ w) A.in1 h₀ outer Out bad ga g Own gs' P' G' s' outs' → Past P s s' → (∀ x ∈ P', x ∈ P ∨ s.heap.get? x = none) → Q (some v) s')
    (hnone : outs = [] → bad = false → ∀ s', Past P s s' → (∀ x ∈ Own, ∃ o, s'.heap.get? x = some o) → Q none s')
    (hbad : outs = [] → bad = true → ∀ e d s', Flying P (framesOf outer) s.heap e d (some .none) s'.heap → (AllBare s.gens → AllBare s'.gens) → s'.os = s.os → E (.ref e) s') :
    wpG (mdl prog₀ w) A (pyNext (.ref ga)) Q E s := by
  refine nextReady r X nl c.rd c.atW c.gen c.gst c.gn c.gan (fun q => c.own ga (c.fO ga q) (.head _)) c.P0 (fun b outs' e v s' P' G' gs' hO W hg' gn' R => ?_) (fun e hb s' P' G' W => ?_) (fun e hb x d s' f g1 g2 g3 g4 => hbad e hb x d s' f g3 g4)
  · have pw : Past P s s' := ⟨W.keep, W.bare, W.os⟩
    have out : ∀ x o, x ∉ P → s.heap.get? x = some o → x ∉ P' := fun x o hx q hP => by
      rcases W.newP x hP with r | r
      · exact hx r
      · rw [q] at r; cases r
    obtain ⟨og, hgo⟩ := isGen_there c.gen
    refine hsome b outs' e v s' gs' P' G' hO ⟨isGen_of c.gen fun o q => W.keep _ _ c.gan q, hg', R, out ga og c.gan hgo, gn', fun a ha => ?_, fun b o q => W.keep b o (fun hP => by rw [c.P0 b hP] at q; cases q) (c.old b o q), ?_, fun x hx hm => ?_, fun x hx => ?_, c.fO⟩ pw W.newP
    · rcases W.newP a ha with q | q
      · exact c.P0 a q
      · cases e : h₀.get? a with
        | none => rfl
        | some o => have := c.old _ _ e; rw [q] at this; cases this
    · exact FunFrames.keepAt c.ff fun a o ha q => W.keep a o (fun hP => c.own a (c.fO a ha) (.tail _ hP)) q
    · obtain ⟨o, q⟩ := c.there x hx
      rcases List.mem_cons.mp hm with rfl | hm
      · exact c.own _ hx (.head _)
      · exact out x o (fun hP => c.own x hx (.tail _ hP)) q hm
    · obtain ⟨o, q⟩ := c.there x hx
      exact ⟨o, W.keep x o (fun hP => c.own x hx (.tail _ hP)) q⟩
  · exact hnone e hb s' ⟨W.keep, W.bare, W.os⟩ fun x hx => by
      obtain ⟨o, q⟩ := c.there x hx
      exact ⟨o, W.keep x o (fun hP => c.own x hx (.tail _ hP)) q⟩
end
end Mine

end
section
open PySem PySem.W PySem.W.X PySem.Calls PyProof.Rows PySem.Builtin
set_option maxRecDepth 100000
namespace Mine
theorem warm21 : (∀ P, Mine.hd.heap_39 P = Mine.hd.heap_39 P) ∧ PySem.Challenge.rw_ae6005_01 = PySem.Challenge.rw_ae6005_01 := by
  k_fill
  exact ⟨fun _ => rfl, rfl⟩
local macro_rules | `(tactic| x_close) => `(tactic| first | exact ⟨_, _, rfl, rfl⟩ | (trace_state; fail))
set_option maxHeartbeats 4000000 in
theorem bytesOfBytes (w : World) (s : Shared) (fl : List Env) (b : Oct) (t : Tok) (hb : b.size ≤ 1000) :
    wpAny (model prog₀ w) (A₉ fl) (call (.type "bytes") [.bytes b t]) (fun v s' => ∃ t' tk, v = .bytes b t' ∧ s' = { s with toks := tk }) (fun _ _ => False) s := by
  x_run
set_option maxHeartbeats 4000000 in
theorem bytesOfBa (w : World) (s : Shared) (fl : List Env) (b : Oct) (a : Addr) (hb : b.size ≤ 1000) (ha : s.heap.get? a = some { cls := .type "bytearray", dict := none, data := .bytearray b 0, slots := #[] }) :
    wpAny (model prog₀ w) (A₉ fl) (call (.type "bytes") [.ref a]) (fun v s' => ∃ t' tk, v = .bytes b t' ∧ s' = { s with toks := tk }) (fun _ _ => False) s := by
  x_run
end Mine

end
section
open PySem PySem.W PySem.W.X PySem.Calls PyProof.Rows PySem.Builtin
set_option maxRecDepth 100000
namespace Mine
theorem warm22 : (∀ P, Mine.hd.heap_39 P = Mine.hd.heap_39 P) ∧ PySem.Challenge.rw_ae6005_01 = PySem.Challenge.rw_ae6005_01 := by
  k_fill
  exact ⟨fun _ => rfl, rfl⟩
def tryBody : Stmt → List Stmt
  | .Try b _ _ _ _ => b
  | _ => []
def retOf : Stmt → Expr
  | .Return (some e) _ => e
  | _ => .Constant .none 0 default
def lfTry : Stmt := lfoldBody.getD 0 (.Pass default)
def lfComp : Expr := retOf ((tryBody lfTry).getD 0 (.Pass default))
def compIter : Expr → Expr
  | .ListComp _ (g :: _) _ _ => g.iter
  | _ => .Constant .none 0 default
def compElt : Expr → Expr
  | .ListComp e _ _ _ => e
  | _ => .Constant .none 0 default
abbrev lfCenv (C L : Addr) : Env := compEnv (compScope lfComp) C (lfoldEnv L)
theorem pk_bytes (w : World) (L C : Addr) : PK w (loadName (lfCenv C L) (Str.ofString "bytes")) (.type "bytes") := by kernel_rfl

/-- a frame is noted by its address -/
theorem noteFrame_congr {e : Value} {env env' : Env} (h : env.frame = env'.frame) : noteFrame e env = noteFrame e env' := by
  unfold noteFrame PySem.frameOf
  rw [h]

section
variable {P P₀ S : List Addr} {hr s₀ h h' : Heap} {e d C : Addr} {fl : Option Value} {m : Str → Option Value}
/-- a flight, seen from an earlier state -/
theorem Flying.back (x : Flying P S hr e d fl h) (k : ∀ b o, b ∉ P₀ → s₀.get? b = some o → hr.get? b = some o) (hp : ∀ b ∈ P, b ∈ P₀ ∨ s₀.get? b = none) : Flying P₀ S s₀ e d fl h := by
  have notIn : ∀ b o, b ∉ P₀ → s₀.get? b = some o → b ∉ P := fun b o hb q hi => by
    rcases hp b hi with r | r
    · exact hb r
    · rw [q] at r; cases r
  have fresh : ∀ b, (b ∈ P ∨ hr.get? b = none) → (b ∈ P₀ ∨ s₀.get? b = none) := fun b hb => by
    by_cases hm : b ∈ P₀
    · exact .inl hm
    refine .inr ?_
    cases q : s₀.get? b with
    | none => rfl
    | some o =>
      rcases hb with hb | hb
      · exact absurd hb (notIn b o hm q)
      · have := k b o hm q; rw [hb] at this; cases this
  refine ⟨fun b o hp hS hb => x.keep b o (notIn b o hp hb) hS (k b o hp hb), fun b o hp hb => x.slots b o (notIn b o hp hb) (k b o hp hb), fresh _ x.eNew, ?_, x.hint⟩
  obtain ⟨vs, he, hz, ht⟩ := x.exc
  refine ⟨vs, he, hz, ?_⟩
  cases fl with
  | none => exact ht
  | some v => obtain ⟨T, ts, a1, a2, a3, a4⟩ := ht; exact ⟨T, ts, a1, a2, fresh _ a3, a4⟩
/-- a table of names that is not the exception's turns -/
theorem Flying.but (x : Flying P S hr e d fl h) (hC : hr.get? C = none) (ns : h.Ns C m) (hm : m (Str.ofString "error_status_hint") = none) (y : Heap.SameBut C h h') : Flying P S hr e d fl h' := by
  have hne : ∀ {b : Addr} {c : Value} {dd : Option Addr} {vs : Array Value} {sl : Array (Option Value)}, h.get? b = some { cls := c, dict := dd, data := .fields vs, slots := sl } → b ≠ C := fun {b c dd vs sl} hb q => by
    subst q
    obtain ⟨o, es, ep, ho, hd, _⟩ := ns
    rw [hb] at ho; cases ho; cases hd
  obtain ⟨vs, he, hz, ht⟩ := x.exc
  obtain ⟨m', hd, hm'⟩ := x.hint
  have dC : d ≠ C := by
    rintro rfl
    rw [Ns.same hd ns, hm] at hm'; cases hm'
  refine ⟨fun b o hp hS hb => (y.2 b fun q => by rw [q, hC] at hb; cases hb).trans (x.keep b o hp hS hb), fun b o hp hb => ?_, x.eNew, ⟨vs, (y.2 e (hne he)).trans he, hz, ?_⟩, ⟨m', hd.at' fun o q => (y.2 d dC).trans q, hm'⟩⟩
  · obtain ⟨sl, q⟩ := x.slots b o hp hb
    exact ⟨sl, (y.2 b fun q => by rw [q, hC] at hb; cases hb).trans q⟩
  · cases fl with
    | none => exact ht
    | some v =>
      obtain ⟨T, ts, a1, a2, a3, a4, a5⟩ := ht
      exact ⟨T, ts, a1, a2, a3, (y.2 T (hne a4)).trans a4, a5⟩
end

section
variable {w : World} {s : Shared} {h₀ : Heap} {L l : Addr} {mg mb : Str → Option Value} {mean : ExcName → Option Value} {A : Around} {E : Value → Shared → Prop} {outer : List Env} {vals : List Value} {items : List Oct} {n : Nat}
theorem passOnF {α : Type} {P S : List Addr} {hr : Heap} {e d : Addr} {v₀ : Value} {env : Env} {what : String} {Q : α → Shared → Prop} (x : Flying P S hr e d (some v₀) s.heap)
    (h : ∀ h', Flying P S hr e d (some (env.frame.elim .none fun f => rawInt f)) h' → E (.ref e) { s with heap := h' }) : wpAny (mdl prog₀ w) A (PySem.passOn what (.ref e) env : Sem α) Q E s := by
  obtain ⟨vs, he, hz, T, ts, hT, hTe, hTn, ho, h3⟩ := id x.exc
  unfold PySem.passOn
  refine wpAny_bind (wpAny_field he rfl hT ?_)
  rw [if_neg (show ¬ ((Value.ref T == Value.none) = true) from Bool.false_ne_true)]
  exact wpAny_bind (setFlightF x fun h' x' => wpAny_throw (h h' x'))

set_option maxHeartbeats 4000000 in
theorem lfIter {Q : Value → Shared → Prop} (r : Rk 5 A outer) (X : (Mine.hd.heap_39 w.params).In h₀) (T : Top view₀ (looseW view₀ loose₀) mean mg mb h₀) (nl : h₀.NoLimit) (F : Fr h₀ L s.heap (foldMap₀ l))
    (h : ∀ h' tk ga, Fr s.heap s.heap.objs.size h' (foldMap₀ l) → h'.IsGen ga s.gens.size → ga ≠ s.heap.objs.size → s.heap.get? ga = none →
      Q (.ref ga) { s with heap := h', toks := tk, gens := s.gens.push (.fresh (.func foldBody (foldEnv s.heap.objs.size))) }) :
    wpAny (mdl prog₀ w) A (eval (compIter lfComp) (lfoldEnv L)) Q E s := by
  have N := news_full h₀ L s.heap
  show wpAny _ _ (eval (Expr.Call _ _ _ _) (envOf _ { kind := _, names := _, isGenerator := _, isCoroutine := _, more := _ } _ _ _)) _ _ _
  repeat' (first | walk1 | (dsimp only; walk1))
  refine Fn.callGen (binds := [(Str.ofString "lines", .ref l)]) (fn105 w.params) (r.le (by decide)) (X.keeps F.keep) (nl.keeps F.keep) sc105 rfl (pk105 w (.ref l)) fun h' tk ga F₁ hg hne hn => ?_
  rw [binds_lines] at F₁
  exact h h' tk ga F₁ hg hne hn
end
end Mine

end
section
open PySem PySem.W PySem.W.X PySem.Calls PyProof.Rows PySem.Builtin
set_option maxRecDepth 100000
namespace Mine
theorem warm23 : (∀ P, Mine.hd.heap_39 P = Mine.hd.heap_39 P) ∧ PySem.Challenge.rw_ae6005_01 = PySem.Challenge.rw_ae6005_01 := by
  k_fill
  exact ⟨fun _ => rfl, rfl⟩
abbrev hintN : Str := Str.ofString "error_status_hint"

/-- the comprehension between two lines -/
structure LfSt (w : World) (A' : Around) (h₀ : Heap) (outer : List Env) (bad : Bool) (ga : Addr) (g : Nat) (C D : Addr) (P₀ : List Addr) (s s₁ : Shared) (all outs : List Oct) : Prop where
  con : ∃ gs P G, Con (mdl prog₀ w) A' h₀ outer OctOut bad ga g (C :: D :: framesOf outer) gs P G s₁ outs ∧ ∀ x ∈ P, x ∈ P₀ ∨ s.heap.get? x = none
  ns : ∃ m, s₁.heap.Ns C m ∧ m hintN = none
  acc : ∃ ys done, s₁.heap.PlainList D ys.toArray ∧ BsAt ys done ∧ done ++ outs = all
  past : Past P₀ s s₁

section
variable {w : World} {s : Shared} {h₀ : Heap} {L l : Addr} {mg mb : Str → Option Value} {mean : ExcName → Option Value} {A : Around} {E : Value → Shared → Prop} {outer : List Env} {vals : List Value} {items : List Oct} {n : Nat}
  {C D ga : Addr} {g : Nat} {P₀ : List Addr} {all outs : List Oct} {bad : Bool} {s₁ : Shared}

set_option maxHeartbeats 2000000 in
theorem lfLoop {pos ipos : Pos} {R : Result → Shared → Prop} (r : Rk 6 A (lfoldEnv L :: outer)) (X : (Mine.hd.heap_39 w.params).In h₀) (nl : h₀.NoLimit) (CD : C ≠ D) (C0 : h₀.get? C = none) (D0 : h₀.get? D = none) (Cs : s.heap.get? C = none) (Ds : s.heap.get? D = none) (CF : C ∉ framesOf (lfoldEnv L :: outer)) (DF : D ∉ framesOf (lfoldEnv L :: outer))
    (hz : ∀ b ∈ all, b.size ≤ 1000) (hlen : all.length ≤ 1000)
    (hok : bad = false → ∀ s' ys, Past P₀ s s' → s'.heap.PlainList D ys.toArray → BsAt ys all → (∃ m, s'.heap.Ns C m) → R (.ok .next) s')
    (hbad : bad = true → ∀ e d s', Flying P₀ (framesOf (lfoldEnv L :: outer)) s.heap e d (some (rawInt L)) s'.heap → (∃ m, s'.heap.Ns C m ∧ m hintN = none) → (AllBare s.gens → AllBare s'.gens) → s'.os = s.os → R (.error (.ref e)) s')
    (x : LfSt w A.in1 h₀ (lfoldEnv L :: outer) bad ga g C D P₀ s s₁ all outs) :
    codeG (mdl prog₀ w) A (.compLoop (.ListComp (compElt lfComp) [⟨.Name (Str.ofString "line") ipos, compIter lfComp, [], 0⟩] (compScope lfComp) pos) 0 (.ref ga) (.ref D) (lfCenv C L)) R s₁ := by
  refine compLoopG (fun k s' => ∃ outs, k = outs.length ∧ LfSt w A.in1 h₀ (lfoldEnv L :: outer) bad ga g C D P₀ s s' all outs) ?_ outs.length ⟨outs, rfl, x⟩
  rintro k s' ⟨outs, rfl, x⟩
  obtain ⟨⟨gs, P, G, c, new⟩, ⟨m, ns, hm⟩, ⟨ys, done, hD, hA, hall⟩, pa⟩ := x
  have keepP : ∀ {s'' : Shared}, (∀ b o, b ∉ P → s'.heap.get? b = some o → s''.heap.get? b = some o) → ∀ b o, b ∉ P₀ → s.heap.get? b = some o → s''.heap.get? b = some o := fun k b o hb q => by
    refine k b o (fun hP => ?_) (pa.keep b o hb q)
    rcases new b hP with r | r
    · exact hb r
    · rw [q] at r; cases r
  have CP : C ∉ P := fun hP => c.own C (.head _) (.tail _ hP)
  have DP : D ∉ P := fun hP => c.own D (.tail _ (.head _)) (.tail _ hP)
  refine c.next r X nl (fun b outs' e v s'' gs' P' G' hO c' pw new' => ?_) (fun e hb s'' pw there => ?_) (fun e hb xe d s'' f hbare hos => ?_)
  · subst e
    have hb : b ∈ all := by rw [← hall]; simp
    have hzb := hz b hb
    have ns' : s''.heap.Ns C m := ns.at' fun o q => pw.keep _ _ CP q
    have hD' : s''.heap.PlainList D ys.toArray := hD.at fun o q => pw.keep _ _ DP q
    have hvC : ∀ a, v = .ref a → a ≠ C := fun a e q => by
      subst q
      rcases hO.1 with ⟨t, r⟩ | ⟨y, r, hy⟩
      · rw [r] at e; cases e
      · rw [r] at e; cases e
        obtain ⟨o, es, ep, ho, hd, _⟩ := ns'
        rw [hy] at ho; cases ho; cases hd
    refine wpAny_assign_Name (wpAny_storeName_local (by rfl) ns' (fun h₂ ns₂ hs₂ => ?_) (by rfl))
    have hO₂ : OctAt h₂ v b := hO.1.keep fun a e o q => (hs₂.2 a (hvC a e)).trans q
    have hD₂ : h₂.PlainList D ys.toArray := hD'.at fun o q => (hs₂.2 D (Ne.symm CD)).trans q
    have k₂ : ∀ b o, b ≠ C → s''.heap.get? b = some o → h₂.get? b = some o := fun b o hb q => (hs₂.2 b hb).trans q
    have old₂ : ∀ b o, h₀.get? b = some o → h₂.get? b = some o := fun b o q => k₂ b o (fun e => by rw [e, C0] at q; cases q) (c'.old b o q)
    show wpG _ _ (eval (.Call (.Name _ _) [.Name (Str.ofString "line") _] [] _) (lfCenv C L)) _ _ _
    refine gCallName1 rfl ?_
    refine wpAny_Name (lift ((pkLooks (X.keeps old₂) (pk_bytes w L C)) _ _ _ _ (fun _ _ x => x) ?_)) (by decide)
    refine gCallWithOwn rfl rfl (Calls.evalArgs_plain (Calls.spliced_cons (wpAny_Name (wpAny_loadName_local (v := v) rfl rfl ns₂ (if_pos rfl) (Calls.spliced_nil ?_)) (by decide))))
    have key : wpAny (mdl prog₀ w) A (call (.type "bytes") [v]) (fun u s₃ => ∃ t' tk, u = .bytes b t' ∧ s₃ = { s'' with heap := h₂, toks := tk }) (fun _ _ => False) { s'' with heap := h₂, toks := s''.toks + 1 } := by
      rcases hO₂ with ⟨t, rfl⟩ | ⟨a, rfl, ha⟩
      · refine lift (r.rm.any (wpAny_mono (bytesOfBytes w _ (lfoldEnv L :: outer) b t hzb) ?_ fun _ _ x => x))
        rintro u s₃ ⟨t', tk, rfl, rfl⟩
        exact ⟨t', tk, rfl, rfl⟩
      · refine lift (r.rm.any (wpAny_mono (bytesOfBa w { s'' with heap := h₂, toks := s''.toks + 1 } (lfoldEnv L :: outer) b a hzb ha) ?_ fun _ _ x => x))
        rintro u s₃ ⟨t', tk, rfl, rfl⟩
        exact ⟨t', tk, rfl, rfl⟩
    refine toG (wpAny_mono key ?_ fun _ _ x => x.elim)
    rintro u s₃ ⟨t', tk, rfl, rfl⟩
    have hdl : ys.length ≤ 1000 := by
      have h1 := hA.len
      have h2 := congrArg List.length hall
      simp at h2
      omega
    refine lift (wpAny_list_append_plain hD₂ (fun h₅ hD₅ hs₅ => ?_) (by simp [sizeLine_eq]; omega))
    have k₅ : ∀ b o, b ≠ C → b ≠ D → s''.heap.get? b = some o → h₅.get? b = some o := fun b o hb hb' q => (hs₅.2 b hb').trans (k₂ b o hb q)
    have ffk : h₅.FunFrames h₀ (lfoldEnv L :: outer) := FunFrames.keepAt c'.ff fun a o ha q => k₅ a o (fun e => CF (e ▸ ha)) (fun e => DF (e ▸ ha)) q
    have old₅ : ∀ b o, h₀.get? b = some o → h₅.get? b = some o := fun b o q => k₅ b o (fun e => by rw [e, C0] at q; cases q) (fun e => by rw [e, D0] at q; cases q) (c'.old b o q)
    refine ⟨outs'.length, by simp, outs', rfl, ⟨⟨gs', P', G', c'.carry (fun b o hb q => ?_) old₅ ffk (fun x hx => ?_), fun x hx => ?_⟩, ⟨_, ns₂.at' fun o q => (hs₅.2 C CD).trans q, ?_⟩, ⟨ys ++ [.bytes b t'], done ++ [b], by simpa using hD₅, hA.snoc, by rw [← hall]; simp⟩, ?_⟩⟩
    · exact k₅ b o (fun e => c'.own C (.head _) (e ▸ hb)) (fun e => c'.own D (.tail _ (.head _)) (e ▸ hb)) q
    · rcases List.mem_cons.mp hx with rfl | hx
      · obtain ⟨o, _, _, q, _⟩ := ns₂
        exact ⟨o, (hs₅.2 _ CD).trans q⟩
      rcases List.mem_cons.mp hx with rfl | hx
      · obtain ⟨k, q⟩ := hD₅; exact ⟨_, q⟩
      · obtain ⟨o, q⟩ := c'.there x (.tail _ (.tail _ hx))
        exact ⟨o, k₅ x o (fun e => CF (e ▸ hx)) (fun e => DF (e ▸ hx)) q⟩
    · rcases new' x hx with q | q
      · exact new x q
      · by_cases hP : x ∈ P₀
        · exact .inl hP
        refine .inr ?_
        cases e : s.heap.get? x with
        | none => rfl
        | some o => have := pa.keep x o hP e; rw [q] at this; cases this
    · show (if hintN = Str.ofString "line" then some v else m hintN) = none
      rw [if_neg (by decide), hm]
    · exact ⟨fun b o hb q => k₅ b o (fun e => by rw [e, Cs] at q; cases q) (fun e => by rw [e, Ds] at q; cases q) (keepP pw.keep b o hb q), pw.bare ∘ pa.bare, pw.os.trans pa.os⟩
  · subst hb
    have e : outs = [] := e
    subst e
    rw [List.append_nil] at hall
    subst hall
    exact hok rfl s'' ys ⟨keepP pw.keep, pw.bare ∘ pa.bare, pw.os.trans pa.os⟩ (hD.at fun o q => pw.keep _ _ DP q) hA ⟨m, ns.at' fun o q => pw.keep _ _ CP q⟩
  · subst hb
    show wpAny _ _ (noteFrame (.ref xe) (lfCenv C L)) _ _ _
    rw [noteFrame_congr (env := lfCenv C L) (env' := lfoldEnv L) rfl]
    refine noteFrameFP (base := h₀) (S := framesOf (lfoldEnv L :: outer)) r.frames (f.frames c.ff fun b hb hP => c.own b (c.fO b hb) (.tail _ hP)) rfl (fun _ q => q) f (.inr rfl) fun h₃ x₃ => ?_
    exact hbad rfl xe d _ (x₃.back pa.keep new) ⟨m, Mine.Ns.slots ns fun o q => x₃.slots C o CP q, hm⟩ (hbare ∘ pa.bare) (hos.trans pa.os)
end
end Mine

end
section
open PySem PySem.W PySem.W.X PySem.Calls PyProof.Rows PySem.Builtin
set_option maxRecDepth 100000
namespace Mine
theorem warm24 : (∀ P, Mine.hd.heap_39 P = Mine.hd.heap_39 P) ∧ PySem.Challenge.rw_ae6005_01 = PySem.Challenge.rw_ae6005_01 := by
  k_fill
  exact ⟨fun _ => rfl, rfl⟩
theorem lf_free : ∀ x ∈ (compScope lfComp).names, x.2 ≠ .free := by decide +kernel
theorem lf_cell : ∀ x ∈ (compScope lfComp).names, x.2 ≠ .cell := by decide +kernel
theorem lf_names : ∀ x ∈ (compScope lfComp).names, x.2 = .local → (compScope lfComp).names.lookup x.1 = some .local := by decide +kernel
theorem foldOut_len : ∀ (rest : List Oct) (last : Option Oct), (foldOut last rest).1.length ≤ rest.length + 1
  | [], none => by simp [foldOut]
  | [], some a => by simp [foldOut]
  | c :: bs, none => by
    simp only [foldOut]
    split
    · have := foldOut_len bs (some c); simp; omega
    · simp
  | c :: bs, some a => by
    simp only [foldOut]
    split
    · have := foldOut_len bs (some c); simp; omega
    · have := foldOut_len bs (some (glue a c)); simp; omega

section
variable {w : World} {s : Shared} {h₀ : Heap} {L l : Addr} {mg mb : Str → Option Value} {mean : ExcName → Option Value} {A : Around} {E : Value → Shared → Prop} {outer : List Env} {vals : List Value} {items : List Oct} {n : Nat}

set_option maxHeartbeats 2000000 in
theorem lfCompG {Q : Value → Shared → Prop} (r : Rk 10 A (lfoldEnv L :: outer)) (X : (Mine.hd.heap_39 w.params).In h₀) (T : Top view₀ (looseW view₀ loose₀) mean mg mb h₀) (nl : h₀.NoLimit) (F : Fr h₀ L s.heap (foldMap₀ l))
    (ff : s.heap.FunFrames h₀ (lfoldEnv L :: outer)) (hl : s.heap.get? l = some (listObj vals n)) (ho : Octs s.heap vals items) (hz : szOf none items ≤ 900) (hil : items.length ≤ 900) (hap : (Value.ref l :: vals).Pairwise Apart) (hfr : ∀ a ∈ l :: refs vals, h₀.get? a = none)
    (hout : ∀ x ∈ framesOf (lfoldEnv L :: outer), x ∉ l :: refs vals)
    (hok : (foldOut none items).2 = false → ∀ s' D ys, Past (l :: refs vals) s s' → s'.heap.PlainList D ys.toArray → BsAt ys (foldOut none items).1 → s.heap.get? D = none → Q (.ref D) s')
    (hbad : (foldOut none items).2 = true → ∀ e d s', Flying (l :: refs vals) (framesOf (lfoldEnv L :: outer)) s.heap e d (some (rawInt L)) s'.heap → (AllBare s.gens → AllBare s'.gens) → s'.os = s.os → E (.ref e) s') :
    wpG (mdl prog₀ w) A (eval lfComp (lfoldEnv L)) Q E s := by
  have there : ∀ b, b ∈ l :: refs vals → ∃ o, s.heap.get? b = some o := fun b hb => by
    rcases List.mem_cons.mp hb with rfl | hb
    · exact ⟨_, hl⟩
    · exact ho.there b (mem_refs.mp hb)
  have apl : ∀ v ∈ Value.ref l :: vals, ∀ a, v = .ref a → a ∈ l :: refs vals := fun v hv a e => by
    subst e
    rcases List.mem_cons.mp hv with q | hv
    · cases q; exact .head _
    · exact .tail _ (mem_refs.mpr hv)
  have none0 : ∀ b, s.heap.get? b = none → h₀.get? b = none := fun b q => by
    cases e : h₀.get? b with
    | none => rfl
    | some o => have := F.keep _ _ e; rw [q] at this; cases this
  show wpG _ _ (eval (.ListComp (compElt lfComp) [⟨.Name (Str.ofString "line") _, compIter lfComp, [], 0⟩] (compScope lfComp) _) (lfoldEnv L)) _ _ _
  refine gListComp lf_free rfl lf_names (lfIter (r.le (by decide)) X T nl F fun h' tk ga F₁ hg hne hn => ?_)
  refine lift (wpAny_pyIter_gen hg ?_)
  refine wpAny_newObj_type ?_ (by size_fits)
  refine wpAny_newFunctionEnv lf_cell (by intro y hy; simp at hy) (fun h₃ ns₃ hsb₃ => ?_) rfl
  dsimp only at ns₃ hsb₃ ⊢
  generalize hH2 : h'.push { cls := .type "list", dict := none, data := .seq ([] : List Value).toArray } = H2 at ns₃ hsb₃ ⊢
  have hDn : h'.get? h'.objs.size = none := Heap.get?_none_of_le (Nat.le_refl _)
  have hCn : H2.get? H2.objs.size = none := Heap.get?_none_of_le (Nat.le_refl _)
  have k2 : ∀ b o, h'.get? b = some o → H2.get? b = some o := fun b o q => by rw [← hH2]; exact Heap.get?_push_of_some _ q
  have hD2 : H2.PlainList h'.objs.size ([] : List Value).toArray := ⟨0, by rw [← hH2]; exact Heap.get?_push_size _ rfl⟩
  generalize h'.objs.size = D at hDn hD2 ⊢
  have k3 : ∀ b o, H2.get? b = some o → h₃.get? b = some o := fun b o q => hsb₃.extBut b o (fun e => by rw [e, hCn] at q; cases q) (Heap.get?_push_of_some _ q)
  generalize H2.objs.size = C at ns₃ hCn ⊢
  have kk : ∀ b o, s.heap.get? b = some o → h₃.get? b = some o := fun b o q => k3 b o (k2 b o (F₁.keep b o q))
  have Ds : s.heap.get? D = none := by
    cases e : s.heap.get? D with
    | none => rfl
    | some o => have := F₁.keep _ _ e; rw [hDn] at this; cases this
  have Cs : s.heap.get? C = none := by
    cases e : s.heap.get? C with
    | none => rfl
    | some o => have := k2 _ _ (F₁.keep _ _ e); rw [hCn] at this; cases this
  have hD3 : h₃.PlainList D ([] : List Value).toArray := hD2.at fun o q => k3 _ _ q
  have CD : C ≠ D := fun e => by obtain ⟨k, q⟩ := hD2; rw [e, q] at hCn; cases hCn
  have hg3 : h₃.IsGen ga s.gens.size := isGen_of hg fun o q => k3 _ _ (k2 _ _ q)
  obtain ⟨og, hgo⟩ := isGen_there hg
  obtain ⟨oL, hLg⟩ := frNs F₁
  have gaD : ga ≠ D := fun e => by rw [e, hDn] at hgo; cases hgo
  have gaC : ga ≠ C := fun e => by rw [← e] at hCn; rw [k2 _ _ hgo] at hCn; cases hCn
  have LgD : s.heap.objs.size ≠ D := fun e => by rw [e, hDn] at hLg; cases hLg
  have LgC : s.heap.objs.size ≠ C := fun e => by rw [← e] at hCn; rw [k2 _ _ hLg] at hCn; cases hCn
  have szn : s.heap.get? s.heap.objs.size = none := Heap.get?_none_of_le (Nat.le_refl _)
  have frs : ∀ x ∈ framesOf (lfoldEnv L :: outer), ∃ o, s.heap.get? x = some o := fun x hx => let ⟨o, q, _⟩ := (ff.mem hx).2; ⟨o, q⟩
  have out : ∀ b, s.heap.get? b = none → b ∉ framesOf (lfoldEnv L :: outer) := fun b hb hm => by obtain ⟨o, q⟩ := frs b hm; rw [hb] at q; cases q
  have outP : ∀ b, s.heap.get? b = none → b ∉ l :: refs vals := fun b hb hm => by obtain ⟨o, q⟩ := there b hm; rw [hb] at q; cases q
  obtain ⟨oL0, hL0⟩ := frNs F
  have loop : ∀ pos ipos : Pos, codeG (mdl prog₀ w) A (.compLoop (.ListComp (compElt lfComp) [⟨.Name (Str.ofString "line") ipos, compIter lfComp, [], 0⟩] (compScope lfComp) pos) 0 (.ref ga) (.ref D) (lfCenv C L))
      (fun r s' => ∃ m, s'.heap.Ns C m ∧ ∀ h', Heap.SameBut C s'.heap h' → match r with | .ok _ => Q (.ref D) { s' with heap := h' } | .error x => wpAny (mdl prog₀ w) A (PySem.passOn "comprehension.variables-let-go" x (lfCenv C L)) Q E { s' with heap := h' })
      { s with heap := h₃, gens := s.gens.push (.fresh (.func foldBody (foldEnv s.heap.objs.size))), toks := tk + ([] : List (Str × Value)).length } := by
    intro pos ipos
    have ri : Rk 8 A.in1 (lfoldEnv L :: outer) := (r.le (by decide : 9 ≤ 10)).one
    refine lfLoop (s := s) (P₀ := l :: refs vals) (all := (foldOut none items).1) (bad := (foldOut none items).2) (outs := (foldOut none items).1) (r.le (by decide)) X nl CD (none0 _ Cs) (none0 _ Ds) Cs Ds (out _ Cs) (out _ Ds) (fun b hb => ?_) ?_ (fun hb s' ys pa hD hA hns => ?_) (fun hb e d s' f hns hbare hos => ?_) ⟨⟨.fresh (.func foldBody (foldEnv s.heap.objs.size)), s.heap.objs.size :: l :: refs vals, [], ⟨hg3, by simp, ?_, ?_, (fun q => nomatch q), ?_, fun b o q => kk b o (F.keep b o q), FunFrames.keepAt ff fun a o _ q => kk a o q, ?_, ?_, ?_⟩, ?_⟩, ⟨_, ns₃, rfl⟩, ⟨[], [], hD3, trivial, rfl⟩, ⟨fun b o _ q => kk b o q, ?_, rfl⟩⟩
    · have := foldOut_size items none b hb
      omega
    · have := foldOut_len items none
      omega
    · obtain ⟨m, hm⟩ := hns
      refine ⟨m, hm, fun h'' hs => hok hb _ D ys ⟨fun b o hP q => (hs.2 b fun e => by rw [e, Cs] at q; cases q).trans (pa.keep b o hP q), pa.bare, pa.os⟩ (hD.at fun o q => (hs.2 D (Ne.symm CD)).trans q) hA Ds⟩
    · obtain ⟨m, hm, hm0⟩ := hns
      refine ⟨m, hm, fun h'' hs => passOnF (f.but Cs hm hm0 hs) fun h4 x4 => hbad hb e d _ x4 hbare hos⟩
    · refine foldReady (n := n) (s₀ := { s with heap := h₃, gens := s.gens.push (.fresh (.func foldBody (foldEnv s.heap.objs.size))), toks := tk + ([] : List (Str × Value)).length }) ri X T nl (F₁.ns.at' fun o q => k3 _ _ (k2 _ _ q)) (Nat.le_trans F.above (Nat.le_of_lt (Heap.lt_size hL0))) (kk _ _ hl) (ho.keep fun v _ a _ o q => kk _ _ q) hz ?_ ?_
      · refine List.pairwise_cons.mpr ⟨fun v hv a e q => ?_, hap⟩
        obtain ⟨o, q'⟩ := there a (apl v hv a q)
        cases e
        rw [szn] at q'; cases q'
      · intro a ha
        rcases List.mem_cons.mp ha with rfl | ha
        · exact none0 _ szn
        · exact hfr a ha
    · intro hm
      rcases List.mem_cons.mp hm with e | hm
      · exact hne e
      · exact outP ga hn hm
    · intro b hb
      rcases List.mem_cons.mp hb with rfl | hb
      · exact none0 _ szn
      · exact hfr b hb
    · intro x hx hm
      rcases List.mem_cons.mp hx with rfl | hx
      · rcases List.mem_cons.mp hm with e | hm
        · exact gaC e.symm
        rcases List.mem_cons.mp hm with e | hm
        · exact LgC e.symm
        · exact outP _ Cs hm
      rcases List.mem_cons.mp hx with rfl | hx
      · rcases List.mem_cons.mp hm with e | hm
        · exact gaD e.symm
        rcases List.mem_cons.mp hm with e | hm
        · exact LgD e.symm
        · exact outP _ Ds hm
      · obtain ⟨o, q⟩ := frs x hx
        rcases List.mem_cons.mp hm with rfl | hm
        · rw [hn] at q; cases q
        rcases List.mem_cons.mp hm with rfl | hm
        · rw [szn] at q; cases q
        · exact hout x hx hm
    · intro x hx
      rcases List.mem_cons.mp hx with rfl | hx
      · obtain ⟨o, _, _, q, _⟩ := ns₃; exact ⟨o, q⟩
      rcases List.mem_cons.mp hx with rfl | hx
      · obtain ⟨k, q⟩ := hD3; exact ⟨_, q⟩
      · obtain ⟨o, q⟩ := frs x hx; exact ⟨o, kk x o q⟩
    · exact fun x hx => .tail _ (.tail _ hx)
    · intro x hx
      rcases List.mem_cons.mp hx with rfl | hx
      · exact .inr szn
      · exact .inl hx
    · intro hb y hy
      rcases Array.mem_push.mp hy with h | rfl
      · exact hb y h
      · rfl
  exact compStartG (loop _ _) (lift (wpAny_pyIter_gen hg3 (loop _ _)))
end
end Mine

end
section
open PySem PySem.W PySem.W.X PySem.Calls PyProof.Rows PySem.Builtin
set_option maxRecDepth 100000
namespace Mine
theorem warm25 : (∀ P, Mine.hd.heap_39 P = Mine.hd.heap_39 P) ∧ PySem.Challenge.rw_ae6005_01 = PySem.Challenge.rw_ae6005_01 := by
  k_fill
  exact ⟨fun _ => rfl, rfl⟩
theorem sc130 : Sc lfoldScope [Str.ofString "lines"] := ⟨rfl, rfl, by decide +kernel, by decide +kernel⟩
theorem pk130 (w : World) (l : Value) : PK w (bindArgs (fdAt w.params 130) ⟨[l], []⟩) [(Str.ofString "lines", l)] := by kernel_rfl
theorem pk_lpeF (w : World) (L : Addr) : PK w (loadName (lfoldEnv L) (Str.ofString "LocalProtocolError")) (.ref 78) := by kernel_rfl

/-- what stood stands, but P; the frames S may have got slots -/
structure PastF (P S : List Addr) (s s' : Shared) : Prop where
  keep : ∀ b o, b ∉ P → b ∉ S → s.heap.get? b = some o → s'.heap.get? b = some o
  slots : ∀ b o, b ∉ P → s.heap.get? b = some o → ∃ sl, s'.heap.get? b = some { o with slots := sl }
  bare : AllBare s.gens → AllBare s'.gens
  os : s'.os = s.os
theorem Past.toF {P : List Addr} {s s' : Shared} (S : List Addr) (x : Past P s s') : PastF P S s s' := ⟨fun b o hP _ q => x.keep b o hP q, fun b o hP q => ⟨o.slots, x.keep b o hP q⟩, x.bare, x.os⟩

section
variable {w : World} {s : Shared} {h₀ : Heap} {l : Addr} {mg mb : Str → Option Value} {mean : ExcName → Option Value} {A : Around} {E : Value → Shared → Prop} {outer : List Env} {vals : List Value} {items : List Oct} {n : Nat}

/-- the call of _law_fold -/
theorem lfoldCall {Q : Value → Shared → Prop} (r : Rk 12 A outer) (X : (Mine.hd.heap_39 w.params).In h₀) (T : Top view₀ (looseW view₀ loose₀) mean mg mb h₀) (nl : h₀.NoLimit) (k0 : ∀ b o, h₀.get? b = some o → s.heap.get? b = some o) (hs0 : h₀.objs.size ≤ s.heap.objs.size)
    (ff : s.heap.FunFrames h₀ outer) (hl : s.heap.get? l = some (listObj vals n)) (ho : Octs s.heap vals items) (hz : szOf none items ≤ 900) (hil : items.length ≤ 900) (hap : (Value.ref l :: vals).Pairwise Apart) (hfr : ∀ a ∈ l :: refs vals, h₀.get? a = none)
    (hout : ∀ x ∈ framesOf outer, x ∉ l :: refs vals)
    (hok : (foldOut none items).2 = false → ∀ s' D ys, Past (l :: refs vals) s s' → s'.heap.PlainList D ys.toArray → BsAt ys (foldOut none items).1 → s.heap.get? D = none → Q (.ref D) s')
    (hbad : (foldOut none items).2 = true → ∀ s', PastF (l :: refs vals) (framesOf outer) s s' → Q (.int 400 303) s') :
    wpG (mdl prog₀ w) A (call (.ref 130) [.ref l]) Q E s := by
  refine Fn.callG (binds := [(Str.ofString "lines", .ref l)]) (fn130 w.params) (r.le (by decide)) (X.keeps k0) (nl.keeps k0) sc130 rfl (pk130 w _) fun h' tk F => ?_
  rw [binds_lines] at F
  have there : ∀ b, b ∈ l :: refs vals → ∃ o, s.heap.get? b = some o := fun b hb => by
    rcases List.mem_cons.mp hb with rfl | hb
    · exact ⟨_, hl⟩
    · exact ho.there b (mem_refs.mp hb)
  have old : ∀ b o, s.heap.get? b = some o → b ≠ s.heap.objs.size := fun b o q => Nat.ne_of_lt (Heap.lt_size q)
  generalize s.heap.objs.size = Lf at F old hs0 ⊢
  have F0 : Fr h₀ Lf h' (foldMap₀ l) := ⟨F.ns, fun b o q => F.keep b o (k0 b o q), hs0⟩
  have ff' : h'.FunFrames h₀ (lfoldEnv Lf :: outer) := fframes (h₀ := h₀) F0 (FunFrames.keepAt ff fun a o _ q => F.keep a o q) (lfoldEnv Lf) (fun q => nomatch (show ScopeKind.function = ScopeKind.module from q)) rfl
  have rd : Rk 11 (A.deeper (lfoldEnv Lf)) (lfoldEnv Lf :: outer) := r.deeper _
  have fin : ∀ x ∈ framesOf (lfoldEnv Lf :: outer), x ∉ l :: refs vals := fun x hx hP => by
    rcases List.mem_cons.mp (show x ∈ Lf :: framesOf outer from hx) with rfl | hx
    · obtain ⟨o, q⟩ := there _ hP
      exact old _ o q rfl
    · exact hout x hx hP
  show wpG _ _ (execs [.Try [.Return (some lfComp) _] [.ExceptHandler (some (.Name (Str.ofString "LocalProtocolError") _)) (some (Str.ofString "error")) (hintSuite (Str.ofString "error") _ _ _) _] [] [] _] (lfoldEnv Lf)) _ _ _
  refine gExecs (gTry (gExecs (gReturn (lfCompG (n := n) (s := { s with heap := h', toks := tk }) (items := items) (rd.le (by decide)) X T nl F0 ff' (F.keep _ _ hl) (ho.keep fun v _ a _ o q => F.keep _ _ q) hz hil hap hfr fin (fun hb s' D ys pa hD hA hDn => ?_) (fun hb e d s' f hbare hos => ?_)))))
  · refine hok hb s' D ys ⟨fun b o hP q => pa.keep b o hP (F.keep b o q), pa.bare, pa.os⟩ hD hA ?_
    cases e : s.heap.get? D with
    | none => rfl
    | some o =>
      have q : h'.get? D = none := hDn
      rw [F.keep _ _ e] at q; cases q
  · refine catchHint (h₀ := h₀) (S := framesOf (lfoldEnv Lf :: outer)) (P := l :: refs vals) (m₀ := foldMap₀ l) (outer := outer) rfl rfl (pk_lpeF w Lf) rd.frames ff' fin (fun _ q => q) f (.inr (.inr rfl)) (fun h'' hk => X.keeps fun b o q => hk b o (fun hP => by rw [hfr b hP] at q; cases q) (fun hS => by rw [(ff'.mem hS).1] at q; cases q) (F0.keep b o q)) F0.ns rfl fun h'' tk'' hk hsl => ?_
    refine hbad hb _ ⟨fun b o hP hS q => hk b o hP (fun hm => ?_) (F.keep b o q), fun b o hP q => hsl b o hP (old b o q) (F.keep b o q), hbare, hos⟩
    rcases List.mem_cons.mp (show b ∈ Lf :: framesOf outer from hm) with rfl | hm
    · exact old _ o q rfl
    · exact hS hm
end
end Mine

end
section
open PySem PySem.W PySem.W.X PySem.Calls PyProof.Rows PySem.Builtin
set_option maxRecDepth 100000
namespace Mine
theorem warm26 : (∀ P, Mine.hd.heap_39 P = Mine.hd.heap_39 P) ∧ PySem.Challenge.rw_ae6005_01 = PySem.Challenge.rw_ae6005_01 := by
  k_fill
  exact ⟨fun _ => rfl, rfl⟩
theorem sc137 : Sc lpairsScope [Str.ofString "lines", Str.ofString "told"] := ⟨rfl, rfl, by decide +kernel, by decide +kernel⟩
theorem pk137 (w : World) (l t : Value) : PK w (bindArgs (fdAt w.params 137) ⟨[l, t], []⟩) [(Str.ofString "lines", l), (Str.ofString "told", t)] := by kernel_rfl
theorem pk_lpeP (w : World) (L : Addr) : PK w (loadName (lpairsEnv L) (Str.ofString "LocalProtocolError")) (.ref 78) := by kernel_rfl
abbrev lpMap (l t : Addr) (pairV : Option Value) : Str → Option Value := fun y =>
  if y = Str.ofString "pair" then pairV else if y = Str.ofString "told" then some (.ref t) else if y = Str.ofString "lines" then some (.ref l) else none
theorem lpmap_pair (l t : Addr) (pv : Option Value) (v : Value) : (fun y => if y = Str.ofString "pair" then some v else lpMap l t pv y) = lpMap l t (some v) := by
  funext y; simp only [lpMap]; split <;> rfl
theorem lpmap_start (l t : Addr) : (fun x => ([(Str.ofString "lines", Value.ref l), (Str.ofString "told", Value.ref t)] : List (Str × Value)).reverse.lookup x) = lpMap l t none := by
  funext y
  show List.lookup y [_, _] = _
  unfold lpMap
  by_cases h : y = Str.ofString "pair"
  · subst h; rfl
  rw [if_neg h]
  by_cases h1 : y = Str.ofString "told"
  · subst h1; rfl
  rw [if_neg h1, List.lookup_cons, beq_false_of_ne h1]
  by_cases h2 : y = Str.ofString "lines"
  · subst h2; rfl
  rw [if_neg h2, List.lookup_cons, beq_false_of_ne h2]
  rfl
def lpTry : Stmt := lpairsBody.getD 0 (.Pass default)
def lpFor : Stmt := (tryBody lpTry).getD 0 (.Pass default)
def forIter : Stmt → Expr
  | .For _ i _ _ _ => i
  | _ => .Constant .none 0 default
def lpTurn : List Stmt := forBody lpFor
def lpApp : Stmt := lpTurn.getD 0 (.Pass default)
theorem lpTurn_eq : lpTurn = [lpApp] := rfl

/-- these are the tuples of these pairs -/
def PairsAt (h : Heap) : List Value → List (Oct × Oct) → Prop
  | [], [] => True
  | v :: vs, q :: qs => PairAt h v q ∧ PairsAt h vs qs
  | _, _ => False
theorem PairsAt.keep {h h' : Heap} : ∀ {vs : List Value} {bs : List (Oct × Oct)}, PairsAt h vs bs → (∀ v ∈ vs, ∀ a, v = .ref a → ∀ o, h.get? a = some o → h'.get? a = some o) → PairsAt h' vs bs
  | [], [], _, _ => trivial
  | v :: vs, b :: bs, ⟨⟨t, t1, t2, e, ht⟩, h2⟩, k => ⟨⟨t, t1, t2, e, k v (.head _) t e _ ht⟩, PairsAt.keep h2 fun u hu => k u (.tail _ hu)⟩
  | [], _ :: _, x, _ => x.elim
  | _ :: _, [], x, _ => x.elim
theorem PairsAt.len {h : Heap} : ∀ {vs : List Value} {bs : List (Oct × Oct)}, PairsAt h vs bs → vs.length = bs.length
  | [], [], _ => rfl
  | v :: vs, b :: bs, x => by rw [List.length_cons, List.length_cons, PairsAt.len x.2]
  | [], _ :: _, x => x.elim
  | _ :: _, [], x => x.elim
theorem PairsAt.snoc {h : Heap} : ∀ {vs : List Value} {bs : List (Oct × Oct)} {v : Value} {b : Oct × Oct}, PairsAt h vs bs → PairAt h v b → PairsAt h (vs ++ [v]) (bs ++ [b])
  | [], [], _, _, _, p => ⟨p, trivial⟩
  | _ :: _, _ :: _, _, _, x, p => ⟨x.1, PairsAt.snoc x.2 p⟩
  | [], _ :: _, _, _, x, _ => x.elim
  | _ :: _, [], _, _, x, _ => x.elim
theorem PairsAt.there {h : Heap} : ∀ {vs : List Value} {bs : List (Oct × Oct)}, PairsAt h vs bs → ∀ a, .ref a ∈ vs → ∃ q : Oct × Oct, PairAt h (.ref a) q
  | [], [], _, _, hm => nomatch hm
  | v :: vs, b :: bs, x, a, hm => by
    rcases List.mem_cons.mp hm with rfl | hm
    · exact ⟨b, x.1⟩
    · exact PairsAt.there x.2 a hm
  | [], _ :: _, x, _, _ => x.elim
  | _ :: _, [], x, _, _ => x.elim

section
variable {w : World} {s : Shared} {h₀ : Heap} {L l tA : Addr} {mg mb : Str → Option Value} {mean : ExcName → Option Value} {A : Around} {E : Value → Shared → Prop} {outer : List Env} {v : Value} {vs : List Value}
set_option maxHeartbeats 4000000 in
theorem lpAppG {Q : Flow → Shared → Prop} (F : Fr h₀ L s.heap (lpMap l tA (some v))) (hJ : s.heap.PlainList tA vs.toArray) (hn : vs.length ≤ 1000)
    (h : ∀ h' tk, h'.PlainList tA (vs ++ [v]).toArray → Heap.SameBut tA s.heap h' → Q .next { s with heap := h', toks := tk }) :
    wpAny (model prog₀ w) (A₉ outer) (exec lpApp (lpairsEnv L)) Q E s := by
  have N := news_full h₀ L s.heap
  show wpAny _ _ (exec (Stmt.Expr _ _) (envOf _ { kind := _, names := _, isGenerator := _, isCoroutine := _, more := _ } _ _ _)) _ _ _
  repeat' (first | walk1 | (dsimp only; walk1))
  refine getMethod_builtin hJ.isList.typeIs _root_.PySem.F.plainAttrs_list slot_list_append type_list_append (fun a e => by cases e; obtain ⟨n, q⟩ := hJ; exact ⟨_, q, rfl⟩) ?_
  dsimp only
  repeat' (first | walk1 | (dsimp only; walk1))
  refine wpAny_list_append_plain hJ (fun h' hJ' hs => ?_) (by simp [sizeLine_eq]; omega)
  exact h h' _ (by simpa using hJ') hs

set_option maxHeartbeats 4000000 in
theorem lpIterG {Q : Value → Shared → Prop} (r : Rk 5 A outer) (X : (Mine.hd.heap_39 w.params).In h₀) (T : Top view₀ (looseW view₀ loose₀) mean mg mb h₀) (nl : h₀.NoLimit) (F : Fr h₀ L s.heap (lpMap l tA none))
    (h : ∀ h' tk ga, Fr s.heap s.heap.objs.size h' (foldMap₀ l) → h'.IsGen ga s.gens.size → ga ≠ s.heap.objs.size → s.heap.get? ga = none →
      Q (.ref ga) { s with heap := h', toks := tk, gens := s.gens.push (.fresh (.func decBody (decEnv s.heap.objs.size))) }) :
    wpAny (mdl prog₀ w) A (eval (forIter lpFor) (lpairsEnv L)) Q E s := by
  have N := news_full h₀ L s.heap
  show wpAny _ _ (eval (Expr.Call _ _ _ _) (envOf _ { kind := _, names := _, isGenerator := _, isCoroutine := _, more := _ } _ _ _)) _ _ _
  repeat' (first | walk1 | (dsimp only; walk1))
  refine Fn.callGen (binds := [(Str.ofString "lines", .ref l)]) (fn112 w.params) (r.le (by decide)) (X.keeps F.keep) (nl.keeps F.keep) sc112 rfl (pk112 w (.ref l)) fun h' tk ga F₁ hg hne hn => ?_
  rw [binds_lines] at F₁
  exact h h' tk ga F₁ hg hne hn
end
end Mine

end
section
open PySem PySem.W PySem.W.X PySem.Calls PyProof.Rows PySem.Builtin
set_option maxRecDepth 100000
namespace Mine
theorem warm27 : (∀ P, Mine.hd.heap_39 P = Mine.hd.heap_39 P) ∧ PySem.Challenge.rw_ae6005_01 = PySem.Challenge.rw_ae6005_01 := by
  k_fill
  exact ⟨fun _ => rfl, rfl⟩

/-- the loop of _law_pairs between two pairs -/
structure LpSt (w : World) (A' : Around) (h₀ : Heap) (outer : List Env) (bad : Bool) (ga : Addr) (g : Nat) (L l tA : Addr) (P₀ : List Addr) (s s₁ : Shared) (gs : GenState) (P : List Addr) (G : List Nat) (vs : List Value) (done outs : List (Oct × Oct)) : Prop where
  con : Con (mdl prog₀ w) A' h₀ outer PairOut bad ga g (tA :: refs vs ++ framesOf outer) gs P G s₁ outs
  new : ∀ x ∈ P, x ∈ P₀ ∨ s.heap.get? x = none
  fr : ∃ pairV, Fr h₀ L s₁.heap (lpMap l tA pairV)
  told : s₁.heap.PlainList tA vs.toArray
  pairs : PairsAt s₁.heap vs done
  past : Past (tA :: P₀) s s₁

section
variable {w : World} {s : Shared} {h₀ : Heap} {L l tA : Addr} {mg mb : Str → Option Value} {mean : ExcName → Option Value} {A : Around} {E : Value → Shared → Prop} {outer : List Env} {vals : List Value} {n : Nat}
  {ga : Addr} {g : Nat} {P₀ : List Addr} {all outs done : List (Oct × Oct)} {bad : Bool} {s₁ : Shared} {gs : GenState} {P : List Addr} {G : List Nat} {vs : List Value}

theorem LpSt.frP {A' : Around} (x : LpSt w A' h₀ outer bad ga g L l tA P₀ s s₁ gs P G vs done outs) : tA ∉ P ∧ (∀ a ∈ refs vs, a ∉ P) ∧ ∀ a ∈ framesOf outer, a ∉ P :=
  ⟨fun hP => x.con.own tA (List.mem_append_left _ (.head _)) (.tail _ hP), fun a ha hP => x.con.own a (List.mem_append_left _ (.tail _ ha)) (.tail _ hP), fun a ha hP => x.con.own a (List.mem_append_right _ ha) (.tail _ hP)⟩

set_option maxHeartbeats 2000000 in
theorem lpLoop {R : Result → Shared → Prop} (r : Rk 6 A (lpairsEnv L :: outer)) (X : (Mine.hd.heap_39 w.params).In h₀) (nl : h₀.NoLimit) (tL : tA ≠ L) (t0 : h₀.get? tA = none) (tF : tA ∉ framesOf (lpairsEnv L :: outer)) (Ls : s.heap.get? L = none) (LF : L ∉ framesOf outer)
    (hlen : all.length ≤ 1000)
    (hok : bad = false → ∀ s' vs, Past (tA :: P₀) s s' → s'.heap.PlainList tA vs.toArray → PairsAt s'.heap vs all → (∃ pairV, Fr h₀ L s'.heap (lpMap l tA pairV)) → R (.ok .next) s')
    (hbad : bad = true → ∀ e d s' s₂ gs P G vs, LpSt w A.in1 h₀ (lpairsEnv L :: outer) bad ga g L l tA P₀ s s₂ gs P G vs all [] → Flying P (framesOf (lpairsEnv L :: outer)) s₂.heap e d (some (rawInt L)) s'.heap → (AllBare s.gens → AllBare s'.gens) → s'.os = s.os → R (.error (.ref e)) s')
    (hall : done ++ outs = all) (x : LpSt w A.in1 h₀ (lpairsEnv L :: outer) bad ga g L l tA P₀ s s₁ gs P G vs done outs) :
    codeG (mdl prog₀ w) A (.forLoop (forTarget lpFor) (.ref ga) lpTurn [] (lpairsEnv L)) R s₁ := by
  refine forLoopG (fun k s' => ∃ outs gs P G vs done, k = outs.length ∧ done ++ outs = all ∧ LpSt w A.in1 h₀ (lpairsEnv L :: outer) bad ga g L l tA P₀ s s' gs P G vs done outs) ?_ outs.length ⟨outs, gs, P, G, vs, done, rfl, hall, x⟩
  clear x hall
  rintro k s' ⟨outs, gs, P, G, vs, done, rfl, hall, x⟩
  have c := x.con
  have pa := x.past
  obtain ⟨pairV, F⟩ := x.fr
  obtain ⟨tP, rP, fP⟩ := x.frP
  have LP : L ∉ P := fP L (by simp [framesOf, envOf])
  have keepP : ∀ {s'' : Shared}, (∀ b o, b ∉ P → s'.heap.get? b = some o → s''.heap.get? b = some o) → ∀ b o, b ∉ tA :: P₀ → s.heap.get? b = some o → s''.heap.get? b = some o := fun k b o hb q => by
    refine k b o (fun hP => ?_) (pa.keep b o hb q)
    rcases x.new b hP with r | r
    · exact hb (.tail _ r)
    · rw [q] at r; cases r
  have frAt : ∀ {s'' : Shared}, (∀ b o, b ∉ P → s'.heap.get? b = some o → s''.heap.get? b = some o) → Fr h₀ L s''.heap (lpMap l tA pairV) := fun k => ⟨F.ns.at' fun o q => k _ _ LP q, fun b o q => k b o (fun hP => by rw [c.P0 b hP] at q; cases q) (F.keep b o q), F.above⟩
  have prAt : ∀ {s'' : Shared}, (∀ b o, b ∉ P → s'.heap.get? b = some o → s''.heap.get? b = some o) → PairsAt s''.heap vs done := fun k => x.pairs.keep fun v hv a e o q => k a o (rP a (by subst e; exact mem_refs.mpr hv)) q
  refine c.next r X nl (fun b outs' e v s'' gs' P' G' hO c' pw new' => ?_) (fun e hb s'' pw there => ?_) (fun e hb xe d s'' f hbare hos => ?_)
  · subst e
    have F' := frAt pw.keep
    have hD' : s''.heap.PlainList tA vs.toArray := x.told.at fun o q => pw.keep _ _ tP q
    have hp' := prAt pw.keep
    refine wpAny_assign_Name (stN F' (news_full h₀ L s''.heap) fun h₂ F₂ N₂ => ?_)
    rw [lpmap_pair] at F₂
    have k₂ := keep_full (X := fun _ => False) F₂ F'.keep N₂ fun p hp _ => hp
    have hD₂ : h₂.PlainList tA vs.toArray := hD'.at fun o q => k₂ tA o tL _root_.id q
    rw [lpTurn_eq]
    have hvl : vs.length ≤ 1000 := by
      have h1 := hp'.len
      have h2 := congrArg List.length hall
      simp at h2
      omega
    refine gStep (lift (r.rm.any (lpAppG (s := { s'' with heap := h₂, toks := s''.toks + 1 }) F₂ hD₂ hvl fun h₅ tk₅ hD₅ hs₅ => ?_)))
    refine gExecsNil ?_
    have F₅ := frSet F₂ hs₅ tL t0
    have k₅ : ∀ b o, b ≠ L → b ≠ tA → s''.heap.get? b = some o → h₅.get? b = some o := fun b o hb hb' q => (hs₅.2 b hb').trans (k₂ b o hb _root_.id q)
    obtain ⟨⟨t, t1, t2, rfl, ht⟩, htP⟩ := hO
    have isTup : ∀ {a : Addr} {q : Oct × Oct}, PairAt s''.heap (.ref a) q → ∀ o, (∃ dd sl c es ep, o = (⟨c, dd, .dict es ep, sl⟩ : Obj)) ∨ o.cls = .type "list" ∨ o.cls = .type "generator" → s''.heap.get? a ≠ some o := by
      rintro a q ⟨t', _, _, e, ht'⟩ o ho q'
      cases e
      rw [ht'] at q'; cases q'
      rcases ho with ⟨_, _, _, _, _, e⟩ | e | e
      · cases e
      · exact absurd (show Value.type "tuple" = Value.type "list" from e) (by decide)
      · exact absurd (show Value.type "tuple" = Value.type "generator" from e) (by decide)
    have notL : ∀ {a : Addr} {q : Oct × Oct}, PairAt s''.heap (.ref a) q → a ≠ L := fun {a q} hp e => by
      obtain ⟨⟨oc, od, odt, osl⟩, es, ep, ho, hd, _⟩ := F'.ns
      simp only at hd
      subst hd
      exact isTup hp _ (.inl ⟨_, _, _, _, _, rfl⟩) (by rw [e]; exact ho)
    have notT : ∀ {a : Addr} {q : Oct × Oct}, PairAt s''.heap (.ref a) q → a ≠ tA := fun {a q} hp e => by
      obtain ⟨k, q'⟩ := hD'
      exact isTup hp _ (.inr (.inl rfl)) (by rw [e]; exact q')
    have hpt : PairAt s''.heap (.ref t) b := ⟨t, t1, t2, rfl, ht⟩
    have notG : t ≠ ga := fun e => by
      obtain ⟨o, nm, qn, ho, hc, _⟩ := c'.gen
      exact isTup hpt o (.inr (.inr hc)) (by rw [e]; exact ho)
    have old₅ : ∀ b o, h₀.get? b = some o → h₅.get? b = some o := F₅.keep
    have ffo : h₅.FunFrames h₀ outer := FunFrames.keepAt (show s''.heap.FunFrames h₀ outer from (fun h => h.2.2) c'.ff) fun a o ha q => k₅ a o (fun e => LF (e ▸ ha)) (fun e => tF (e ▸ List.mem_cons_of_mem _ ha)) q
    have ff₅ : h₅.FunFrames h₀ (lpairsEnv L :: outer) := fframes (h₀ := h₀) F₅ ffo (lpairsEnv L) (fun q => nomatch (show ScopeKind.function = ScopeKind.module from q)) rfl
    have hp5 : PairsAt s''.heap (vs ++ [.ref t]) (done ++ [b]) := hp'.snoc hpt
    have thereT : ∀ a, .ref a ∈ vs ++ [.ref t] → ∃ o, h₅.get? a = some o := fun a ha => by
      obtain ⟨q, hq⟩ := hp5.there a ha
      obtain ⟨t', _, _, e, h'⟩ := id hq
      cases e
      exact ⟨_, k₅ _ _ (notL hq) (notT hq) h'⟩
    have refsA : refs (vs ++ [.ref t]) = refs vs ++ [t] := by unfold refs; rw [List.filterMap_append]; rfl
    have own₅ : Con (mdl prog₀ w) A.in1 h₀ (lpairsEnv L :: outer) PairOut bad ga g (tA :: refs (vs ++ [.ref t]) ++ framesOf (lpairsEnv L :: outer)) gs' P' G' { s'' with heap := h₅, toks := tk₅ } outs' := by
      have frs : ∀ y ∈ framesOf (lpairsEnv L :: outer), ∃ o, h₅.get? y = some o := fun y hy => let ⟨o, q, _⟩ := (ff₅.mem hy).2; ⟨o, q⟩
      have cc := c'.carry (tk := tk₅) (h' := h₅) (fun b o hb q => k₅ b o (fun e => c'.own L (List.mem_append_right _ (by simp [framesOf, envOf])) (e ▸ hb)) (fun e => c'.own tA (List.mem_append_left _ (.head _)) (e ▸ hb)) q) old₅ ff₅ (fun y hy => by
        rcases List.mem_append.mp hy with hy | hy
        · rcases List.mem_cons.mp hy with rfl | hy
          · obtain ⟨k, q⟩ := hD₅; exact ⟨_, q⟩
          · exact thereT y (List.mem_append_left _ (mem_refs.mp hy))
        · exact frs y hy)
      refine { cc with own := fun y hy => ?_, there := fun y hy => ?_, fO := fun y hy => List.mem_append_right _ hy }
      · rcases List.mem_append.mp hy with hy | hy
        · rcases List.mem_cons.mp hy with rfl | hy
          · exact c'.own _ (List.mem_append_left _ (.head _))
          · rw [refsA] at hy
            rcases List.mem_append.mp hy with hy | hy
            · exact c'.own y (List.mem_append_left _ (.tail _ hy))
            · rw [List.mem_singleton.mp hy]
              intro hm
              rcases List.mem_cons.mp hm with e | hm
              · exact notG e
              · exact htP t rfl hm
        · exact c'.own y (List.mem_append_right _ hy)
      · rcases List.mem_append.mp hy with hy | hy
        · rcases List.mem_cons.mp hy with rfl | hy
          · obtain ⟨k, q⟩ := hD₅; exact ⟨_, q⟩
          · exact thereT y (mem_refs.mp hy)
        · exact frs y hy
    refine ⟨outs'.length, by simp, outs', gs', P', G', vs ++ [.ref t], done ++ [b], rfl, by rw [← hall]; simp, ⟨own₅, fun y hy => ?_, ⟨_, F₅⟩, hD₅, ?_, ?_⟩⟩
    · rcases new' y hy with q | q
      · exact x.new y q
      · by_cases hP : y ∈ P₀
        · exact .inl hP
        by_cases hT : y = tA
        · subst hT
          obtain ⟨k, q'⟩ := x.told
          rw [q'] at q; cases q
        refine .inr ?_
        cases e : s.heap.get? y with
        | none => rfl
        | some o =>
          have := pa.keep y o (fun hm => by rcases List.mem_cons.mp hm with e | hm; exact hT e; exact hP hm) e
          rw [q] at this; cases this
    · exact hp5.keep fun u hu a e o q => by
        subst e
        obtain ⟨q', hq'⟩ := hp5.there a hu
        exact k₅ a o (notL hq') (notT hq') q
    · exact ⟨fun b o hb q => k₅ b o (fun e => by rw [e, Ls] at q; cases q) (fun e => hb (e ▸ .head _)) (keepP pw.keep b o hb q), pw.bare ∘ pa.bare, pw.os.trans pa.os⟩
  · subst hb
    have e : outs = [] := e
    subst e
    rw [List.append_nil] at hall
    subst hall
    refine gExecsNil ?_
    exact hok rfl s'' vs ⟨keepP pw.keep, pw.bare ∘ pa.bare, pw.os.trans pa.os⟩ (x.told.at fun o q => pw.keep _ _ tP q) (prAt pw.keep) ⟨pairV, frAt pw.keep⟩
  · subst hb
    have e : outs = [] := e
    subst e
    rw [List.append_nil] at hall
    subst hall
    show wpAny _ _ (noteFrame (.ref xe) (lpairsEnv L)) _ _ _
    refine noteFrameFP (base := h₀) (S := framesOf (lpairsEnv L :: outer)) r.frames (f.frames c.ff fP) rfl (fun _ q => q) f (.inr rfl) fun h₃ x₃ => ?_
    exact hbad rfl xe d _ s' gs P G vs x x₃ (hbare ∘ pa.bare) (hos.trans pa.os)
end
end Mine

end
section
open PySem PySem.W PySem.W.X PySem.Calls PyProof.Rows PySem.Builtin
set_option maxRecDepth 100000
namespace Mine
theorem warm28 : (∀ P, Mine.hd.heap_39 P = Mine.hd.heap_39 P) ∧ PySem.Challenge.rw_ae6005_01 = PySem.Challenge.rw_ae6005_01 := by
  k_fill
  exact ⟨fun _ => rfl, rfl⟩
theorem decOut_len (pf : Oct → Option (Oct × Oct)) (bad : Bool) : ∀ bs : List Oct, (decOut pf bad bs).1.length ≤ bs.length
  | [] => Nat.le_refl _
  | b :: bs => by
    simp only [decOut]
    split
    · simp
    · have := decOut_len pf bad bs; simp; omega
theorem PairAt.noNs {h : Heap} {a : Addr} {q : Oct × Oct} {m : Str → Option Value} (p : PairAt h (.ref a) q) (ns : h.Ns a m) : False := by
  obtain ⟨t, _, _, e, ht⟩ := p
  cases e
  obtain ⟨o, es, ep, ho, hd, _⟩ := ns
  rw [ht] at ho; cases ho; cases hd

section
variable {w : World} {s : Shared} {h₀ : Heap} {l tA : Addr} {mg mb : Str → Option Value} {mean : ExcName → Option Value} {A : Around} {E : Value → Shared → Prop} {outer : List Env} {vals : List Value} {items : List Oct} {n : Nat}
  {pf : Oct → Option (Oct × Oct)}

set_option maxHeartbeats 2000000 in
/-- the call of _law_pairs -/
theorem lpairsCall {Q : Value → Shared → Prop} (ok : PairOk pf) (r : Rk 14 A outer) (X : (Mine.hd.heap_39 w.params).In h₀) (T : Top view₀ (looseW view₀ loose₀) mean mg mb h₀) (nl : h₀.NoLimit) (k0 : ∀ b o, h₀.get? b = some o → s.heap.get? b = some o) (hs0 : h₀.objs.size ≤ s.heap.objs.size)
    (ff : s.heap.FunFrames h₀ outer) (hFr : ∀ x ∈ framesOf outer, ∃ m, s.heap.Ns x m) (hl : s.heap.get? l = some (listObj vals n)) (ho : Octs s.heap vals items) (hz : szOf none items ≤ 900) (hil : items.length ≤ 900) (hap : (Value.ref l :: vals).Pairwise Apart) (hfr : ∀ a ∈ l :: refs vals, h₀.get? a = none)
    (hout : ∀ x ∈ framesOf outer, x ∉ l :: refs vals) (hT : s.heap.PlainList tA ([] : List Value).toArray) (tP : tA ∉ l :: refs vals) (tF : tA ∉ framesOf outer) (t0 : h₀.get? tA = none)
    (hok : (decOut pf (foldOut none items).2 (foldOut none items).1).2 = false → ∀ s' vs t, Past (tA :: l :: refs vals) s s' → s'.heap.PlainList tA vs.toArray → PairsAt s'.heap vs (decOut pf (foldOut none items).2 (foldOut none items).1).1 → Q (.int 0 t) s')
    (hbad : (decOut pf (foldOut none items).2 (foldOut none items).1).2 = true → ∀ s' vs, PastF (tA :: l :: refs vals) (framesOf outer) s s' → s'.heap.PlainList tA vs.toArray → PairsAt s'.heap vs (decOut pf (foldOut none items).2 (foldOut none items).1).1 → Q (.int 400 303) s') :
    wpG (mdl prog₀ w) A (call (.ref 137) [.ref l, .ref tA]) Q E s := by
  refine Fn.callG (binds := [(Str.ofString "lines", .ref l), (Str.ofString "told", .ref tA)]) (fn137 w.params) (r.le (by decide)) (X.keeps k0) (nl.keeps k0) sc137 rfl (pk137 w _ _) fun h' tk F => ?_
  rw [lpmap_start] at F
  have there : ∀ b, b ∈ l :: refs vals → ∃ o, s.heap.get? b = some o := fun b hb => by
    rcases List.mem_cons.mp hb with rfl | hb
    · exact ⟨_, hl⟩
    · exact ho.there b (mem_refs.mp hb)
  have old : ∀ b o, s.heap.get? b = some o → b ≠ s.heap.objs.size := fun b o q => Nat.ne_of_lt (Heap.lt_size q)
  have Ls : s.heap.get? s.heap.objs.size = none := Heap.get?_none_of_le (Nat.le_refl _)
  generalize s.heap.objs.size = Lf at F old hs0 Ls ⊢
  have F0 : Fr h₀ Lf h' (lpMap l tA none) := ⟨F.ns, fun b o q => F.keep b o (k0 b o q), hs0⟩
  have ffo : h'.FunFrames h₀ outer := FunFrames.keepAt ff fun a o _ q => F.keep a o q
  have ff' : h'.FunFrames h₀ (lpairsEnv Lf :: outer) := fframes (h₀ := h₀) F0 ffo (lpairsEnv Lf) (fun q => nomatch (show ScopeKind.function = ScopeKind.module from q)) rfl
  have rd : Rk 13 (A.deeper (lpairsEnv Lf)) (lpairsEnv Lf :: outer) := r.deeper _
  have frs : ∀ x ∈ framesOf outer, ∃ o, s.heap.get? x = some o := fun x hx => let ⟨o, q, _⟩ := (ff.mem hx).2; ⟨o, q⟩
  have LfF : Lf ∉ framesOf outer := fun hm => by obtain ⟨o, q⟩ := frs _ hm; exact old _ o q rfl
  obtain ⟨kT, hT'⟩ := id hT
  have tL : tA ≠ Lf := old tA _ hT'
  have tF' : tA ∉ framesOf (lpairsEnv Lf :: outer) := fun hm => by
    rcases List.mem_cons.mp (show tA ∈ Lf :: framesOf outer from hm) with e | hm
    · exact tL e
    · exact tF hm
  have fin : ∀ x ∈ framesOf (lpairsEnv Lf :: outer), x ∉ l :: refs vals := fun x hx hP => by
    rcases List.mem_cons.mp (show x ∈ Lf :: framesOf outer from hx) with rfl | hx
    · obtain ⟨o, q⟩ := there _ hP
      exact old _ o q rfl
    · exact hout x hx hP
  show wpG _ _ (execs [.Try [lpFor] [.ExceptHandler (some (.Name (Str.ofString "LocalProtocolError") _)) (some (Str.ofString "error")) (hintSuite (Str.ofString "error") _ _ _) _] [] [] _, .Return (some (.Constant (.int 0) _ _)) _] (lpairsEnv Lf)) _ _ _
  refine gExecs (gTry (gExecs ?_))
  show wpG _ _ (exec (Stmt.For (forTarget lpFor) (forIter lpFor) lpTurn [] _) (lpairsEnv Lf)) _ _ _
  refine gFor (lpIterG (s := { s with heap := h', toks := tk }) (rd.le (by decide)) X T nl F0 fun h₁ tk₁ ga F₁ hg hne hn => ?_)
  refine lift (wpAny_pyIter_gen hg ?_)
  dsimp only at F₁ hg hne hn ⊢
  have k1 : ∀ b o, s.heap.get? b = some o → h₁.get? b = some o := fun b o q => F₁.keep b o (F.keep b o q)
  have none0 : ∀ b, h'.get? b = none → h₀.get? b = none := fun b q => by
    cases e : h₀.get? b with
    | none => rfl
    | some o => have := F0.keep _ _ e; rw [q] at this; cases this
  have noneS : ∀ b, h'.get? b = none → s.heap.get? b = none := fun b q => by
    cases e : s.heap.get? b with
    | none => rfl
    | some o => have := F.keep _ _ e; rw [q] at this; cases this
  have Lgn : h'.get? h'.objs.size = none := Heap.get?_none_of_le (Nat.le_refl _)
  obtain ⟨oL0, hL0⟩ := frNs F0
  have F1 : Fr h₀ Lf h₁ (lpMap l tA none) := frExt F0 F₁.keep
  have ff1 : h₁.FunFrames h₀ (lpairsEnv Lf :: outer) := FunFrames.keepAt ff' fun a o _ q => F₁.keep a o q
  have frs' : ∀ x ∈ framesOf (lpairsEnv Lf :: outer), ∃ o, h'.get? x = some o := fun x hx => let ⟨o, q, _⟩ := (ff'.mem hx).2; ⟨o, q⟩
  have ri : Rk 10 (A.deeper (lpairsEnv Lf)).in1 (lpairsEnv Lf :: outer) := (rd.le (by decide : 11 ≤ 13)).one
  have apl : ∀ v ∈ Value.ref l :: vals, ∀ a, v = .ref a → a ∈ l :: refs vals := fun v hv a e => by
    subst e
    rcases List.mem_cons.mp hv with q | hv
    · cases q; exact .head _
    · exact .tail _ (mem_refs.mpr hv)
  have sz := foldOut_len items none
  have sz2 := decOut_len pf (foldOut none items).2 (foldOut none items).1
  refine lpLoop (s := s) (P₀ := l :: refs vals) (all := (decOut pf (foldOut none items).2 (foldOut none items).1).1) (bad := (decOut pf (foldOut none items).2 (foldOut none items).1).2) (outs := (decOut pf (foldOut none items).2 (foldOut none items).1).1) (done := []) (vs := [])
    (gs := .fresh (.func decBody (decEnv h'.objs.size))) (P := h'.objs.size :: l :: refs vals) (G := []) (rd.le (by decide)) X nl tL t0 tF' Ls LfF (by omega)
    (fun hb s' vs pa hD hA hns => ?_) (fun hb e d s' s₂ gs P G vs x f hbare hos => ?_) rfl ⟨⟨hg, by simp, ?_, ?_, (fun q => nomatch q), ?_, fun b o q => F₁.keep b o (F0.keep b o q), ff1, ?_, ?_, fun x hx => List.mem_append_right _ hx⟩, ?_, ⟨_, F1⟩, hT.at fun o q => k1 _ _ q, trivial, ⟨fun b o _ q => k1 b o q, ?_, rfl⟩⟩
  · show wpG _ _ (execs [] _) _ _ _
    refine gExecsNil ?_
    show wpG _ _ (execs [] _) _ _ _
    refine gExecsNil ?_
    show wpG _ _ (execs [_] _) _ _ _
    refine gExecs (gReturn (toG ?_))
    walk1
    exact hok hb _ vs _ ⟨pa.keep, pa.bare, pa.os⟩ hD hA
  · obtain ⟨tP₂, rP, fP⟩ := x.frP
    obtain ⟨pairV, F₂⟩ := x.fr
    -- the tuples are no frames
    have rF : ∀ a ∈ refs vs, a ∉ framesOf (lpairsEnv Lf :: outer) := fun a ha hm => by
      obtain ⟨q, hq⟩ := x.pairs.there a (mem_refs.mp ha)
      rcases List.mem_cons.mp (show a ∈ Lf :: framesOf outer from hm) with rfl | hm
      · exact hq.noNs F₂.ns
      · obtain ⟨m, ns⟩ := hFr a hm
        exact hq.noNs (ns.at' fun o q => x.past.keep a o (fun hP => by
          rcases List.mem_cons.mp hP with rfl | hP
          · exact tF hm
          · exact hout a hm hP) q)
    have hold : ∀ b o, h₀.get? b = some o → b ∉ P ∧ b ∉ framesOf (lpairsEnv Lf :: outer) := fun b o q => ⟨fun hP => (by rw [x.con.P0 b hP] at q; cases q), fun hS => (by rw [(ff'.mem hS).1] at q; cases q)⟩
    unfold cameBackBy
    obtain ⟨vs', he, hz', T', ts, hT1, hTe, hTn, hTo, h3⟩ := id f.exc
    refine wpAny_bind (wpAny_field he rfl hT1 ?_)
    rw [if_neg (show ¬ ((Value.ref T' == Value.none) = true) from Bool.false_ne_true)]
    refine setFlightF f fun h₅ f₅ => ?_
    refine catchHint (h₀ := h₀) (hr := s₂.heap) (S := framesOf (lpairsEnv Lf :: outer)) (P := P) (m₀ := lpMap l tA pairV) (outer := outer) rfl rfl (pk_lpeP w Lf) rd.frames x.con.ff fP (fun _ q => q) f₅ (.inr (.inr rfl)) (fun h'' hk => X.keeps fun b o q => hk b o (hold b o q).1 (hold b o q).2 (F₂.keep b o q)) F₂.ns rfl fun h'' tk'' hk hsl => ?_
    have notIn : ∀ b o, b ∉ tA :: l :: refs vals → s.heap.get? b = some o → b ∉ P := fun b o hb q hP => by
      rcases x.new b hP with r | r
      · exact hb (.tail _ r)
      · rw [q] at r; cases r
    refine hbad hb _ vs ⟨fun b o hP hS q => hk b o (notIn b o hP q) (fun hm => ?_) (x.past.keep b o hP q), fun b o hP q => hsl b o (notIn b o hP q) (old b o q) (x.past.keep b o hP q), hbare, hos⟩ (x.told.at fun o q => hk tA o tP₂ tF' q) (x.pairs.keep fun u hu a e o q => ?_)
    · rcases List.mem_cons.mp (show b ∈ Lf :: framesOf outer from hm) with rfl | hm
      · exact old _ o q rfl
      · exact hS hm
    · subst e
      exact hk a o (rP a (mem_refs.mpr hu)) (rF a (mem_refs.mpr hu)) q
  · refine decReady (n := n) (s₀ := { s with heap := h₁, toks := tk₁, gens := s.gens.push (.fresh (.func decBody (decEnv h'.objs.size))) }) ok ri X T nl F₁.ns (Nat.le_trans hs0 (Nat.le_of_lt (Heap.lt_size hL0))) (k1 _ _ hl) (ho.keep fun v _ a _ o q => k1 _ _ q) hz ?_ ?_
    · refine List.pairwise_cons.mpr ⟨fun v hv a e q => ?_, hap⟩
      obtain ⟨o, q'⟩ := there a (apl v hv a q)
      cases e
      rw [noneS _ Lgn] at q'; cases q'
    · intro a ha
      rcases List.mem_cons.mp ha with rfl | ha
      · exact none0 _ Lgn
      · exact hfr a ha
  · intro hm
    rcases List.mem_cons.mp hm with e | hm
    · exact hne e
    · obtain ⟨o, q⟩ := there _ hm
      rw [noneS _ hn] at q; cases q
  · intro b hb
    rcases List.mem_cons.mp hb with rfl | hb
    · exact none0 _ Lgn
    · exact hfr b hb
  · intro x hx hm
    have hx' : x = tA ∨ x ∈ framesOf (lpairsEnv Lf :: outer) := by
      rcases List.mem_append.mp hx with hx | hx
      · rcases List.mem_cons.mp hx with e | hx
        · exact .inl e
        · cases hx
      · exact .inr hx
    have hpres : ∃ o, h'.get? x = some o := by
      rcases hx' with rfl | hx
      · exact ⟨_, F.keep _ _ hT'⟩
      · exact frs' x hx
    obtain ⟨o, q⟩ := hpres
    rcases List.mem_cons.mp hm with rfl | hm
    · rw [hn] at q; cases q
    rcases List.mem_cons.mp hm with rfl | hm
    · rw [Lgn] at q; cases q
    rcases hx' with rfl | hx
    · exact tP hm
    · exact fin x hx hm
  · intro x hx
    rcases List.mem_append.mp hx with hx | hx
    · rcases List.mem_cons.mp hx with rfl | hx
      · exact ⟨_, k1 _ _ hT'⟩
      · cases hx
    · obtain ⟨o, q⟩ := frs' x hx
      exact ⟨o, F₁.keep _ _ q⟩
  · intro x hx
    rcases List.mem_cons.mp hx with rfl | hx
    · exact .inr (noneS _ Lgn)
    · exact .inl hx
  · intro hb y hy
    rcases Array.mem_push.mp hy with h | rfl
    · exact hb y h
    · rfl
end
end Mine

end
section
open PySem PySem.W PySem.W.X PySem.Calls PyProof.Rows PySem.Builtin
set_option maxRecDepth 100000
namespace Mine

section
variable {w : World} {A : Around} {E : Value → Shared → Prop} {s : Shared} {h₀ : Heap} {outer : List Env} {ga : Addr} {g : Nat} {Own P : List Addr} {G : List Nat} {gs : GenState}
/-- the call of a built-in that may go on in another code -/
theorem gCallOwnA {T : String} {name : Str} {id : String} {B : Builtin} {self : Value} {rest : List Value} {Q : Value → Shared → Prop} (slot : Slot T name id) (hT : s.TypeIs self T)
    (entry : entryFor table id = some B) (args : argsOk id ⟨self :: rest, []⟩) (hne : isAsk (.builtin id ⟨self :: rest, []⟩) = false) (hd : Builtin.Bytes.decodersThatHold.contains id = false)
    (h : wpG (mdl prog₀ w) A.in1 (B ⟨self :: rest, []⟩) (fun fin s' => match fin with
      | .done f => wants Q E (.ok f) s'
      | .again c' => c'.quiet = true ∧ codeG (mdl prog₀ w) A c' (wants Q E) s') E s) : wpG (mdl prog₀ w) A (call (.builtin id) (self :: rest)) Q E s := by
  refine gCall (codeG_tree rfl ?_)
  show wpG _ A.in1 (do checkBuiltinCall id ⟨self :: rest, []⟩; again (.builtin id ⟨self :: rest, []⟩)) _ _ s
  refine gThen (slot.check _ _ _ _ _ _ _ _ hT args ?_)
  refine gPure (And.intro (plainId_quiet slot.plain _) (codeG_tree hd ?_))
  rw [Around.under_plainId slot.plain, den_mdl entry hne]
  refine gMono h (fun fin s' hf => ?_) fun _ _ x => x
  cases fin with
  | done f => exact hf
  | again c' => exact hf

/-- one turn of a list's filling -/
theorem extTurn {S : Addr} {R : Result → Shared → Prop} {it res : Value}
    (h : wpG (mdl prog₀ w) A.in1 (pyNext it) (fun r s' => match r with
      | none => R (.ok (.ret res)) s'
      | some x => wpG (mdl prog₀ w) A.in1 (updateSeq S (·.push x)) (fun _ s'' => codeG (mdl prog₀ w) A (.builtin "list.extend.loop" ⟨[.ref S, it, res], []⟩) R s'') (fun e s'' => R (.error e) s'') s') (fun e s' => R (.error e) s') s) :
    codeG (mdl prog₀ w) A (.builtin "list.extend.loop" ⟨[.ref S, it, res], []⟩) R s := by
  refine codeG_tree (show Builtin.Bytes.decodersThatHold.contains "list.extend.loop" = false by decide +kernel) ?_
  rw [Around.under_plainId PySem.F.plain_extend_loop _, den_mdl PySem.F.entry_extend_loop rfl]
  show wpG _ A.in1 (pyNext it >>= fun r => match r with
    | none => ret res
    | some x => updateSeq S (·.push x) >>= fun _ => again (.builtin "list.extend.loop" ⟨[.ref S, it, res], []⟩)) _ _ s
  refine gBind (gMono h (fun r s' h' => ?_) fun _ _ x => x)
  cases r with
  | none => exact gPure h'
  | some x => exact gBind (gMono h' (fun _ s'' h'' => gPure ⟨plainId_quiet PySem.F.plain_extend_loop _, h''⟩) fun _ _ x => x)

theorem seqPlain {l : Addr} {items : Array Value} {f : Array Value → Array Value} {M : Model} {Q : Unit → Shared → Prop} (hl : s.heap.PlainList l items) (hf : ∀ n, ∃ k, Obj.mapSeq f { cls := .type "list", data := .seq items n } = { cls := .type "list", data := .seq (f items) k }) (hz : items.size ≤ 1000) (hz' : (f items).size ≤ 1001)
    (h : ∀ h', h'.PlainList l (f items) → Heap.SameBut l s.heap h' → Q () { s with heap := h' }) : wpAny M A (updateSeq l f) Q E s := by
  obtain ⟨n, ho⟩ := hl
  obtain ⟨k, e⟩ := hf n
  refine wpAny_updateSeq (hz := by rw [sizeLine_eq]; omega) (_hz' := by rw [sizeLine_eq]; omega) ho rfl (h _ ⟨k, ?_⟩ (Heap.SameBut.update ..))
  rw [Heap.get?_update_self _ ho (by rw [e]; rfl), e]

set_option maxHeartbeats 2000000 in
/-- list(..) of a generator that tells one pair -/
theorem callList1 {q : Oct × Oct} {Q : Value → Shared → Prop} (r : Rk 6 A outer) (X : (Mine.hd.heap_39 w.params).In h₀) (nl : h₀.NoLimit) (c : Con (mdl prog₀ w) A.in1.in1.in1 h₀ outer PairOut false ga g Own gs P G s [q]) (Pt : ∀ x ∈ P, ∃ o, s.heap.get? x = some o)
    (h : ∀ s' D v, Past P s s' → s'.heap.PlainList D [v].toArray → PairAt s'.heap v q → s.heap.get? D = none → Q (.ref D) s') :
    wpG (mdl prog₀ w) A (call (.type "list") [.ref ga]) Q E s := by
  refine gCall (codeG_tree rfl ?_)
  show wpG _ A.in1 (callAny (.type "list") ⟨[.ref ga], []⟩) _ _ s
  refine gPure ⟨Code.quiet_builtin _ (by decide +kernel), codeG_tree (show Builtin.Bytes.decodersThatHold.contains "type.__call__" = false by decide +kernel) ?_⟩
  rw [Around.under_plain (weight_type_call_type "list" [.ref ga] []) rfl, den_mdl PySem.F.entry_type_call rfl]
  unfold Builtin.«type.__call__»
  simp only [List.isEmpty_nil, Bool.not_true]
  rw [if_neg (show ¬ ((Value.type "list" == Value.type "type") = true) from by decide +kernel)]
  rw [if_neg (by decide +kernel)]
  refine gBind (gOfEq (a := ()) (PySem.F.typeCall_list_1 _) ?_)
  refine gBind (gOfEq PySem.F.mro_list ?_)
  refine gBind (gOfEq PySem.F.called_list.made ?_)
  refine gBind (gPure ?_)
  refine gBind (gHolding (toG (lift (wpAny_call (code_list_new (E := fun e s' => _) _ ?_)))))
  have hDn : s.heap.get? s.heap.objs.size = none := Heap.get?_none_of_le (Nat.le_refl _)
  have k1 : ∀ b o, s.heap.get? b = some o → (s.heap.push { cls := .type "list", data := .seq #[] }).get? b = some o := fun b o q => Heap.get?_push_of_some _ q
  have hD1 : (s.heap.push { cls := .type "list", data := .seq #[] }).PlainList s.heap.objs.size #[] := ⟨_, Heap.get?_push_size _ rfl⟩
  have hT1 : ∀ tk, ({ s with heap := s.heap.push { cls := .type "list", data := .seq #[] }, toks := tk } : Shared).TypeIs (.ref s.heap.objs.size) "list" := fun _ => ⟨_, Heap.get?_push_size _ rfl, rfl⟩
  generalize s.heap.push { cls := .type "list", data := .seq #[] } = H1 at k1 hD1 hT1 ⊢
  generalize s.heap.objs.size = D at hDn hD1 hT1 ⊢
  refine gThen (wpAny_isInstance (hT1 _) PySem.F.called_list.sub ?_)
  rw [if_neg (by decide)]
  refine gBind (gHolding (gCallSpecial (T := "list") (hT1 _) PySem.F.called_list.init ?_))
  refine gCallOwnA (rest := [.ref ga]) PySem.F.called_list.init (hT1 _) PySem.F.entry_list_init (PySem.F.args_list_init_2 _ _) rfl (by decide +kernel) ?_
  show wpG _ _ (do let old ← Builtin.List.listItems (.ref D); Builtin.List.listUpdate (.ref D) (fun _ => #[]); letGo old.toList.reverse; Builtin.List.listExtendWith (.ref D) (.ref ga) .none) _ _ _
  unfold Builtin.List.listItems
  obtain ⟨n1, hD1'⟩ := id hD1
  refine gThen (wpAny_bind (wpAny_seqItems hD1' rfl (wpAny_pure ?_)))
  refine gThen (m := Builtin.List.listUpdate (.ref D) _) (seqPlain hD1 (f := fun _ => #[]) (fun n => ⟨_, rfl⟩) (by simp) (by simp) fun h₂ hD₂ hs₂ => ?_)
  refine gThen (wpAny_letGo ?_)
  unfold Builtin.List.listExtendWith
  dsimp only at hs₂ ⊢
  obtain ⟨og, hgo⟩ := isGen_there c.gen
  have k2 : ∀ b o, s.heap.get? b = some o → h₂.get? b = some o := fun b o q => (hs₂.2 b fun e => by rw [e, hDn] at q; cases q).trans (k1 b o q)
  have gaD : ga ≠ D := fun e => by rw [e, hDn] at hgo; cases hgo
  have DP : D ∉ P := fun hm => by obtain ⟨o, q⟩ := Pt D hm; rw [hDn] at q; cases q
  have hg₂ : h₂.IsGen ga g := isGen_of c.gen fun o q => k2 _ _ q
  have hTg : ({ s with heap := h₂ } : Shared).TypeIs (.ref ga) "generator" := Heap.IsGen.typeIs (s := { s with heap := h₂ }) hg₂
  refine gThen (wpAny_typeOf hTg ?_)
  have e1 : Builtin.List.listSameRef (.ref D) (.ref ga) = false := by simp [Builtin.List.listSameRef, Ne.symm gaD]
  have e2 : (Value.type "generator" == Value.type "list") = false := by decide
  have e3 : (Value.type "generator" == Value.type "tuple") = false := by decide
  simp only [e1, e2, e3, Bool.or_false, Bool.false_eq_true, if_false]
  refine gThen (lift (wpAny_pyIter_gen hg₂ ?_))
  refine gThen (wpAny_holding ?_)
  unfold Builtin.List.listLengthHint
  refine wpAny_bind (wpAny_specialOf hTg PySem.F.gen_no_len ?_)
  show wpAny _ _ (specialOf (Value.ref ga) (Str.ofString "__length_hint__") >>= _) _ _ _
  refine wpAny_bind (wpAny_specialOf hTg PySem.F.gen_no_hint ?_)
  refine wpAny_pure ?_
  show wpG _ _ (rule "list.extend.makes-room" >>= fun _ => Builtin.List.listTouch (.ref D) >>= fun _ =>
    again (.builtin "list.extend.loop" ⟨[.ref D, .ref ga, .none], []⟩)) _ _ _
  refine gThen (wpAny_rule ?_)
  refine gBind ?_
  show wpG _ _ (updateSeq D (·.push .none) >>= fun _ => updateSeq D (·.pop)) _ _ _
  refine gThen (seqPlain hD₂ (fun n => ⟨n + 1, by simp [Obj.mapSeq]⟩) (by simp) (by simp) fun h₃ hD₃ hs₃ => ?_)
  refine toG (seqPlain hD₃ (f := (·.pop)) (fun n => ⟨_, rfl⟩) (by simp) (by simp) fun h₄ hD₄ hs₄ => ?_)
  dsimp only at hs₃ hs₄ ⊢
  have hD₄ : h₄.PlainList D #[] := hD₄
  have k4 : ∀ b o, s.heap.get? b = some o → h₄.get? b = some o := fun b o q => by
    have hb : b ≠ D := fun e => by rw [e, hDn] at q; cases q
    exact (hs₄.2 b hb).trans ((hs₃.2 b hb).trans (k2 b o q))
  refine gPure ⟨plainId_quiet PySem.F.plain_extend_loop _, ?_⟩
  -- the generator's first telling
  have c₄ : Con (mdl prog₀ w) A.in1.in1.in1 h₀ outer PairOut false ga g (D :: Own) gs P G { s with heap := h₄ } [q] := by
    have cc := c.carry (h' := h₄) (tk := s.toks) (fun b o _ q => k4 b o q) (fun b o q => k4 b o (c.old b o q)) (FunFrames.keepAt c.ff fun a o _ q => k4 a o q) fun x hx => let ⟨o, q⟩ := c.there x hx; ⟨o, k4 x o q⟩
    refine { cc with own := fun x hx => ?_, there := fun x hx => ?_, fO := fun x hx => .tail _ (cc.fO x hx) }
    · rcases List.mem_cons.mp hx with rfl | hx
      · intro hm
        rcases List.mem_cons.mp hm with e | hm
        · exact gaD e.symm
        · exact DP hm
      · exact cc.own x hx
    · rcases List.mem_cons.mp hx with rfl | hx
      · obtain ⟨k, q⟩ := hD₄; exact ⟨_, q⟩
      · exact cc.there x hx
  have r2 : Rk 4 A.in1.in1 outer := (r.one).one
  refine extTurn (c₄.next r2 X nl (fun b outs' e v s'' gs' P' G' hO c' pw new' => ?_) (fun q => nomatch q) (fun q => nomatch q))
  cases e
  have hD₅ : s''.heap.PlainList D #[] := hD₄.at fun o q => pw.keep _ _ DP q
  refine toG (seqPlain hD₅ (fun n => ⟨n + 1, by simp [Obj.mapSeq]⟩) (by simp) (by simp) fun h₆ hD₆ hs₆ => ?_)
  have hD₆ : h₆.PlainList D [v].toArray := hD₆
  have DP' : D ∉ P' := fun hm => c'.own D (.head _) (.tail _ hm)
  have gaD' : ga ≠ D := gaD
  obtain ⟨hpt, htP⟩ := hO
  obtain ⟨t, t1, t2, rfl, ht⟩ := id hpt
  have tD : t ≠ D := fun e => by
    obtain ⟨k, q⟩ := hD₅
    rw [e, q] at ht
    exact absurd (show Value.type "list" = Value.type "tuple" from congrArg Obj.cls (Option.some.inj ht)) (by decide)
  have k6 : ∀ b o, b ≠ D → s''.heap.get? b = some o → h₆.get? b = some o := fun b o hb q => (hs₆.2 b hb).trans q
  have c₆ : Con (mdl prog₀ w) A.in1.in1.in1 h₀ outer PairOut false ga g (D :: Own) gs' P' G' { s'' with heap := h₆ } [] := by
    have D0 : h₀.get? D = none := by
      cases e : h₀.get? D with
      | none => rfl
      | some o => have := c.old _ _ e; rw [hDn] at this; cases this
    have DF : D ∉ framesOf outer := fun hm => by obtain ⟨o, q, _⟩ := (c.ff.mem hm).2; rw [hDn] at q; cases q
    refine c'.carry (h' := h₆) (tk := s''.toks) (fun b o hb q => k6 b o (fun e => c'.own D (.head _) (e ▸ hb)) q) (fun b o q => k6 b o (fun e => by rw [e, D0] at q; cases q) (c'.old b o q)) (FunFrames.keepAt c'.ff fun a o ha q => k6 a o (fun e => DF (e ▸ ha)) q) fun x hx => ?_
    by_cases e : x = D
    · subst e; obtain ⟨k, q⟩ := hD₆; exact ⟨_, q⟩
    · obtain ⟨o, q⟩ := c'.there x hx; exact ⟨o, k6 x o e q⟩
  refine extTurn (c₆.next r2 X nl (fun b outs' e => nomatch e) (fun _ _ s₇ pw₇ _ => ?_) (fun _ q => nomatch q))
  show wpG _ _ (if (Value.none != Value.none) = true then _ else ret (Value.ref D)) _ _ _
  rw [if_neg (by decide)]
  refine gPure ?_
  refine h s₇ D (.ref t) ⟨fun b o hP q => ?_, pw₇.bare ∘ pw.bare, pw₇.os.trans pw.os⟩ (hD₆.at fun o q => pw₇.keep _ _ DP' q) ⟨t, t1, t2, rfl, pw₇.keep _ _ (htP t rfl) (k6 _ _ tD ht)⟩ hDn
  have q'' := pw.keep b o hP (k4 b o q)
  have bP' : b ∉ P' := fun hm => by
    rcases new' b hm with r | r
    · exact hP r
    · rw [k4 b o q] at r; cases r
  exact pw₇.keep b o bP' (k6 b o (fun e => by rw [e, hDn] at q; cases q) q'')
end
end Mine

end
section
open PySem PySem.W PyProof.Rows PySem.Builtin
set_option maxRecDepth 100000
namespace Mine

theorem all256 {p : UInt8 → Bool} (h : ((List.range 256).all fun n => p (UInt8.ofNat n)) = true) (x : UInt8) : p x = true := by
  have := List.all_eq_true.mp h x.toNat (List.mem_range.mpr x.toNat_lt)
  rwa [UInt8.ofNat_toNat] at this
theorem tokSign (x : UInt8) : Rx.isTok x.toNat = signsB.contains x := by
  have := all256 (p := fun x => Rx.isTok x.toNat == signsB.contains x) (by decide +kernel) x
  exact eq_of_beq this
theorem blankB (x : UInt8) : Rx.isBlank x.toNat = isBlank x := by
  have := all256 (p := fun x => Rx.isBlank x.toNat == isBlank x) (by decide +kernel) x
  exact eq_of_beq this
theorem badV (x : UInt8) : (!Rx.isBlank x.toNat && !Rx.isV x.toNat) = badB.contains x := by
  have := all256 (p := fun x => (!Rx.isBlank x.toNat && !Rx.isV x.toNat) == badB.contains x) (by decide +kernel) x
  exact eq_of_beq this
theorem vNotBlank (x : UInt8) (h : Rx.isV x.toNat = true) : isBlank x = false := by
  have := all256 (p := fun x => !Rx.isV x.toNat || !isBlank x) (by decide +kernel) x
  rw [h] at this
  simpa using this
theorem colonNoSign : signsB.contains (58 : UInt8) = false := by decide +kernel

section
variable {b : Oct}
abbrev nats (b : Oct) : Array Nat := b.map (·.toNat)
theorem nats_size : (nats b).size = b.size := Array.size_map ..
theorem nats_get {j : Nat} (h : j < b.size) : (nats b).getD j 0 = b[j].toNat := by
  simp [nats, Array.getD, h]

theorem extract1 (b : Oct) (i : Nat) : (b.extract i (i + 1) == #[58]) = decide (b[i]? = some 58) := by
  rw [Bool.eq_iff_iff, decide_eq_true_eq, beq_iff_eq]
  constructor
  · intro h
    have h1 := congrArg (fun a : Oct => a[0]?) h
    simp only [Array.getElem?_extract] at h1
    have h1 : 0 < min (i + 1) b.size - i ∧ b[i]? = some 58 := by simpa using h1
    exact h1.2
  · intro h
    obtain ⟨hi, hx⟩ := Array.getElem?_eq_some_iff.mp h
    apply Array.ext
    · simp; omega
    · intro j h1 h2
      simp at h1 h2
      have : j = 0 := by omega
      subst this
      simp [hx]

theorem findC_spec (b : Oct) : (findC b = -1 ∧ ∀ i (h : i < b.size), b[i] ≠ 58) ∨ ∃ n, ∃ h : n < b.size, findC b = (n : Int) ∧ b[n] = 58 ∧ ∀ i (hi : i < n), b[i]'(by omega) ≠ 58 := by
  have e : Bytes.find? b #[58] 0 b.size = (List.range b.size).find? fun i => decide (b[i]? = some 58) := by
    unfold Bytes.find?
    have e1 : b.size + 1 - (0 + (#[58] : Oct).size) = b.size := by simp
    rw [e1]
    have e2 : (List.range b.size).map (· + 0) = List.range b.size := by simp
    rw [e2]
    congr 1
    funext i
    exact extract1 b i
  unfold findC
  rw [e]
  cases h : (List.range b.size).find? fun i => decide (b[i]? = some 58) with
  | none =>
    refine .inl ⟨rfl, fun i hi hx => ?_⟩
    have := List.find?_eq_none.mp h i (List.mem_range.mpr hi)
    simp [hi, hx] at this
  | some n =>
    rw [List.find?_range_eq_some] at h
    obtain ⟨h1, h2, h3⟩ := h
    have hn : n < b.size := List.mem_range.mp h2
    refine .inr ⟨n, hn, rfl, ?_, fun i hi hx => ?_⟩
    · simp [hn] at h1; exact h1
    · have := h3 i hi
      have hi' : i < b.size := by omega
      simp [hi', hx] at this

theorem picked_take (b : Oct) (n : Nat) : KBy.picked b none (some (n : Int)) = (b.toList.take n).toArray := by
  rw [KBc.picked_eq]
  simp only [Option.elim, List.drop_zero, Nat.sub_zero]
  rw [clipAt_nat]
  congr 1
  rw [List.take_eq_take_iff]
  simp
theorem picked_drop (b : Oct) (n : Nat) : KBy.picked b (some (n : Int)) none = (b.toList.drop n).toArray := by
  rw [KBc.picked_eq]
  simp only [Option.elim]
  rw [clipAt_nat]
  congr 1
  by_cases h : n ≤ b.size
  · rw [Nat.min_eq_left h, List.take_of_length_le (by simp)]
  · rw [Nat.min_eq_right (by omega), List.drop_of_length_le (by simp), List.drop_of_length_le (by simp; omega), List.take_nil]
theorem extract_list (b : Oct) (s e : Nat) : b.extract s e = ((b.toList.drop s).take (e - s)).toArray := by
  apply Array.ext'
  simp [List.extract_eq_take_drop]
theorem noneOf_list (p : UInt8 → Bool) (l : List UInt8) : noneOf p l.toArray = l.all fun c => !p c := by
  simp [noneOf]
end

/-- the blanks and tabs around are gone -/
def stripW (l : List UInt8) : List UInt8 := ((l.dropWhile isBlank).reverse.dropWhile isBlank).reverse
theorem stripL_W (l : List UInt8) : stripL l.toArray = stripW l := rfl
theorem mem_dropWhile {p : UInt8 → Bool} {x : UInt8} (hx : p x = false) : ∀ {l : List UInt8}, x ∈ l → x ∈ l.dropWhile p
  | a :: l, h => by
    rw [List.dropWhile_cons]
    split
    · rename_i hp
      rcases List.mem_cons.mp h with rfl | h
      · rw [hx] at hp; cases hp
      · exact mem_dropWhile hx h
    · exact h
theorem of_dropWhile {p : UInt8 → Bool} {x : UInt8} : ∀ {l : List UInt8}, x ∈ l.dropWhile p → x ∈ l
  | a :: l, h => by
    rw [List.dropWhile_cons] at h
    split at h
    · exact .tail _ (of_dropWhile h)
    · exact h
theorem mem_strip {x : UInt8} {l : List UInt8} (hx : isBlank x = false) (h : x ∈ l) : x ∈ stripW l :=
  List.mem_reverse.mpr (mem_dropWhile hx (List.mem_reverse.mpr (mem_dropWhile hx h)))
theorem of_strip {x : UInt8} {l : List UInt8} (h : x ∈ stripW l) : x ∈ l :=
  of_dropWhile (List.mem_reverse.mp (of_dropWhile (List.mem_reverse.mp h)))
theorem drop_all {p : UInt8 → Bool} : ∀ {u v : List UInt8}, (∀ x ∈ u, p x = true) → (u ++ v).dropWhile p = v.dropWhile p
  | [], _, _ => rfl
  | a :: u, v, h => by
    rw [List.cons_append, List.dropWhile_cons, if_pos (h a (.head _))]
    exact drop_all fun x hx => h x (.tail _ hx)
theorem drop_none {p : UInt8 → Bool} {m : List UInt8} (h : ∀ x, m.head? = some x → p x = false) : m.dropWhile p = m := by
  cases m with
  | nil => rfl
  | cons a m => rw [List.dropWhile_cons, if_neg (by rw [h a rfl]; exact Bool.false_ne_true)]
theorem strip_of {u m v : List UInt8} (hu : ∀ x ∈ u, isBlank x = true) (hv : ∀ x ∈ v, isBlank x = true) (hm : ∀ x, m.head? = some x → isBlank x = false) (hm' : ∀ x, m.getLast? = some x → isBlank x = false) : stripW (u ++ (m ++ v)) = m := by
  unfold stripW
  rw [drop_all hu]
  cases m with
  | nil =>
    have : ([] ++ v : List UInt8).dropWhile isBlank = [] := by
      rw [List.nil_append, ← List.append_nil v, drop_all hv]; rfl
    rw [this]; rfl
  | cons a m =>
    rw [drop_none (m := a :: m ++ v) (fun x hx => hm x (by simpa using hx)), List.reverse_append, drop_all (fun x hx => hv x (List.mem_reverse.mp hx)), drop_none (fun x hx => hm' x (by rwa [List.head?_reverse] at hx)), List.reverse_reverse]
end Mine

end
section
open PySem PySem.W PyProof.Rows PySem.Builtin
set_option maxRecDepth 100000
namespace Mine

/-- pairL by lists -/
theorem pairL_none_low {b : Oct} (h : findC b < 1) : pairL b = none := by
  unfold pairL
  rw [decide_eq_true h, Bool.true_or, if_pos rfl]
theorem pairL_at {b : Oct} {n : Nat} (h : findC b = (n : Int)) (h1 : 1 ≤ n) :
    pairL b = if ((b.toList.take n).all fun c => signsB.contains c) = false then none
      else if ((stripW (b.toList.drop (n + 1))).all fun c => !badB.contains c) = false then none else some ((b.toList.take n).toArray, (stripW (b.toList.drop (n + 1))).toArray) := by
  unfold pairL
  rw [h]
  have e1 : decide ((n : Int) < 1) = false := decide_eq_false (by omega)
  have e2 : ((n : Int) + 1) = ((n + 1 : Nat) : Int) := by push_cast; rfl
  rw [e1, Bool.false_or, picked_take, e2, picked_drop, stripL_W, noneOf_list, noneOf_list]
  simp only [Bool.not_not]
  cases h1 : (b.toList.take n).all fun c => signsB.contains c with
  | true =>
    cases h2 : (stripW (b.toList.drop (n + 1))).all fun c => !badB.contains c with
    | true => rfl
    | false => rfl
  | false => rfl

section
variable {b : Oct}
theorem take_get {n i : Nat} (hi : i < n) (hs : i < b.size) : b[i] ∈ b.toList.take n := by
  rw [List.mem_take_iff_getElem]
  exact ⟨i, by simp; omega, by simp⟩
theorem drop_get {n i : Nat} (hi : n ≤ i) (hs : i < b.size) : b[i] ∈ b.toList.drop n := by
  rw [List.mem_drop_iff_getElem]
  exact ⟨i - n, by simp; omega, by simp; congr 1; omega⟩
theorem of_take {n : Nat} {x : UInt8} (h : x ∈ b.toList.take n) : ∃ i, ∃ hi : i < b.size, i < n ∧ b[i] = x := by
  obtain ⟨i, hi, e⟩ := List.mem_take_iff_getElem.mp h
  simp at hi
  exact ⟨i, by omega, by omega, by simpa using e⟩
theorem of_drop {n : Nat} {x : UInt8} (h : x ∈ b.toList.drop n) : ∃ i, ∃ hi : i < b.size, n ≤ i ∧ b[i] = x := by
  obtain ⟨i, hi, e⟩ := List.mem_drop_iff_getElem.mp h
  simp at hi
  exact ⟨n + i, by omega, by omega, by simpa using e⟩
/-- a sign ahead of the colon that is no token refuses the line -/
theorem pairL_bad_name {i : Nat} (hi : i < b.size) (hno : signsB.contains b[i] = false) (hfirst : ∀ j (hj : j ≤ i), b[j]'(by omega) ≠ 58) : pairL b = none := by
  rcases findC_spec b with ⟨e, _⟩ | ⟨n, hn, e, hc, hf⟩
  · exact pairL_none_low (by omega)
  · have hlt : i < n := by
      rcases Nat.lt_or_ge i n with h | h
      · exact h
      · exact absurd hc (hfirst n h)
    rw [pairL_at e (by omega)]
    rw [if_pos]
    rw [List.all_eq_false]
    exact ⟨b[i], take_get hlt hi, by rw [hno]; decide⟩

theorem pairOk_no (b : Oct) (h : Rx.NoHdr (nats b)) : pairL b = none := by
  unfold Rx.NoHdr at h
  have hsz : (nats b).size = b.size := nats_size
  rw [hsz] at h
  have toks : ∀ j, j < Rx.span Rx.isTok (nats b) b.size 0 → ∃ hj : j < b.size, signsB.contains b[j] = true := fun j hj => by
    have hl := Rx.span_le Rx.isTok (nats b) b.size 0
    have hjs : j < b.size := by omega
    have := Rx.span_all hj
    rw [Nat.zero_add, nats_get hjs, tokSign] at this
    exact ⟨hjs, this⟩
  have notC : ∀ j (hj : j < Rx.span Rx.isTok (nats b) b.size 0) (hs : j < b.size), b[j] ≠ 58 := fun j hj hs e => by
    obtain ⟨_, h'⟩ := toks j hj
    rw [e, colonNoSign] at h'; cases h'
  have stop : Rx.span Rx.isTok (nats b) b.size 0 < b.size → ∃ hs : Rx.span Rx.isTok (nats b) b.size 0 < b.size, signsB.contains b[Rx.span Rx.isTok (nats b) b.size 0] = false := fun hlt => by
    have := Rx.span_stop hlt
    rw [Nat.zero_add, nats_get hlt, tokSign] at this
    exact ⟨hlt, this⟩
  generalize Rx.span Rx.isTok (nats b) b.size 0 = n at h toks notC stop
  by_cases hn : n < b.size
  · obtain ⟨_, hstop⟩ := stop hn
    by_cases hc : b[n] = 58
    · -- the colon stands behind the tokens
      rcases findC_spec b with ⟨e, _⟩ | ⟨m, hm, e, hcm, hf⟩
      · exact pairL_none_low (by omega)
      have hmn : m = n := by
        rcases Nat.lt_trichotomy m n with q | q | q
        · exact absurd hcm (notC m q hm)
        · exact q
        · exact absurd hc (hf n q)
      subst hmn
      rcases h with h | h | h | ⟨j, h1, h2, h3, h4⟩
      · exact pairL_none_low (by omega)
      · omega
      · rw [nats_get hn, hc] at h
        exact absurd rfl h
      · by_cases h0 : m = 0
        · exact pairL_none_low (by omega)
        rw [pairL_at e (by omega)]
        split
        · rfl
        rw [if_pos]
        rw [List.all_eq_false]
        rw [nats_get h2] at h3 h4
        have hbad : badB.contains b[j] = true := by rw [← badV, h3, h4]; rfl
        rw [blankB] at h3
        exact ⟨b[j], mem_strip h3 (drop_get (by omega) h2), by rw [hbad]; decide⟩
    · exact pairL_bad_name hn hstop fun j hj => by
        rcases Nat.lt_or_eq_of_le hj with q | q
        · exact notC j q (by omega)
        · subst q; exact hc
  · rcases findC_spec b with ⟨e, _⟩ | ⟨m, hm, e, hcm, hf⟩
    · exact pairL_none_low (by omega)
    · exact absurd hcm (notC m (by omega) hm)

theorem pairOk_yes (b : Oct) (n st e : Nat) (H : Rx.Hdr (nats b) n st e) : pairL b = some (b.extract 0 n, b.extract st e) := by
  have hsz : (nats b).size = b.size := nats_size
  have htok := H.tok
  have hlt := H.lt
  have hes := H.es
  rw [hsz] at htok hlt hes
  have hcol := H.colon
  rw [nats_get hlt] at hcol
  have hc58 : b[n] = 58 := by
    have : b[n].toNat = (58 : UInt8).toNat := hcol
    exact UInt8.toNat_inj.mp this
  have toks : ∀ j (hj : j < n) (hs : j < b.size), signsB.contains b[j] = true := fun j hj hs => by
    have := Rx.span_all (f := Rx.isTok) (t := nats b) (n := b.size) (p := 0) (j := j) (by rw [htok]; exact hj)
    rwa [Nat.zero_add, nats_get hs, tokSign] at this
  have hfind : findC b = (n : Int) := by
    rcases findC_spec b with ⟨_, h'⟩ | ⟨m, hm, e', hcm, hf⟩
    · exact absurd hc58 (h' n hlt)
    · have hmn : m = n := by
        rcases Nat.lt_trichotomy m n with q | q | q
        · have := toks m q hm
          rw [hcm, colonNoSign] at this; cases this
        · exact q
        · exact absurd hc58 (hf n q)
      rw [e', hmn]
  have hns := H.ns
  have hse := H.se
  rw [pairL_at hfind H.pos]
  have e1 : ((b.toList.take n).all fun c => signsB.contains c) = true := by
    rw [List.all_eq_true]
    intro x hx
    obtain ⟨i, hi, hin, rfl⟩ := of_take hx
    exact toks i hin hi
  have e2 : ((stripW (b.toList.drop (n + 1))).all fun c => !badB.contains c) = true := by
    rw [List.all_eq_true]
    intro x hx
    obtain ⟨i, hi, hin, rfl⟩ := of_drop (of_strip hx)
    have := H.good i (by omega) (by omega)
    rw [nats_get hi] at this
    rw [← badV]
    rcases this with h | h <;> rw [h] <;> simp
  rw [e1, e2]
  rw [if_neg (by decide), if_neg (by decide)]
  have eS : stripW (b.toList.drop (n + 1)) = (b.toList.drop st).take (e - st) := by
    have split : b.toList.drop (n + 1) = (b.toList.drop (n + 1)).take (st - (n + 1)) ++ ((b.toList.drop st).take (e - st) ++ b.toList.drop e) := by
      have h1 : (b.toList.drop st).take (e - st) ++ b.toList.drop e = b.toList.drop st := by
        have := List.take_append_drop (e - st) (b.toList.drop st)
        rwa [List.drop_drop, show st + (e - st) = e from by omega] at this
      rw [h1]
      have := List.take_append_drop (st - (n + 1)) (b.toList.drop (n + 1))
      rw [List.drop_drop, show n + 1 + (st - (n + 1)) = st from by omega] at this
      exact this.symm
    rw [split]
    refine strip_of (fun x hx => ?_) (fun x hx => ?_) (fun x hx => ?_) (fun x hx => ?_)
    · obtain ⟨k, hk, rfl⟩ := List.mem_iff_getElem.mp hx
      simp at hk
      have hj : n + 1 + k < b.size := by omega
      have := H.lead (n + 1 + k) (by omega) (by omega)
      rw [nats_get hj, blankB] at this
      simpa using this
    · obtain ⟨i, hi, hin, rfl⟩ := of_drop hx
      have := H.tail i hin (by omega)
      rwa [nats_get hi, blankB] at this
    · have hlt2 : st < e := by
        rcases Nat.lt_or_ge st e with q | q
        · exact q
        · rw [show e - st = 0 from by omega] at hx; simp at hx
      have hV := (H.ends hlt2).1
      rw [nats_get (by omega : st < b.size)] at hV
      have hx0 : b[st]'(by omega) = x := by
        rw [List.head?_take, if_neg (by omega), List.head?_drop] at hx
        simp [show st < b.size from by omega] at hx
        exact hx
      rw [← hx0]; exact vNotBlank _ hV
    · have hlt2 : st < e := by
        rcases Nat.lt_or_ge st e with q | q
        · exact q
        · rw [show e - st = 0 from by omega] at hx; simp at hx
      have hV := (H.ends hlt2).2
      rw [nats_get (by omega : e - 1 < b.size)] at hV
      have hx0 : b[e - 1]'(by omega) = x := by
        rw [List.getLast?_eq_getElem?] at hx
        simp only [List.length_take, List.length_drop, Array.length_toList] at hx
        rw [show min (e - st) (b.size - st) = e - st from by omega, List.getElem?_take_of_lt (by omega), List.getElem?_drop, show st + (e - st - 1) = e - 1 from by omega] at hx
        simp [show e - 1 < b.size from by omega] at hx
        exact hx
      rw [← hx0]; exact vNotBlank _ hV
  rw [eS, extract_list, extract_list]
  simp
end
/-- the law's pair says what the pattern says -/
theorem pairOk : PairOk pairL := ⟨fun b _ h => pairOk_no b h, fun b n st e _ h => pairOk_yes b n st e h⟩
end Mine

end
section
open PySem PySem.W PyProof.Rows PySem.Builtin
set_option maxRecDepth 100000
namespace Mine
theorem spanTake (b : Oct) : ∀ k p, p + k = b.size → Rx.span Rx.isBlank (nats b) k p = ((b.toList.drop p).takeWhile isBlank).length
  | 0, p, h => by
    rw [List.drop_of_length_le (by simp; omega)]
    rfl
  | k + 1, p, h => by
    have hp : p < b.size := by omega
    have hp' : p < b.toList.length := by simp; omega
    unfold Rx.span
    rw [nats_get hp, blankB, List.drop_eq_getElem_cons hp', List.takeWhile_cons, spanTake b k (p + 1) (by omega)]
    have e : b.toList[p] = b[p] := by simp
    rw [e]
    split <;> simp
theorem leadTake (b : Oct) : leadN b = (b.toList.takeWhile isBlank).length := by
  unfold leadN Rx.lead
  rw [show (b.map (·.toNat)).size = b.size from nats_size]
  have := spanTake b b.size 0 (by omega)
  rwa [List.drop_zero] at this
theorem dropW {p : UInt8 → Bool} : ∀ l : List UInt8, l.dropWhile p = l.drop (l.takeWhile p).length
  | [] => rfl
  | a :: l => by
    rw [List.dropWhile_cons, List.takeWhile_cons]
    split
    · rw [List.length_cons, List.drop_succ_cons]; exact dropW l
    · rfl
theorem glue_eq (c b : Oct) : glueJ c b = glue c b := by
  unfold glueJ glue restOf
  rw [leadTake, picked_drop]
  unfold lstripL
  rw [dropW]
theorem starts_eq (b : Oct) : startsBlank b = decide (leadN b ≠ 0) := by
  unfold startsBlank
  rw [show KBy.picked b none (some 1) = (b.toList.take 1).toArray from picked_take b 1, leadTake]
  cases b.toList with
  | nil => rfl
  | cons x l =>
    rw [List.takeWhile_cons]
    have : isBlank x = ([x] == [32] || [x] == ([9] : List UInt8)) := by
      show (#[32, 9] : Oct).contains x = _
      simp
      rfl
    show ([x] == [32] || [x] == [9]) = _
    rw [← this]
    cases isBlank x <;> simp

theorem joinFold : ∀ (rest : List Oct) (front : List Oct) (c : Oct), joinGo (front ++ [c]) rest = some (front ++ (foldOut (some c) rest).1) ∧ (foldOut (some c) rest).2 = false
  | [], front, c => ⟨rfl, rfl⟩
  | b :: bs, front, c => by
    simp only [joinGo, foldOut]
    rw [starts_eq]
    by_cases h : leadN b = 0
    · rw [if_neg (by simp [h]), if_pos h]
      obtain ⟨h1, h2⟩ := joinFold bs (front ++ [c]) b
      refine ⟨?_, h2⟩
      rw [h1]; simp
    · rw [if_pos (by simp [h]), if_neg h, List.getLast?_append, List.getLast?_singleton]
      simp only [Option.some_or, List.dropLast_concat]
      rw [glue_eq]
      exact joinFold bs front (glue c b)
theorem joinNone {items : List Oct} (h : (foldOut none items).2 = true) : joinGo [] items = none ∧ (foldOut none items).1 = [] := by
  cases items with
  | nil => cases h
  | cons b bs =>
    simp only [foldOut] at h ⊢
    simp only [joinGo]
    rw [starts_eq]
    by_cases hb : leadN b = 0
    · rw [if_pos hb, (joinFold bs [] b).2] at h; cases h
    · rw [if_neg hb, if_pos (by simp [hb])]
      exact ⟨rfl, rfl⟩
theorem joinSome {items : List Oct} (h : (foldOut none items).2 = false) : joinGo [] items = some (foldOut none items).1 := by
  cases items with
  | nil => rfl
  | cons b bs =>
    simp only [foldOut] at h ⊢
    simp only [joinGo]
    rw [starts_eq]
    by_cases hb : leadN b = 0
    · rw [if_pos hb, if_neg (by simp [hb])]
      exact (joinFold bs [] b).1
    · rw [if_neg hb] at h; cases h
end Mine

end
section
open PySem PySem.W PySem.W.X PySem.Calls PyProof.Rows PySem.Builtin
set_option maxRecDepth 100000
namespace Mine
theorem warm30 : (∀ P, Mine.hd.heap_39 P = Mine.hd.heap_39 P) ∧ PySem.Challenge.rw_ae6005_01 = PySem.Challenge.rw_ae6005_01 := by
  k_fill
  exact ⟨fun _ => rfl, rfl⟩
/-- the written lines -/
def menuB : Array Oct := #[#[65, 58, 32, 98], #[65, 99, 99, 101, 112, 116, 58, 9, 32, 32, 116, 101, 120, 116, 47, 104, 116, 109, 108, 32], #[120, 45, 121, 58], #[97, 58, 1, 127, 255, 32, 99], #[65, 58, 32, 98, 58, 99], #[66, 58, 32, 32, 100, 9, 101, 32, 32, 9], #[67, 58, 99], #[], #[32, 102, 111, 108, 100, 101, 100], #[9, 9, 116, 97, 98, 98, 101, 100, 32], #[32], #[32, 32, 58, 32, 120], #[110, 111, 32, 102, 105, 101, 108, 100], #[65, 32, 58, 32, 98], #[58, 32, 98], #[65, 58, 32, 98, 11, 99]]
abbrev menuAt (i : Nat) : Oct := menuB.getD i #[]
noncomputable def linesObj (P : Params) : Array Value := seqIn (objAt P 113)
def bTok : Option Value → Tok
  | some (.bytes _ t) => t
  | _ => 0
theorem k113 (P : Params) : (Mine.hd.heap_39 P).lookup 113 = some (objAt P 113) := by kernel_rfl
theorem lines_cls (P : Params) : (objAt P 113).cls = .type "list" := by kernel_rfl
theorem lines_data (P : Params) : (objAt P 113).data = .seq (linesObj P) 0 := by kernel_rfl
theorem line_0 (P : Params) : (linesObj P)[0]? = some (.bytes (menuAt 0) (bTok (linesObj P)[0]?)) := by kernel_rfl
theorem line_1 (P : Params) : (linesObj P)[1]? = some (.bytes (menuAt 1) (bTok (linesObj P)[1]?)) := by kernel_rfl
theorem line_2 (P : Params) : (linesObj P)[2]? = some (.bytes (menuAt 2) (bTok (linesObj P)[2]?)) := by kernel_rfl
theorem line_3 (P : Params) : (linesObj P)[3]? = some (.bytes (menuAt 3) (bTok (linesObj P)[3]?)) := by kernel_rfl
theorem line_4 (P : Params) : (linesObj P)[4]? = some (.bytes (menuAt 4) (bTok (linesObj P)[4]?)) := by kernel_rfl
theorem line_5 (P : Params) : (linesObj P)[5]? = some (.bytes (menuAt 5) (bTok (linesObj P)[5]?)) := by kernel_rfl
theorem line_6 (P : Params) : (linesObj P)[6]? = some (.bytes (menuAt 6) (bTok (linesObj P)[6]?)) := by kernel_rfl
theorem line_7 (P : Params) : (linesObj P)[7]? = some (.bytes (menuAt 7) (bTok (linesObj P)[7]?)) := by kernel_rfl
theorem line_8 (P : Params) : (linesObj P)[8]? = some (.bytes (menuAt 8) (bTok (linesObj P)[8]?)) := by kernel_rfl
theorem line_9 (P : Params) : (linesObj P)[9]? = some (.bytes (menuAt 9) (bTok (linesObj P)[9]?)) := by kernel_rfl
theorem line_10 (P : Params) : (linesObj P)[10]? = some (.bytes (menuAt 10) (bTok (linesObj P)[10]?)) := by kernel_rfl
theorem line_11 (P : Params) : (linesObj P)[11]? = some (.bytes (menuAt 11) (bTok (linesObj P)[11]?)) := by kernel_rfl
theorem line_12 (P : Params) : (linesObj P)[12]? = some (.bytes (menuAt 12) (bTok (linesObj P)[12]?)) := by kernel_rfl
theorem line_13 (P : Params) : (linesObj P)[13]? = some (.bytes (menuAt 13) (bTok (linesObj P)[13]?)) := by kernel_rfl
theorem line_14 (P : Params) : (linesObj P)[14]? = some (.bytes (menuAt 14) (bTok (linesObj P)[14]?)) := by kernel_rfl
theorem line_15 (P : Params) : (linesObj P)[15]? = some (.bytes (menuAt 15) (bTok (linesObj P)[15]?)) := by kernel_rfl
theorem line_at (P : Params) : ∀ i : Nat, i < 16 → (linesObj P)[i]? = some (.bytes (menuAt i) (bTok (linesObj P)[i]?))
  | 0, _ => line_0 P
  | 1, _ => line_1 P
  | 2, _ => line_2 P
  | 3, _ => line_3 P
  | 4, _ => line_4 P
  | 5, _ => line_5 P
  | 6, _ => line_6 P
  | 7, _ => line_7 P
  | 8, _ => line_8 P
  | 9, _ => line_9 P
  | 10, _ => line_10 P
  | 11, _ => line_11 P
  | 12, _ => line_12 P
  | 13, _ => line_13 P
  | 14, _ => line_14 P
  | 15, _ => line_15 P
  | i + 16, h => by omega
theorem menu_size : ∀ i : Nat, (menuAt i).size ≤ 20 := fun i => by
  by_cases h : i < 16
  · have := List.all_eq_true.mp (show ((List.range 16).all fun i => decide ((menuAt i).size ≤ 20)) = true by decide +kernel) i (List.mem_range.mpr h)
    exact of_decide_eq_true this
  · have : menuAt i = #[] := by
      unfold menuAt
      rw [Array.getD_eq_getD_getElem?, Array.getElem?_eq_none (by show 16 ≤ i; omega)]
      rfl
    rw [this]; decide
section
variable {w : World} {s : Shared} {A : Around} {E : Value → Shared → Prop}
theorem menuItem {value slice : Expr} {k : Int} {u : Tok} {Q : Value → Shared → Prop} (X : (Mine.hd.heap_39 w.params).In s.heap) (h0 : 0 ≤ k) (h1 : k < 16) (h : ∀ t, Q (.bytes (menuAt k.toNat) t) s)
    (hs : subscripted slice false (.ref 113) (.int k u) = operate [.ref 113, .int k u] (getItem (.ref 113) (.int k u)) := by with_unfolding_all rfl) :
    wpAny (model prog₀ w) A (subscriptTail value slice (.ref 113) (.int k u)) Q E s :=
  item_listR (items := linesObj w.params) ⟨_, X _ _ (k113 _), lines_cls _, 0, lines_data _⟩ h0 (by omega) (line_at w.params k.toNat (by omega)) (h _) hs
theorem fmod_lo {f d : Int} (hd : 0 < d) : 0 ≤ f.fmod d := Int.fmod_nonneg_of_pos f hd
theorem fmod_hi {f d : Int} (hd : 0 < d) : f.fmod d < d := Int.fmod_lt_of_pos f hd
end
/-- the numbers of the script -/
def absL (ns : List Int) : List Int := (ns.take 7).map fun k => if k < 0 then -k else k
theorem absL_nonneg {ns : List Int} : ∀ k ∈ absL ns, 0 ≤ k := fun k hk => by
  obtain ⟨j, _, rfl⟩ := List.mem_map.mp hk
  split <;> omega
theorem absL_len (ns : List Int) : (absL ns).length ≤ 7 := by
  unfold absL
  simp
  omega
end Mine

end
section
open PySem PySem.W PySem.W.X PySem.Calls PyProof.Rows PySem.Builtin
set_option maxRecDepth 100000
namespace Mine
theorem warm31 : (∀ P, Mine.hd.heap_39 P = Mine.hd.heap_39 P) ∧ PySem.Challenge.rw_ae6005_01 = PySem.Challenge.rw_ae6005_01 := by
  k_fill
  exact ⟨fun _ => rfl, rfl⟩
section
variable {w : World} {s : Shared} {h₀ : Heap} {L sc : Addr} {mg mb : Str → Option Value} {mean : ExcName → Option Value} {E : Value → Shared → Prop} {outer : List Env} {vs : List Value} {ns : List Int}
/-- the law's names behind its head -/
abbrev lawM1 (m₀ : Str → Option Value) (p f n : Value) : Str → Option Value := fun y =>
  if y = Str.ofString "plain" then some p else if y = Str.ofString "first" then some f else if y = Str.ofString "numbers" then some n else m₀ y
abbrev firstOf (ns : List Int) : Int := (absL ns).headD 0
set_option maxHeartbeats 8000000 in
theorem lawHead {Q : Flow → Shared → Prop} (KX : (Mine.hd.heap_39 w.params).In h₀) (T : Top view₀ (looseW view₀ loose₀) mean mg mb h₀) (F' : Fr h₀ L s.heap (fun y => if y = Str.ofString "script" then some (.ref sc) else none))
    (hl : h₀.IsList sc vs.toArray) (hI : IntsAre vs ns) (hlay : (PyData.list (ns.map PyData.int)).layable0 = true) (hn : ns.length ≤ 63)
    (h : ∀ h' tk m₀ D ys (t₁ t₂ : Tok), Fr h₀ L h' (lawM1 m₀ (.bytes (menuAt ((firstOf ns).fmod 7).toNat) t₂) (.int (firstOf ns) t₁) (.ref D)) → h'.IsList D ys.toArray → IntsAre ys (absL ns) → h₀.get? D = none → D ≠ L → Q .next { s with heap := h', toks := tk }) :
    wpAny (model prog₀ w) (A₉ outer) (execs [lawBody.getD 0 (.Pass default), lawBody.getD 1 (.Pass default), lawBody.getD 2 (.Pass default)] (lawEnv L)) Q E s := by
  have N' : News h₀ L s.heap [] := fun p hp => nomatch hp
  show wpAny _ _ (execs [Stmt.Assign _ _ _, Stmt.Assign _ _ _, Stmt.Assign _ _ _] (envOf _ { kind := _, names := _, isGenerator := _, isCoroutine := _, more := _ } _ _ _)) _ _ _
  repeat' (first | walk1 | (dsimp only; walk1))
  · rename Fr _ _ _ _ => F9
    rename News _ _ _ _ => N9
    rename decide _ = true => a
    rename IntsAre _ (List.map _ _) => hI8
    have e : absL ns = [] := of_decide_eq_true a
    have ef : firstOf ns = 0 := by unfold firstOf; rw [e]; rfl
    have n0 := (N9 _ (.tail _ (.head _))).2
    rw [ef] at h
    exact h _ _ _ _ _ _ _ F9 ⟨_, (N9 _ (.tail _ (.head _))).1, rfl, _, rfl⟩ hI8 n0.2 n0.1
  · rename Fr _ _ _ _ => F9
    rename News _ _ _ _ => N9
    rename decide _ = false => a
    rename IntsAre _ (List.map _ _) => hI8
    have e : absL ns ≠ [] := of_decide_eq_false a
    have hI9 : IntsAre _ (absL ns) := hI8
    obtain ⟨t, ht⟩ := hI9.get 0 (firstOf ns) (by
        unfold firstOf
        cases e' : absL ns with
        | nil => exact absurd e' e
        | cons k r => rfl)
    refine item_list (k := 0) (x := .int (firstOf ns) t) ⟨_, (N9 _ (.tail _ (.head _))).1, rfl, _, rfl⟩ (by decide) (by decide) (by simpa using ht) ?_
    dsimp only
    generalize hff : firstOf ns = f at *
    repeat' (first | walk1 | (dsimp only; walk1))
    rename Fr _ _ _ _ => F9
    rename News _ _ _ _ => N9
    have n0 := (N9 _ (.tail _ (.head _))).2
    have hlo : 0 ≤ f.fmod 7 := fmod_lo (by decide)
    have hhi : f.fmod 7 < 7 := fmod_hi (by decide)
    refine menuItem (KX.keeps F9.keep) hlo (by omega) fun t₂ => ?_
    refine stN F9 N9 fun h8 F8 N8 => ?_
    refine wpAny_pure ?_
    exact h _ _ _ _ _ _ _ F8 ⟨_, (N8 _ (.tail _ (.head _))).1, rfl, _, rfl⟩ hI8 n0.2 n0.1
end
end Mine

end
section
open PySem PySem.W PySem.W.X PySem.Calls PyProof.Rows PySem.Builtin
set_option maxRecDepth 100000
namespace Mine
theorem warm32 : (∀ P, Mine.hd.heap_39 P = Mine.hd.heap_39 P) ∧ PySem.Challenge.rw_ae6005_01 = PySem.Challenge.rw_ae6005_01 := by
  k_fill
  exact ⟨fun _ => rfl, rfl⟩
section
variable {M : Model} {A : Around} {E : Value → Shared → Prop} {s : Shared} {env : Env}
theorem gCompareG {l op r pos whole} {Q : Bool → Shared → Prop}
    (h : wpG M A (eval l env) (fun a s₁ => wpG M A (eval r env) (fun b s₂ => wpAny M A (compareOp op a b)
      (fun c s₃ => wpAny M A (truthy c) Q E s₃) E s₂) E s₁) E s)
    (hm : behindInMarks op r = false := by with_unfolding_all rfl) : wpG M A (isTrue (.Compare l [op] [r] pos) env whole) Q E s := fun Γ p hΓ hd hb => by
  simp only [isTrue_Compare1, markedBehindIn_of_false hm, Sem.wp_bind', Sem.wp_holding, Sem.wp_cmd_standAt, Sem.wp_operate]
  exact Sem.wp_mono M Γ _ (fun a p₁ s₁ h₁ => Sem.wp_mono M Γ _ (fun b _ s₂ h₂ => Sem.wp_mono M Γ _ (fun c _ s₃ h₃ => h₃ Γ _ hΓ)
    (fun _ _ _ h' => h') _ _ (h₂ Γ _ hΓ)) (fun _ _ _ h' => h') _ _ (h₁ Γ p₁ hΓ hd hb)) (fun _ _ _ h' => h') _ _ (h Γ _ hΓ hd hb)
theorem gList1 {e : Expr} {pos : Pos} {Q : Value → Shared → Prop} (hs : backTo pos (starEach [e] env) = [(false, eval e env)])
    (h : wpG M A (eval e env) (fun v s₁ => Q (.ref s₁.heap.objs.size) { s₁ with heap := s₁.heap.push { cls := .type "list", data := .seq [v].toArray } }) E s) : wpG M A (eval (.List [e] pos) env) Q E s := by
  rw [arm_eval_List, hs]
  refine gBind (gAt (gBind ?_))
  show wpG M A (do let v ← eval e env; let here ← (pure [v] : Sem (List Value)); return here ++ (← holding here (spliced []))) _ _ s
  refine gBind (gMono h (fun v s₁ h₁ => gBind (gPure (gBind (gHolding (gMono (toG (wpAny_pure (Q := fun vs s' => vs = [] ∧ s' = s₁) ⟨rfl, rfl⟩)) ?_ fun _ _ x => x))))) fun _ _ x => x)
  rintro vs s' ⟨rfl, rfl⟩
  exact gPure (toG (wpAny_newObj_type h₁ (by size_fits)))
theorem gCallFn1 {f : Str} {p pos : Pos} {e : Expr} {a : Addr} {o : Obj} {fd : FuncData} {Q : Value → Shared → Prop} (hs : starEach [e] env = [(false, eval e env)])
    (h : wpAny M A (eval (.Name f p) env) (fun v s₁ => v = .ref a ∧ wpAny M A (eval e env) (fun x s₂ => (s₂.heap.get? a = some o ∧ o.data = .func fd) ∧ wpG M A (call (.ref a) [x]) Q E s₂) E s₁) E s) :
    wpG M A (eval (.Call (.Name f p) [e] [] pos) env) Q E s := by
  refine gCallName1 hs (wpAny_mono h (fun v s₁ h₁ => ?_) fun _ _ x => x)
  obtain ⟨rfl, h₁⟩ := h₁
  refine gCallWithFn (Calls.evalArgs_plain (Calls.spliced_cons (wpAny_mono h₁ (fun x s₂ h₂ => Calls.spliced_nil h₂) fun _ _ x => x)))
end
theorem menu_plain (i : Nat) (hi : i < 7) : leadN (menuAt i) = 0 ∧ ∃ q, pairL (menuAt i) = some q := by
  have all : ∀ i, i < 7 → leadN (menuAt i) = 0 ∧ (pairL (menuAt i)).isSome = true := by decide +kernel
  exact ⟨(all i hi).1, Option.isSome_iff_exists.mp (all i hi).2⟩
end Mine

end
section
open PySem PySem.W PySem.W.X PySem.Calls PyProof.Rows PySem.Builtin
set_option maxRecDepth 100000
namespace Mine
theorem warm33 : (∀ P, Mine.hd.heap_39 P = Mine.hd.heap_39 P) ∧ PySem.Challenge.rw_ae6005_01 = PySem.Challenge.rw_ae6005_01 := by
  k_fill
  exact ⟨fun _ => rfl, rfl⟩
def lawAt (n : Nat) : Stmt := lawBody.getD n (.Pass default)
theorem new_none {h₀ h : Heap} {L x : Addr} (hL : x ≠ L) (h0 : h₀.get? x = none) (l1 : ∀ p ∈ full h₀ L h, p.1 < x) : h.get? x = none := by
  cases e : h.get? x with
  | none => rfl
  | some o => exact absurd (l1 _ (mem_full e hL h0)) (Nat.lt_irrefl _)
theorem lawFrames {h₀ h : Heap} {L : Addr} {m : Str → Option Value} (F : Fr h₀ L h m) : h.FunFrames h₀ [lawEnv L] := fframes (outer := []) F trivial (lawEnv L) (fun q => nomatch (show ScopeKind.function = ScopeKind.module from q)) rfl
section
variable {w : World} {s : Shared} {h₀ : Heap} {L : Addr} {mg mb : Str → Option Value} {mean : ExcName → Option Value} {A : Around} {E : Value → Shared → Prop} {m : Str → Option Value} {t : Tok} {b : Oct} {q : Oct × Oct}
set_option maxHeartbeats 8000000 in
theorem plainLeft {Q : Value → Shared → Prop} (r : Rk 14 A [lawEnv L]) (X : (Mine.hd.heap_39 w.params).In h₀) (T : Top view₀ (looseW view₀ loose₀) mean mg mb h₀) (nl : h₀.NoLimit) (F : Fr h₀ L s.heap m)
    (hz : b.size ≤ 100) (hlead : leadN b = 0) (hq : pairL b = some q) (hm : m (Str.ofString "plain") = some (.bytes b t))
    (h : ∀ s' D v, Past [L] s s' → Fr h₀ L s'.heap m → s'.heap.PlainList D [v].toArray → PairAt s'.heap v q → Q (.ref D) s') : wpG (mdl prog₀ w) A (eval (cmpLeft (ifTestOf (lawAt 3))) (lawEnv L)) Q E s := by
  have N := news_full h₀ L s.heap
  have FK := F.keep
  have Fa := F.above
  show wpG _ _ (eval (Expr.Call (Expr.Name _ _) [Expr.Call _ _ _ _] [] _) (envOf _ { kind := _, names := _, isGenerator := _, isCoroutine := _, more := _ } _ _ _)) _ _ _
  refine gCallName1 rfl ?_
  repeat' (first | walk1 | (dsimp only; walk1))
  refine gCallWithOwn rfl rfl (Calls.evalArgs_plain (Calls.spliced_cons ?_))
  repeat' (first | walk1 | (dsimp only; walk1))
  refine ld F hm ?_
  repeat' (first | walk1 | (dsimp only; walk1))
  rename Fr _ _ _ _ => F1
  rename News _ _ _ _ => N1
  rename ∀ p ∈ full _ _ _, p.1 < _ => l1
  have n1 := N1 _ (.head _)
  have k1 := keep_full (X := fun _ => False) F1 FK N1 fun p hp _ => .tail _ hp
  have l0 := new_none n1.2.1 n1.2.2 l1
  rename Addr => l
  rename Heap => h1
  dsimp only at n1 l0
  refine Fn.callGen (binds := [(Str.ofString "lines", .ref l)]) (fn112 w.params) (r.le (by decide)) (X.keeps F1.keep) (nl.keeps F1.keep) sc112 rfl (pk112 w (.ref l)) fun h2 tk ga F2 hg hne hn => Calls.spliced_nil ?_
  rw [binds_lines] at F2
  dsimp only at F2 hg hne hn ⊢
  have hl1 : h1.get? l = some (listObj [.bytes b t] 0) := n1.1
  have szn : h1.get? h1.objs.size = none := Heap.get?_none_of_le (Nat.le_refl _)
  have none0 : ∀ b, h1.get? b = none → h₀.get? b = none := fun b q => by
    cases e : h₀.get? b with
    | none => rfl
    | some o => have := F1.keep _ _ e; rw [q] at this; cases this
  obtain ⟨oL, hL⟩ := frNs F1
  have lt : ∀ b o, h1.get? b = some o → b ≠ h1.objs.size := fun b o q => Nat.ne_of_lt (Heap.lt_size q)
  have gaOld : ∀ b o, h1.get? b = some o → b ≠ ga := fun b o q e => by rw [e, hn] at q; cases q
  have above1 : h₀.objs.size ≤ h1.objs.size := Nat.le_trans Fa (Nat.le_of_lt (Heap.lt_size hL))
  have F3 : Fr h₀ L h2 m := frExt F1 F2.keep
  have eo : foldOut none [b] = ([b], false) := by simp [foldOut, hlead]
  have ed : decOut pairL false [b] = ([q], false) := by simp [decOut, hq]
  have rd := decReady (A := A.in1.in1.in1) (outer := [lawEnv L]) (h₀ := h₀) (L := h1.objs.size) (l := l) (vals := [.bytes b t]) (n := 0) (items := [b]) (s₀ := { s with heap := h2, toks := tk, gens := s.gens.push (.fresh (.func decBody (decEnv h1.objs.size))) }) pairOk
    ((((r.one).one).one).le (by decide)) X T nl F2.ns above1 (F2.keep _ _ hl1) ⟨.inl ⟨t, rfl⟩, trivial⟩ (by simp [szOf]; omega)
    (by
      refine List.pairwise_cons.mpr ⟨fun v hv a e q => ?_, List.pairwise_cons.mpr ⟨fun v hv a e q => ?_, List.pairwise_cons.mpr ⟨fun v hv => (nomatch hv), .nil⟩⟩⟩
      · cases e
        rcases List.mem_cons.mp hv with e | hv
        · rw [q] at e; cases e; exact lt _ _ hl1 rfl
        rcases List.mem_cons.mp hv with e | hv
        · rw [q] at e; cases e
        · cases hv
      · cases e
        rcases List.mem_cons.mp hv with e | hv
        · rw [q] at e; cases e
        · cases hv)
    (fun a ha => by
      rcases List.mem_cons.mp ha with rfl | ha
      · exact none0 _ szn
      rcases List.mem_cons.mp ha with rfl | ha
      · exact n1.2.2
      · exact absurd ha (by simp [refs]))
  rw [eo, ed] at rd
  have LF : ∀ x ∈ framesOf [lawEnv L], x = L := fun x hx => by
    have h : (lawEnv L).frame = some x := by simpa [framesOf] using hx
    exact (Option.some.inj (show some L = some x from h)).symm
  have lr : refs [Value.bytes b t] = [] := rfl
  have lL : l ≠ L := n1.2.1
  have Lh : L ≠ h1.objs.size := lt _ _ hL
  have c : Con (mdl prog₀ w) A.in1.in1.in1 h₀ [lawEnv L] PairOut false ga s.gens.size [L] (.fresh (.func decBody (decEnv h1.objs.size))) (h1.objs.size :: l :: refs [.bytes b t]) []
      { s with heap := h2, toks := tk, gens := s.gens.push (.fresh (.func decBody (decEnv h1.objs.size))) } [q] := by
    refine ⟨hg, by simp, rd, ?_, (fun hm => nomatch hm), ?_, F3.keep, lawFrames F3, ?_, ?_, ?_⟩
    · intro hm
      rcases List.mem_cons.mp hm with e | hm
      · exact hne e
      rcases List.mem_cons.mp hm with e | hm
      · exact gaOld _ _ hl1 e.symm
      · cases hm
    · intro a ha
      rcases List.mem_cons.mp ha with rfl | ha
      · exact none0 _ szn
      rcases List.mem_cons.mp ha with rfl | ha
      · exact n1.2.2
      · cases ha
    · intro x hx hm
      obtain rfl : x = L := by simpa using hx
      rcases List.mem_cons.mp hm with e | hm
      · exact gaOld _ _ hL e
      rcases List.mem_cons.mp hm with e | hm
      · exact Lh e
      rcases List.mem_cons.mp hm with e | hm
      · exact lL e.symm
      · cases hm
    · intro x hx
      obtain rfl : x = L := by simpa using hx
      exact ⟨_, F2.keep _ _ hL⟩
    · intro x hx
      rw [LF x hx]; exact .head _
  refine callList1 (r.le (by decide)) X nl c ?_ fun s3 D v pw hD hp hDn => ?_
  · intro x hx
    rcases List.mem_cons.mp hx with rfl | hx
    · obtain ⟨o, q⟩ := frNs (show Fr h1 h1.objs.size h2 _ from F2)
      exact ⟨o, q⟩
    rcases List.mem_cons.mp hx with rfl | hx
    · exact ⟨_, F2.keep _ _ hl1⟩
    · cases hx
  · have kk : ∀ b o, h1.get? b = some o → b ≠ l → s3.heap.get? b = some o := fun b o q hb => pw.keep b o (fun hm => by
      rcases List.mem_cons.mp hm with e | hm
      · exact lt _ _ q e
      rcases List.mem_cons.mp hm with e | hm
      · exact hb e
      · cases hm) (F2.keep b o q)
    refine h s3 D v ⟨fun b o hb q => kk b o (k1 b o (fun e => hb (by rw [e]; exact .head _)) _root_.id q) (fun e => by rw [e, l0] at q; cases q), fun hb => pw.bare fun y hy => ?_, pw.os⟩ ⟨F1.ns.at' fun o q => kk _ _ q (Ne.symm lL), fun b o q => kk b o (F1.keep b o q) (fun e => by rw [e, n1.2.2] at q; cases q), Fa⟩ hD hp
    rcases Array.mem_push.mp hy with h | rfl
    · exact hb y h
    · rfl
set_option maxHeartbeats 4000000 in
theorem lawPlainG {Q : Flow → Shared → Prop} (r : Rk 14 A [lawEnv L]) (X : (Mine.hd.heap_39 w.params).In h₀) (T : Top view₀ (looseW view₀ loose₀) mean mg mb h₀) (nl : h₀.NoLimit) (F : Fr h₀ L s.heap m)
    (hz : b.size ≤ 100) (hlead : leadN b = 0) (hq : pairL b = some q) (hm : m (Str.ofString "plain") = some (.bytes b t))
    (h : ∀ s', Past [L] s s' → Fr h₀ L s'.heap m → Q .next s') : wpG (mdl prog₀ w) A (exec (lawAt 3) (lawEnv L)) Q E s := by
  show wpG _ _ (exec (Stmt.If (Expr.Compare (cmpLeft (ifTestOf (lawAt 3))) [.NotEq] [Expr.List [Expr.Call (Expr.Name _ _) [Expr.Name _ _] [] _] _] _) [Stmt.Return _ _] [] _) (envOf _ { kind := _, names := _, isGenerator := _, isCoroutine := _, more := _ } _ _ _)) _ _ _
  refine gIf (gCompareG (plainLeft r X T nl F hz hlead hq hm fun s1 D v p1 F1 hD hv => ?_))
  have X1 := X.keeps F1.keep
  have F1k := F1.keep
  refine gList1 rfl (gCallFn1 (a := 125) (o := objAt w.params 125) (fd := fdAt w.params 125) rfl ?_)
  have N1 := news_full h₀ L s1.heap
  repeat' (first | walk1 | (dsimp only; walk1))
  refine ld F1 hm ⟨⟨X1 _ _ (fn125 w.params).look, (fn125 w.params).data⟩, ?_⟩
  refine pairCall (r.le (by decide)) X1 (T.keeps F1k) (nl.keeps F1k) (by omega) (fun e => by rw [hq] at e; cases e) fun q' e h2 tk2 v2 k2 hv2 => ?_
  cases hq.symm.trans e
  have hD2 : h2.PlainList D [v].toArray := hD.at fun o q => k2 _ _ q
  have k3 : ∀ b o, h2.get? b = some o → (h2.push { cls := .type "list", data := .seq [v2].toArray }).get? b = some o := fun b o q => Heap.get?_push_of_some _ q
  have hv3 : PairAt h2 v q := by obtain ⟨t, t1, t2, e, ht⟩ := hv; exact ⟨t, t1, t2, e, k2 _ _ ht⟩
  have up : ∀ v, PairAt h2 v q → PairAt (h2.push { cls := .type "list", data := .seq [v2].toArray }) v q := fun v x => by obtain ⟨t, t1, t2, e, ht⟩ := x; exact ⟨t, t1, t2, e, k3 _ _ ht⟩
  refine lift (r.rm.any ?_)
  refine listNe (hD2.isList.at fun o q => k3 _ _ q) ⟨_, Heap.get?_push_size _ rfl, rfl, _, rfl⟩ rfl (Nat.le_of_ble_eq_true rfl) (fun j hj1 hj2 => ?_) (wpAny_truthy_bool ?_)
  · have ej : j = 0 := by simpa using hj1
    subst ej
    exact eqAtPair (Nat.le_of_ble_eq_true rfl) (up v hv3) (up v2 hv2)
  · refine gExecsNil (h _ ⟨fun b o hb q => k3 _ _ (k2 _ _ (p1.keep b o hb q)), p1.bare, p1.os⟩ (frExt F1 fun b o q => k3 _ _ (k2 _ _ q)))
end
end Mine

end
section
open PySem PySem.W PySem.W.X PySem.Calls PyProof.Rows PySem.Builtin
set_option maxRecDepth 100000
namespace Mine
theorem warm34 : (∀ P, Mine.hd.heap_39 P = Mine.hd.heap_39 P) ∧ PySem.Challenge.rw_ae6005_01 = PySem.Challenge.rw_ae6005_01 := by
  k_fill
  exact ⟨fun _ => rfl, rfl⟩
section
variable {prog : Program} {w : World} {A : Around} {s : Shared} {E : Value → Shared → Prop} {env : Env}
/-- a comprehension over a list, without a test -/
theorem compList {elt iter : Expr} {x : Str} {px : Pos} {scope : Scope} {pos : Pos} {Q : Value → Shared → Prop} (F : Value → Value → Prop) (hh : A.handled = none)
    (hfree : ∀ y ∈ scope.names, y.2 ≠ .free) (hcell : ∀ y ∈ scope.names, y.2 ≠ .cell) (hkind : scope.kind = .function)
    (hnames : ∀ y ∈ scope.names, y.2 = .local → scope.names.lookup y.1 = some .local) (hx : scope.names.lookup x = some .local)
    (h : wpAny (model prog w) A (eval iter env) (fun xv s₁ => ∃ ax items, xv = Value.ref ax ∧ s₁.heap.IsList ax items ∧ items.size ≤ 1000 ∧
      (∀ C v s₃ m₃ E', v ∈ items.toList → s₃.heap.Ns C m₃ → m₃ x = some v → (∀ b o, s₁.heap.get? b = some o → s₃.heap.get? b = some o) →
        wpAny (model prog w) A (eval elt (compEnv scope C env)) (fun y s₄ => F v y ∧ Keeps s₃ s₄) E' s₃) ∧
      (∀ D h' tk ys, s₁.heap.get? D = none → h'.PlainList D ys → Paired F items.toList ys.toList → (∀ b o, s₁.heap.get? b = some o → h'.get? b = some o) → Q (.ref D) { s₁ with heap := h', toks := tk })) E s)
    (hs : ∀ x, foldedSetIterable iter env x = pure x := by intro _; rfl) :
    wpAny (model prog w) A (eval (.ListComp elt [⟨.Name x px, iter, [], 0⟩] scope pos) env) Q E s := by
  refine wpAny_ListComp_walk (fun _ => true) F hfree hcell hkind hnames hx (wpAny_mono h ?_ fun _ _ e => e) hs
  rintro xv s₁ ⟨ax, items, rfl, hl, hz, helt, hQ⟩
  refine wpAny_pyIter_list hl ?_
  obtain ⟨ol, hol, hol'⟩ := id hl
  have hlt := Heap.lt_size hol
  have old : ∀ b o, s₁.heap.get? b = some o → b ∉ [s₁.heap.objs.size] := fun b o q hb => by
    rw [List.mem_singleton.mp hb] at q
    exact absurd (Heap.lt_size q) (Nat.lt_irrefl _)
  refine ⟨s₁.heap.objs.size, [s₁.heap.objs.size, ax], [s₁.heap.objs.size], items.size, _, _, rfl, Walks.list hh s₁.heap.objs.size ax (Nat.ne_of_lt hlt) items, by rw [sizeLine_eq]; omega, ⟨⟨_, Heap.get?_push_size _ rfl, rfl, rfl⟩, hl.at fun o e => Heap.get?_push_of_some _ e⟩, ?_, ⟨?_, ?_⟩, ?_⟩
  · intro b hb
    rw [show (s₁.heap.push _).objs.size = s₁.heap.objs.size + 1 from by simp [Heap.push]]
    rcases List.mem_cons.mp hb with rfl | hb
    · exact Nat.lt_succ_self _
    rw [List.mem_singleton.mp hb]
    exact Nat.lt_succ_of_lt hlt
  · intro C i v s₃ m₃ E' _ _ _ _ _
    exact wpAny_pure ⟨rfl, s₃.heap, s₃.toks, rfl, fun _ _ q => q⟩
  · intro C i v s₃ m₃ E' hP _ hn hm hk _
    refine helt C v s₃ m₃ E' ?_ hn hm fun b o q => hk b o (old b o q) (Heap.get?_push_of_some _ q)
    exact Array.mem_toList_iff.mpr (Array.mem_of_getElem? hP)
  · intro D h' tk ys vs hD hl' hpl hlen hP hF hk
    have hD' : s₁.heap.get? D = none := by
      cases q : s₁.heap.get? D with
      | none => rfl
      | some o => have := Heap.get?_push_of_some (h := s₁.heap) { cls := .type "list_iterator", data := .fields #[.ref ax, .int 0 0] } q; rw [hD] at this; cases this
    have e : vs = items.toList := by
      refine List.ext_getElem? fun j => ?_
      by_cases hj : j < vs.length
      · have := hP j vs[j] (List.getElem?_eq_getElem hj)
        rw [List.getElem?_eq_getElem hj, Array.getElem?_toList, this]
      · rw [List.getElem?_eq_none (by omega), List.getElem?_eq_none (by simp; omega)]
    rw [show vs.filter (fun _ => true) = vs from List.filter_eq_self.mpr fun _ _ => rfl, e] at hF
    exact hQ D h' tk ys hD' hpl hF fun b o q => hk b o (old b o q) (Heap.get?_push_of_some _ q)
end
/-- the scope, the element and the source of a comprehension -/
def compEltOf : Expr → Expr
  | .ListComp e _ _ _ => e
  | _ => .Constant .none 0 default
def ifBody : Expr → Expr
  | .IfExp _ b _ _ => b
  | _ => .Constant .none 0 default
def valOf : Stmt → Expr
  | .Assign _ v _ => v
  | _ => .Constant .none 0 default
def linesComp : Expr := ifBody (valOf (lawAt 4))
theorem pk_lines (w : World) (L C : Addr) : PK w (loadName (compEnv (compScope linesComp) C (lawEnv L)) (Str.ofString "_law_lines")) (.ref 113) := by kernel_rfl
theorem bsAt_menu : ∀ {vs ys : List Value} {ns : List Int}, IntsAre vs ns → Paired (fun v y => ∀ k t, v = Value.int k t → ∃ u, y = Value.bytes (menuAt (k.fmod 16).toNat) u) vs ys → BsAt ys (ns.map fun k => menuAt (k.fmod 16).toNat)
  | _, _, _, .nil, .nil => trivial
  | _, _, _, .cons n t h, .cons hp hF => ⟨hp n t rfl, bsAt_menu h hF⟩
theorem ints_mem : ∀ {vs : List Value} {ns : List Int} {v : Value}, IntsAre vs ns → v ∈ vs → ∃ k t, v = .int k t
  | _, _, _, .cons n t h, hm => by
    rcases List.mem_cons.mp hm with rfl | hm
    · exact ⟨n, t, rfl⟩
    · exact ints_mem h hm
section
variable {w : World} {s : Shared} {h₀ : Heap} {L D : Addr} {mg mb : Str → Option Value} {mean : ExcName → Option Value} {E : Value → Shared → Prop} {m₀ : Str → Option Value} {t t₂ : Tok} {ns : List Int} {ys : List Value} {outer : List Env} {f : Int} {p : Value}
set_option maxHeartbeats 8000000 in
theorem lawLines {Q : Flow → Shared → Prop} (X : (Mine.hd.heap_39 w.params).In h₀) (T : Top view₀ (looseW view₀ loose₀) mean mg mb h₀) (F : Fr h₀ L s.heap (lawM1 m₀ p (.int f t) (.ref D)))
    (hl : s.heap.IsList D ys.toArray) (hI : IntsAre ys ns) (h0 : h₀.get? D = none) (hDL : D ≠ L) (hlen : ns.length ≤ 7)
    (h : ∀ h' tk l vs items, Fr h₀ L h' (fun y => if y = Str.ofString "lines" then some (.ref l) else lawM1 m₀ p (.int f t) (.ref D) y) → h'.PlainList l vs.toArray → BsAt vs items → 1 ≤ items.length → items.length ≤ 6 → (∀ b ∈ items, b.size ≤ 20) → h₀.get? l = none → l ≠ L → Q .next { s with heap := h', toks := tk }) :
    wpAny (model prog₀ w) (A₉ outer) (exec (lawAt 4) (lawEnv L)) Q E s := by
  have hl' := hl
  obtain ⟨oD, hD, hcD, nD, hdD⟩ := id hl
  have N : News h₀ L s.heap [(D, oD)] := fun p hp => by
    rcases List.mem_cons.mp hp with rfl | hp
    · exact ⟨hD, hDL, h0⟩
    · cases hp
  show wpAny _ _ (exec (Stmt.Assign _ (Expr.IfExp _ _ _ _) _) (envOf _ { kind := _, names := _, isGenerator := _, isCoroutine := _, more := _ } _ _ _)) _ _ _
  iterate 14 (first | walk1 | (dsimp only; walk1))
  · show wpAny _ _ (eval (.ListComp (Expr.Subscript (.Name _ _) (.BinOp (.Name (Str.ofString "n") _) _ _ _) _) [⟨.Name (Str.ofString "n") _, _, [], 0⟩] (compScope linesComp) _) (lawEnv L)) _ _ _
    refine compList (fun v y => ∀ k t, v = Value.int k t → ∃ u, y = Value.bytes (menuAt (k.fmod 16).toNat) u) rfl (by decide +kernel) (by decide +kernel) rfl (by decide +kernel) rfl ?_
    show wpAny _ _ (eval _ (envOf _ { kind := _, names := _, isGenerator := _, isCoroutine := _, more := _ } _ _ _)) _ _ _
    rename (1 : Int) < _ => h1n
    iterate 8 (first | walk1 | (dsimp only; walk1))
    rename Fr _ _ _ _ => F9
    rename News _ _ _ _ => N9
    rename IntsAre _ (List.drop _ _) => hI9
    have n9 := N9 _ (.head _)
    refine ⟨_, _, rfl, ⟨_, n9.1, rfl, _, rfl⟩, ?_, ?_, ?_⟩
    · have := hI9.length
      simp at this ⊢
      omega
    · intro C v s₃ m₃ E' hv hn hm hk
      obtain ⟨k, u, rfl⟩ := ints_mem hI9 (by simpa using hv)
      have X3 := X.keeps fun b o q => hk b o (F9.keep b o q)
      refine Subscript_ (wpAny_Name ((pkLooks X3 (pk_lines w L C)) _ _ _ _ (fun _ _ x => x) ?_) (by decide))
      refine wpAny_BinOp (wpAny_Name (wpAny_loadName_local rfl rfl hn hm ?_) (by decide))
      repeat' (first | walk1 | (dsimp only; walk1))
      refine menuItem X3 (fmod_lo (by decide)) (fmod_hi (by decide)) fun u' => ⟨fun k' t' e => ?_, _, _, rfl, fun _ _ q => q⟩
      cases e
      exact ⟨u', rfl⟩
    · intro D2 h2 tk2 ys2 hD2 hpl hF hk2
      have F2 := frExt F9 hk2
      have D20 : h₀.get? D2 = none := by
        cases e : h₀.get? D2 with
        | none => rfl
        | some o => have := F9.keep _ _ e; rw [hD2] at this; cases this
      have D2L : D2 ≠ L := fun e => by
        obtain ⟨o, q⟩ := frNs F9
        rw [e, q] at hD2; cases hD2
      obtain ⟨n2, hg2⟩ := id hpl
      have N2 : News h₀ L h2 [(D2, listObj ys2.toList n2)] := fun p hp => by
        rcases List.mem_cons.mp hp with rfl | hp
        · exact ⟨by simpa using hg2, D2L, D20⟩
        · cases hp
      refine stN F2 N2 fun h3 F3 N3 => ?_
      have hA := bsAt_menu hI9 (by simpa using hF)
      refine h h3 _ D2 ys2.toList _ F3 ⟨n2, by simpa using (N3 _ (.head _)).1⟩ hA ?_ ?_ ?_ D20 D2L
      · simp; omega
      · simp; omega
      · intro b hb
        obtain ⟨k, _, rfl⟩ := List.mem_map.mp hb
        exact menu_size _
  · repeat' (first | walk1 | (dsimp only; walk1))
    rename Fr _ _ _ _ => F9
    rename News _ _ _ _ => N9
    have n9 := N9 _ (.head _)
    exact h _ _ _ [_, _] [#[65, 58, 32, 98], #[32, 102, 111, 108, 100, 101, 100]] F9 ⟨_, n9.1⟩ ⟨⟨_, rfl⟩, ⟨_, rfl⟩, trivial⟩ (by decide) (by decide) (by decide) n9.2.2 n9.2.1
end
end Mine

end
section
open PySem PySem.W PySem.W.X PySem.Calls PyProof.Rows PySem.Builtin
set_option maxRecDepth 100000
namespace Mine
theorem warm35 : (∀ P, Mine.hd.heap_39 P = Mine.hd.heap_39 P) ∧ PySem.Challenge.rw_ae6005_01 = PySem.Challenge.rw_ae6005_01 := by
  k_fill
  exact ⟨fun _ => rfl, rfl⟩
theorem bsAt_get : ∀ {vs : List Value} {bs : List Oct} {i : Nat}, BsAt vs bs → (h : i < bs.length) → ∃ t, vs[i]? = some (.bytes bs[i] t)
  | _ :: _, _ :: _, 0, h, _ => by
    obtain ⟨⟨t, rfl⟩, _⟩ := h
    exact ⟨t, rfl⟩
  | _ :: vs, _ :: bs, i + 1, h, hi => by
    obtain ⟨t, ht⟩ := bsAt_get h.2 (Nat.lt_of_succ_lt_succ hi)
    exact ⟨t, by simpa using ht⟩
  | [], [], _, _, hi => absurd hi (Nat.not_lt_zero _)
theorem bsAt_set : ∀ {vs : List Value} {bs : List Oct} {i : Nat} {b : Oct} {t : Tok}, BsAt vs bs → BsAt (vs.set i (.bytes b t)) (bs.set i b)
  | _ :: _, _ :: _, 0, b, t, h => ⟨⟨t, rfl⟩, h.2⟩
  | _ :: _, _ :: _, i + 1, _, _, h => ⟨h.1, bsAt_set h.2⟩
  | [], [], _, _, _, _ => trivial
abbrev lawM5 (m₀ : Str → Option Value) (f : Int) (t : Tok) (l : Addr) : Str → Option Value := fun y =>
  if y = Str.ofString "lines" then some (.ref l) else if y = Str.ofString "first" then some (.int f t) else m₀ y
section
variable {w : World} {s : Shared} {h₀ : Heap} {L l : Addr} {mg mb : Str → Option Value} {mean : ExcName → Option Value} {E : Value → Shared → Prop} {m₀ : Str → Option Value} {t t₂ : Tok} {items : List Oct} {vs : List Value} {outer : List Env} {f : Int}
theorem bCutF {b : Oct} {m : Str → Option Value} {news : List (Addr × Obj)} {A : Around} {value slice : Expr} {l u : Value} {lo hi : Option Int} {Q : Value → Shared → Prop} (F : Fr h₀ L s.heap m) (N : News h₀ L s.heap news) (hl : IsPart l lo) (hu : IsPart u hi) (hz : b.size ≤ 1000)
    (h : ∀ h' t' k', Fr h₀ L h' m → News h₀ L h' news → Q (.bytes (KBy.picked b lo hi) t') { s with heap := h', toks := k' })
    (hs : subscripted slice false (.bytes b t) (.ref s.heap.objs.size) = operate [.ref s.heap.objs.size, .bytes b t] (getItem (.bytes b t) (.ref s.heap.objs.size)) := by with_unfolding_all rfl)
    (ht : ∀ r, letTemporaryGo value (.bytes b t) r = pure () := by intro _; with_unfolding_all rfl) :
    wpAny (model prog₀ w) A (subscriptTail value slice (.bytes b t) (.ref s.heap.objs.size)) Q E { s with heap := s.heap.push { cls := .type "slice", data := .fields #[l, u, .none] } } :=
  bCut hl hu hz (fun t' k' => h _ t' k' (F.push _) (N.grown fun b o q => Heap.get?_push_of_some _ q)) hs ht
set_option maxHeartbeats 8000000 in
theorem lawMut {Q : Flow → Shared → Prop} (X : (Mine.hd.heap_39 w.params).In h₀) (T : Top view₀ (looseW view₀ loose₀) mean mg mb h₀) (F : Fr h₀ L s.heap (lawM5 m₀ f t l))
    (hl : s.heap.PlainList l vs.toArray) (hI : BsAt vs items) (h0 : h₀.get? l = none) (hlL : l ≠ L) (hf : 0 ≤ f) (h1 : 1 ≤ items.length) (hlen : items.length ≤ 6) (hz : ∀ b ∈ items, b.size ≤ 20)
    (h : ∀ h' tk m vs' items', Fr h₀ L h' m → m (Str.ofString "lines") = some (.ref l) → m (Str.ofString "first") = some (.int f t) → h'.IsList l vs'.toArray → BsAt vs' items' → 1 ≤ items'.length → items'.length ≤ 6 → (∀ b ∈ items', b.size ≤ 41) → Q .next { s with heap := h', toks := tk }) :
    wpAny (model prog₀ w) (A₉ outer) (execs [lawAt 5, lawAt 6] (lawEnv L)) Q E s := by
  obtain ⟨n, hD⟩ := id hl
  have N : News h₀ L s.heap [(l, W.listOf vs.toArray n)] := fun p hp => by
    rcases List.mem_cons.mp hp with rfl | hp
    · exact ⟨hD, hlL, h0⟩
    · cases hp
  show wpAny _ _ (execs [Stmt.Assign _ _ _, Stmt.If _ _ _ _] (envOf _ { kind := _, names := _, isGenerator := _, isCoroutine := _, more := _ } _ _ _)) _ _ _
  have hvl : vs.length = items.length := hI.len
  repeat' (first | walk1 | (dsimp only; walk1))
  · rename Fr _ _ _ _ => F1
    rename News _ _ _ _ => N1
    have hl1 := (N1 _ (.head _)).1
    refine len_list (items := vs.toArray) ⟨_, hl1, rfl, _, rfl⟩ (by simp; omega) ?_
    rw [show (vs.toArray.size : Int) = (items.length : Int) from by simp [hvl]]
    generalize hK : (items.length : Int) = K at *
    repeat' (first | walk1 | (dsimp only; walk1))
    have hP0 : 0 ≤ ((f.fdiv 2).fdiv 3).fmod K := fmod_lo (by omega)
    have hP1 : ((f.fdiv 2).fdiv 3).fmod K < K := fmod_hi (by omega)
    generalize hP : ((f.fdiv 2).fdiv 3).fmod K = P at *
    rename Fr _ _ _ _ => F2
    rename News _ _ _ _ => N2
    have hl2 := (N2 _ (.head _)).1
    have hPl : P.toNat < items.length := by omega
    obtain ⟨tb, hb⟩ := bsAt_get hI hPl
    have hbz := hz _ (List.getElem_mem hPl)
    generalize items[P.toNat] = b at *
    refine item_list (items := vs.toArray) (x := .bytes b tb) ⟨_, hl2, rfl, _, rfl⟩ hP0 (by omega) (by simpa using hb) ?_
    dsimp only
    repeat' (first | walk1 | (dsimp only; walk1))
    rename Fr _ _ _ _ => F3
    rename News _ _ _ _ => N3
    have hl3 := (N3 _ (.head _)).1
    refine len_list (items := vs.toArray) ⟨_, hl3, rfl, _, rfl⟩ (by simp; omega) ?_
    rw [show (vs.toArray.size : Int) = K from by simp [hvl]; omega]
    repeat' (first | walk1 | (dsimp only; walk1))
    have hS0 : 0 ≤ (((f.fdiv 2).fdiv 3).fdiv K).fmod ((b.size : Int) + 1) := fmod_lo (by omega)
    have hS1 : (((f.fdiv 2).fdiv 3).fdiv K).fmod ((b.size : Int) + 1) < (b.size : Int) + 1 := fmod_hi (by omega)
    generalize hS : (((f.fdiv 2).fdiv 3).fdiv K).fmod ((b.size : Int) + 1) = S at *
    rename Fr _ _ _ _ => F4
    rename News _ _ _ _ => N4
    have FK4 := F4.keep
    refine bCutF F4 N4 .none (.int _ _) (by omega) fun h5 t' k' F5 N5 => ?_
    clear F4 N4
    dsimp only
    repeat' (first | walk1 | (dsimp only; walk1))
    have hp1 := KBc.size_picked_le b none (some S)
    generalize KBy.picked b none (some S) = c1 at *
    generalize (((f.fdiv 2).fdiv 64).fmod 256).toNat.toUInt8 = oct at *
    refine KBy.add_bytes (by simp; omega) fun t6 k6 => ?_
    dsimp only
    repeat' (first | walk1 | (dsimp only; walk1))
    rename Fr _ _ _ _ => F6
    rename News _ _ _ _ => N6
    refine bCutF F6 N6 (.int _ _) .none (by omega) fun h7 t7 k7 F7 N7 => ?_
    clear F6 N6
    dsimp only
    have hp2 := KBc.size_picked_le b (some (S + 1)) none
    generalize KBy.picked b (some (S + 1)) none = c2 at *
    repeat' (first | walk1 | (dsimp only; walk1))
    refine KBy.add_bytes (by simp; omega) fun t8 k8 => ?_
    dsimp only
    repeat' (first | walk1 | (dsimp only; walk1))
    rename Fr _ _ _ _ => F8
    rename News _ _ _ _ => N8
    have n8 := N8 _ (.tail _ (.head _))
    refine wpAny_setItem_list (items := vs.toArray) ⟨_, n8.1, rfl, _, rfl⟩ hP0 (by omega) (by simp; omega) fun h9 hl9 hs9 => ?_
    dsimp only
    have F9 : Fr h₀ L h9 _ := ⟨F8.ns.at' fun o q => (hs9.2 L (Ne.symm hlL)).trans q, fun b o q => (hs9.2 b (fun e => by rw [e, h0] at q; cases q)).trans (F8.keep b o q), F8.above⟩
    clear F8 N8
    repeat' (first | walk1 | (dsimp only; walk1))
    refine h h9 _ _ (vs.set P.toNat (.bytes (c1 ++ #[oct] ++ c2) t8)) (items.set P.toNat (c1 ++ #[oct] ++ c2)) F9 (by rfl) (by rfl) (by simpa using hl9) (bsAt_set hI) (by simpa using h1) (by simpa using hlen) fun x hx => ?_
    rcases List.mem_or_eq_of_mem_set hx with hx | rfl
    · have := hz x hx; omega
    · simp; omega
  · rename Fr _ _ _ _ => F9
    rename News _ _ _ _ => N9
    exact h _ _ _ vs items F9 (by rfl) (by rfl) ⟨_, (N9 _ (.head _)).1, rfl, _, rfl⟩ hI h1 hlen fun x hx => by have := hz x hx; omega
end
end Mine

end
section
open PySem PySem.W PySem.W.X PySem.Calls PyProof.Rows PySem.Builtin
set_option maxRecDepth 100000
namespace Mine
theorem warm36 : (∀ P, Mine.hd.heap_39 P = Mine.hd.heap_39 P) ∧ PySem.Challenge.rw_ae6005_01 = PySem.Challenge.rw_ae6005_01 := by
  k_fill
  exact ⟨fun _ => rfl, rfl⟩
theorem Octs.snoc' {h : Heap} : ∀ {vs : List Value} {bs : List Oct} {v : Value} {b : Oct}, Octs h vs bs → OctAt h v b → Octs h (vs ++ [v]) (bs ++ [b])
  | [], [], _, _, _, x => ⟨x, trivial⟩
  | _ :: _, _ :: _, _, _, h, x => ⟨h.1, Octs.snoc' h.2 x⟩
theorem Octs.len' {h : Heap} : ∀ {vs : List Value} {bs : List Oct}, Octs h vs bs → vs.length = bs.length
  | [], [], _ => rfl
  | _ :: _, _ :: _, h => congrArg (· + 1) (Octs.len' h.2)
/-- the comprehension of bytearrays between two items -/
structure BaSt (H h' : Heap) (It l C D : Addr) (vs : List Value) (items done rest : List Oct) (ys : List Value) : Prop where
  it : h'.IsListIter It l done.length
  list : h'.IsList l vs.toArray
  ns : ∃ m, h'.Ns C m
  acc : h'.PlainList D ys.toArray
  oc : Octs h' ys done
  all : done ++ rest = items
  new : ∀ a, .ref a ∈ ys → H.get? a = none
  ap : ys.Pairwise Apart
  keep : ∀ b o, b ≠ C → b ≠ D → b ≠ It → H.get? b = some o → h'.get? b = some o
section
variable {w : World} {A : Around} {fl : List Env} {s : Shared} {h₀ H : Heap} {E : Value → Shared → Prop} {vs : List Value} {items : List Oct} {It l C D : Addr} {env : Env} {scope : Scope} {pos px p1 p2 p3 : Pos} {iter : Expr}
set_option maxHeartbeats 2000000 in
theorem baLoop {R : Result → Shared → Prop} (r : Rm A fl) (X : (Mine.hd.heap_39 w.params).In h₀) (hkind : scope.kind = .function) (hx : scope.names.lookup (Str.ofString "line") = some .local)
    (hpk : PK w (loadName (compEnv scope C env) (Str.ofString "bytearray")) (.type "bytearray"))
    (hC : H.get? C ≠ none) (hD : H.get? D ≠ none) (hIt : H.get? It ≠ none) (lC : l ≠ C) (lD : l ≠ D) (lI : l ≠ It) (CD : C ≠ D) (CI : C ≠ It) (DI : D ≠ It) (C0 : h₀.get? C = none) (D0 : h₀.get? D = none) (I0 : h₀.get? It = none) (k0 : ∀ b o, h₀.get? b = some o → H.get? b = some o)
    (hB : BsAt vs items) (hz : ∀ b ∈ items, b.size ≤ 1000) (hlen : items.length ≤ 900)
    (hR : ∀ h' tk ys, (∃ m, h'.Ns C m) ∧ h'.PlainList D ys.toArray ∧ Octs h' ys items ∧ (∀ a, .ref a ∈ ys → H.get? a = none) ∧ ys.Pairwise Apart ∧ (∀ b o, b ≠ C → b ≠ D → b ≠ It → H.get? b = some o → h'.get? b = some o) → R (.ok .next) { s with heap := h', toks := tk })
    {ys : List Value} {done rest : List Oct} {h' : Heap} {tk : Nat} (x : BaSt H h' It l C D vs items done rest ys) :
    codeG (mdl prog₀ w) A (.compLoop (.ListComp (.Call (.Name (Str.ofString "bytearray") p1) [.Name (Str.ofString "line") p2] [] p3) [⟨.Name (Str.ofString "line") px, iter, [], 0⟩] scope pos) 0 (.ref It) (.ref D) (compEnv scope C env)) R { s with heap := h', toks := tk } := by
  refine compLoopG (fun k s' => ∃ h' tk ys done rest, k = rest.length ∧ s' = { s with heap := h', toks := tk } ∧ BaSt H h' It l C D vs items done rest ys) ?_ rest.length ⟨h', tk, ys, done, rest, rfl, rfl, x⟩
  rintro k s' ⟨h', tk, ys, done, rest, rfl, rfl, x⟩
  have W := Walks.list (prog := prog₀) (w := w) (A := A₉ fl) rfl It l lI vs.toArray
  have hvl := hB.len
  have hal := congrArg List.length x.all
  simp only [List.length_append] at hal
  cases rest with
  | nil =>
    refine toG (lift (r.any (W.done { s with heap := h', toks := tk } _ _ ⟨?_, x.list⟩ fun h1 tk1 k1 => ?_)))
    · have e : vs.toArray.size = done.length := by simp at hal ⊢; omega
      rw [e]; exact x.it
    have e : done = items := by simpa using x.all
    have kI : ∀ b o, b ≠ It → h'.get? b = some o → h1.get? b = some o := fun b o hb q => k1 b o (by simpa using hb) q
    obtain ⟨m, ns⟩ := x.ns
    refine hR h1 tk1 ys ⟨⟨m, ns.at' fun o q => kI _ _ CI q⟩, x.acc.at fun o q => kI _ _ DI q, ?_, x.new, x.ap, fun b o a1 a2 a3 q => kI b o a3 (x.keep b o a1 a2 a3 q)⟩
    rw [← e]
    refine x.oc.keep fun v hv a ea o q => kI a o (fun e => ?_) q
    subst ea
    exact hIt (e ▸ x.new a hv)
  | cons b rest =>
    have hlt : done.length < vs.length := by simp at hal; omega
    refine toG (lift (r.any (W.item done.length { s with heap := h', toks := tk } _ _ (by simpa using hlt) ⟨x.it, x.list⟩ fun v h1 tk1 hv st1 k1 => ?_)))
    have kI : ∀ b o, b ≠ It → h'.get? b = some o → h1.get? b = some o := fun b o hb q => k1 b o (by simpa using hb) q
    have hlt' : done.length < items.length := by omega
    obtain ⟨t, ht⟩ := bsAt_get hB hlt'
    have hb : items[done.length] = b := by
      have := x.all
      subst this
      simp
    rw [hb] at ht
    have ev : v = .bytes b t := by
      have : vs[done.length]? = some v := by simpa using hv
      rw [ht] at this
      exact (Option.some.inj this).symm
    subst ev
    have hzb := hz b (by rw [← x.all]; simp)
    obtain ⟨m, ns⟩ := x.ns
    have ns1 : h1.Ns C m := ns.at' fun o q => kI _ _ CI q
    refine wpAny_assign_Name (wpAny_storeName_local (by exact hx) ns1 (fun h₂ ns₂ hs₂ => ?_) (by show (scope.kind == .class || (scope.kind == .module && _)) = false; rw [hkind]; rfl))
    have k2 : ∀ b o, b ≠ C → b ≠ It → h'.get? b = some o → h₂.get? b = some o := fun b o a1 a2 q => (hs₂.2 b a1).trans (kI b o a2 q)
    have old2 : ∀ b o, h₀.get? b = some o → h₂.get? b = some o := fun b o q => by
      have a1 : b ≠ C := fun e => by rw [e, C0] at q; cases q
      have a2 : b ≠ D := fun e => by rw [e, D0] at q; cases q
      have a3 : b ≠ It := fun e => by rw [e, I0] at q; cases q
      exact k2 b o a1 a3 (x.keep b o a1 a2 a3 (k0 b o q))
    show wpG _ _ (eval (.Call (.Name _ _) [.Name (Str.ofString "line") _] [] _) (compEnv scope C env)) _ _ _
    refine gCallName1 rfl ?_
    refine wpAny_Name (lift ((pkLooks (X.keeps old2) hpk) _ _ _ _ (fun _ _ x => x) ?_)) (by decide)
    refine gCallWithOwn rfl rfl (Calls.evalArgs_plain (Calls.spliced_cons (wpAny_Name (wpAny_loadName_local (v := .bytes b t) hkind hx ns₂ (if_pos rfl) (Calls.spliced_nil ?_)) (by decide))))
    refine gNewBa r hzb fun a h3 tk3 ha hna k3 => ?_
    have hD2 : h₂.PlainList D ys.toArray := x.acc.at fun o q => k2 _ _ (Ne.symm CD) DI q
    have hD3 : h3.PlainList D ys.toArray := hD2.at fun o q => k3 _ _ q
    have hyl := x.oc.len'
    refine lift (wpAny_list_append_plain hD3 (fun h₅ hD₅ hs₅ => ?_) (by simp [sizeLine_eq]; omega))
    have k5 : ∀ b o, b ≠ C → b ≠ It → b ≠ D → h'.get? b = some o → h₅.get? b = some o := fun b o a1 a2 a3 q => (hs₅.2 b a3).trans (k3 b o (k2 b o a1 a2 q))
    have thereH : ∀ a : Addr, .ref a ∈ ys → a ≠ C ∧ a ≠ It ∧ a ≠ D := fun a hm => ⟨fun e => hC (e ▸ x.new a hm), fun e => hIt (e ▸ x.new a hm), fun e => hD (e ▸ x.new a hm)⟩
    have hna2 : h₂.get? a = none := hna
    have aD : a ≠ D := fun e => by obtain ⟨n, q⟩ := hD2; rw [e, q] at hna2; cases hna2
    have aC : a ≠ C := fun e => by obtain ⟨o, _, _, q, _⟩ := ns₂; have q' : h₂.get? C = some o := q; rw [e, q'] at hna2; cases hna2
    have aIt : a ≠ It := fun e => by
      obtain ⟨o, q, _⟩ := st1.1
      rw [e, (hs₂.2 It (Ne.symm CI)).trans q] at hna2; cases hna2
    have aH : H.get? a = none := by
      cases e : H.get? a with
      | none => rfl
      | some o => have := k2 a o aC aIt (x.keep a o aC aD aIt e); rw [hna2] at this; cases this
    refine ⟨rest.length, by simp, h₅, _, ys ++ [.ref a], done ++ [b], rest, rfl, rfl, ?_, ?_, ⟨_, (ns₂.at' fun o q => k3 _ _ q).at' fun o q => (hs₅.2 C CD).trans q⟩, by simpa using hD₅, ?_, by rw [← x.all]; simp, ?_, ?_, ?_⟩
    · have e : (done ++ [b]).length = done.length + 1 := by simp
      rw [e]
      exact st1.1.at fun o q => (hs₅.2 It (Ne.symm DI)).trans (k3 _ _ ((hs₂.2 It (Ne.symm CI)).trans q))
    · exact st1.2.at fun o q => (hs₅.2 l lD).trans (k3 _ _ ((hs₂.2 l lC).trans q))
    · refine Octs.snoc' (x.oc.keep fun v hv a' ea o q => ?_) (.inr ⟨a, rfl, (hs₅.2 a aD).trans ha⟩)
      subst ea
      obtain ⟨a1, a2, a3⟩ := thereH a' hv
      exact k5 a' o a1 a2 a3 q
    · intro a' hm
      rcases List.mem_append.mp hm with hm | hm
      · exact x.new a' hm
      · cases List.mem_singleton.mp hm; exact aH
    · refine List.pairwise_append.mpr ⟨x.ap, List.pairwise_singleton _ _, fun u hu v hv a' eu ev => ?_⟩
      cases List.mem_singleton.mp hv
      cases ev
      subst eu
      obtain ⟨o, q⟩ := x.oc.there a hu
      obtain ⟨a1, a2, a3⟩ := thereH a hu
      have := k2 a o a1 a2 q
      rw [hna2] at this; cases this
    · intro b' o a1 a2 a3 q
      exact k5 b' o a1 a3 a2 (x.keep b' o a1 a2 a3 q)
end
end Mine

end
section
open PySem PySem.W PySem.W.X PySem.Calls PyProof.Rows PySem.Builtin
set_option maxRecDepth 100000
namespace Mine
theorem warm37 : (∀ P, Mine.hd.heap_39 P = Mine.hd.heap_39 P) ∧ PySem.Challenge.rw_ae6005_01 = PySem.Challenge.rw_ae6005_01 := by
  k_fill
  exact ⟨fun _ => rfl, rfl⟩
section
variable {w : World} {A : Around} {fl : List Env} {s : Shared} {h₀ H : Heap} {E : Value → Shared → Prop} {vs : List Value} {items : List Oct} {l : Addr} {env : Env} {scope : Scope} {pos px p1 p2 p3 : Pos} {iter : Expr}
set_option maxHeartbeats 2000000 in
theorem compBa {Q : Value → Shared → Prop} (r : Rm A fl) (X : (Mine.hd.heap_39 w.params).In h₀) (K0 : ∀ b o, h₀.get? b = some o → s.heap.get? b = some o)
    (hfree : ∀ y ∈ scope.names, y.2 ≠ .free) (hcell : ∀ y ∈ scope.names, y.2 ≠ .cell) (hkind : scope.kind = .function)
    (hnames : ∀ y ∈ scope.names, y.2 = .local → scope.names.lookup y.1 = some .local) (hx : scope.names.lookup (Str.ofString "line") = some .local)
    (hpk : ∀ C, PK w (loadName (compEnv scope C env) (Str.ofString "bytearray")) (.type "bytearray"))
    (hl : s.heap.IsList l vs.toArray) (hB : BsAt vs items) (hz : ∀ b ∈ items, b.size ≤ 1000) (hlen : items.length ≤ 900)
    (hi : wpAny (mdl prog₀ w) A (eval iter env) (fun xv s₁ => ∃ tk, xv = Value.ref l ∧ s₁ = { s with toks := tk }) E s)
    (h : ∀ h' tk D n ys, h'.get? D = some (listObj ys n) → Octs h' ys items → s.heap.get? D = none → (∀ a, .ref a ∈ ys → s.heap.get? a = none) → (Value.ref D :: ys).Pairwise Apart → (∀ b o, s.heap.get? b = some o → h'.get? b = some o) → Q (.ref D) { s with heap := h', toks := tk })
    (hs : ∀ x, foldedSetIterable iter env x = pure x := by intro _; rfl) :
    wpG (mdl prog₀ w) A (eval (.ListComp (.Call (.Name (Str.ofString "bytearray") p1) [.Name (Str.ofString "line") p2] [] p3) [⟨.Name (Str.ofString "line") px, iter, [], 0⟩] scope pos) env) Q E s := by
  refine gListComp hfree hkind hnames (wpAny_mono hi (fun xv s₁ hh => ?_) fun _ _ x => x) hs
  obtain ⟨tk, rfl, rfl⟩ := hh
  obtain ⟨ol, hol, hol'⟩ := id hl
  refine lift (r.any (wpAny_pyIter_list (s := { s with toks := tk }) hl ?_))
  have hIn : s.heap.get? s.heap.objs.size = none := Heap.get?_none_of_le (Nat.le_refl _)
  dsimp only
  have k1 : ∀ b o, s.heap.get? b = some o → (s.heap.push { cls := .type "list_iterator", data := .fields #[.ref l, .int 0 0] }).get? b = some o := fun b o q => Heap.get?_push_of_some _ q
  have hI1 : (s.heap.push { cls := .type "list_iterator", data := .fields #[.ref l, .int 0 0] }).IsListIter s.heap.objs.size l 0 := ⟨_, Heap.get?_push_size _ rfl, rfl, rfl⟩
  generalize s.heap.push { cls := .type "list_iterator", data := .fields #[.ref l, .int 0 0] } = H1 at k1 hI1 ⊢
  generalize s.heap.objs.size = It at hIn hI1 ⊢
  refine wpAny_newObj_type ?_ (by size_fits)
  refine wpAny_newFunctionEnv hcell (by intro y hy; simp at hy) (fun h₃ ns₃ hsb₃ => ?_) hkind
  dsimp only at ns₃ hsb₃ ⊢
  generalize hH2 : H1.push { cls := .type "list", dict := none, data := .seq ([] : List Value).toArray } = H2 at ns₃ hsb₃ ⊢
  have hDn : H1.get? H1.objs.size = none := Heap.get?_none_of_le (Nat.le_refl _)
  have hCn : H2.get? H2.objs.size = none := Heap.get?_none_of_le (Nat.le_refl _)
  have k2 : ∀ b o, H1.get? b = some o → H2.get? b = some o := fun b o q => by rw [← hH2]; exact Heap.get?_push_of_some _ q
  have hD2 : H2.PlainList H1.objs.size ([] : List Value).toArray := ⟨0, by rw [← hH2]; exact Heap.get?_push_size _ rfl⟩
  generalize H1.objs.size = D at hDn hD2 ⊢
  have k3 : ∀ b o, H2.get? b = some o → h₃.get? b = some o := fun b o q => hsb₃.extBut b o (fun e => by rw [e, hCn] at q; cases q) (Heap.get?_push_of_some _ q)
  generalize H2.objs.size = C at ns₃ hCn ⊢
  have kk : ∀ b o, s.heap.get? b = some o → h₃.get? b = some o := fun b o q => k3 b o (k2 b o (k1 b o q))
  have Ds : s.heap.get? D = none := by
    cases e : s.heap.get? D with
    | none => rfl
    | some o => have := k1 _ _ e; rw [hDn] at this; cases this
  have Cs : s.heap.get? C = none := by
    cases e : s.heap.get? C with
    | none => rfl
    | some o => have := k2 _ _ (k1 _ _ e); rw [hCn] at this; cases this
  have none0 : ∀ b, s.heap.get? b = none → h₀.get? b = none := fun b q => by
    cases e : h₀.get? b with
    | none => rfl
    | some o => have := K0 _ _ e; rw [q] at this; cases this
  have hD3 : h₃.PlainList D ([] : List Value).toArray := hD2.at fun o q => k3 _ _ q
  have CD : C ≠ D := fun e => by obtain ⟨k, q⟩ := hD2; rw [e, q] at hCn; cases hCn
  have CI : C ≠ It := fun e => by obtain ⟨o, q, _⟩ := hI1; rw [e, k2 _ _ q] at hCn; cases hCn
  have DI : D ≠ It := fun e => by obtain ⟨o, q, _⟩ := hI1; rw [e, q] at hDn; cases hDn
  have lC : l ≠ C := fun e => by rw [e, Cs] at hol; cases hol
  have lD : l ≠ D := fun e => by rw [e, Ds] at hol; cases hol
  have lI : l ≠ It := fun e => by rw [e, hIn] at hol; cases hol
  have hI3 : h₃.IsListIter It l 0 := hI1.at fun o q => k3 _ _ (k2 _ _ q)
  have loop : ∀ pos' : Pos, codeG (mdl prog₀ w) A (.compLoop (.ListComp (.Call (.Name (Str.ofString "bytearray") p1) [.Name (Str.ofString "line") p2] [] p3) [⟨.Name (Str.ofString "line") px, iter, [], 0⟩] scope pos') 0 (.ref It) (.ref D) (compEnv scope C env))
      (fun r s' => ∃ m, s'.heap.Ns C m ∧ ∀ h', Heap.SameBut C s'.heap h' → match r with | .ok _ => Q (.ref D) { s' with heap := h' } | .error x => wpAny (mdl prog₀ w) A (PySem.passOn "comprehension.variables-let-go" x (compEnv scope C env)) Q E { s' with heap := h' })
      { s with heap := h₃, toks := tk + ([] : List (Str × Value)).length } := by
    intro pos'
    refine baLoop (s := s) (H := h₃) (done := []) (rest := items) (ys := []) r X hkind hx (hpk C) ?_ ?_ ?_ lC lD lI CD CI DI (none0 _ Cs) (none0 _ Ds) (none0 _ hIn) (fun b o q => kk b o (K0 b o q)) hB hz hlen ?_ ⟨hI3, hl.at fun o q => kk _ _ q, ⟨_, ns₃⟩, hD3, trivial, rfl, (fun a hm => nomatch hm), .nil, fun b o _ _ _ q => q⟩
    · obtain ⟨o, _, _, q, _⟩ := ns₃; have q' : h₃.get? C = some o := q; rw [q']; exact fun e => nomatch e
    · obtain ⟨n, q⟩ := hD3; rw [q]; exact fun e => nomatch e
    · obtain ⟨o, q, _⟩ := hI3; rw [q]; exact fun e => nomatch e
    · rintro h4 tk4 ys ⟨⟨m, ns4⟩, ⟨n, hD4⟩, ho, hnew, hap, hk⟩
      refine ⟨m, ns4, fun h5 hs5 => ?_⟩
      have newC : ∀ a, .ref a ∈ ys → a ≠ C := fun a hm e => by obtain ⟨o, _, _, q, _⟩ := ns₃; have q' : h₃.get? C = some o := q; have := hnew a hm; rw [e, q'] at this; cases this
      refine h h5 tk4 D n ys ((hs5.2 D (Ne.symm CD)).trans (by simpa using hD4)) (ho.keep fun v hv a e o q => (hs5.2 a (newC a (e ▸ hv))).trans q) Ds (fun a hm => ?_) (List.pairwise_cons.mpr ⟨fun v hv a e q => ?_, hap⟩) fun b o q => ?_
      · cases e : s.heap.get? a with
        | none => rfl
        | some o => have := hnew a hm; rw [kk _ _ e] at this; cases this
      · cases e
        subst q
        obtain ⟨n, q⟩ := hD3
        have := hnew _ hv
        rw [q] at this; cases this
      · have a1 : b ≠ C := fun e => by rw [e, Cs] at q; cases q
        have a2 : b ≠ D := fun e => by rw [e, Ds] at q; cases q
        have a3 : b ≠ It := fun e => by rw [e, hIn] at q; cases q
        exact (hs5.2 b a1).trans (hk b o a1 a2 a3 (kk b o q))
  exact compStartG (loop _) (lift (r.any (wpAny_pyIter_listiter hI3 (loop _))))
end
end Mine

end
section
open PySem PySem.W PySem.W.X PySem.Calls PyProof.Rows PySem.Builtin
set_option maxRecDepth 100000
namespace Mine
theorem warm38 : (∀ P, Mine.hd.heap_39 P = Mine.hd.heap_39 P) ∧ PySem.Challenge.rw_ae6005_01 = PySem.Challenge.rw_ae6005_01 := by
  k_fill
  exact ⟨fun _ => rfl, rfl⟩
theorem gIfExp {M : Model} {A : Around} {E : Value → Shared → Prop} {s : Shared} {env : Env} {test body orelse : Expr} {pos : Pos} {Q : Value → Shared → Prop}
    (h : wpG M A (isTrue test env (eval test env)) (fun c s' => wpG M A (eval (if c = true then body else orelse) env) Q E s') E s) : wpG M A (eval (.IfExp test body orelse pos) env) Q E s := by
  rw [arm_eval_IfExp]
  refine gBind (gMono h (fun c s' h' => ?_) fun _ _ x => x)
  cases c <;> exact h'
def ifOther : Expr → Expr
  | .IfExp _ _ b _ => b
  | _ => .Constant .none 0 default
theorem octs_of_bs {h : Heap} : ∀ {vs : List Value} {bs : List Oct}, BsAt vs bs → Octs h vs bs
  | [], [], _ => trivial
  | _ :: _, _ :: _, x => ⟨.inl x.1, octs_of_bs x.2⟩
theorem paired_eq : ∀ {vs ys : List Value}, Paired (fun v y => v = y) vs ys → vs = ys
  | _, _, .nil => rfl
  | _, _, .cons h t => by rw [h, paired_eq t]
theorem bsAt_imm : ∀ {vs : List Value} {bs : List Oct} {a : Addr}, BsAt vs bs → .ref a ∉ vs
  | [], [], _, _ => fun h => nomatch h
  | _ :: _, _ :: _, a, x => fun hm => by
    obtain ⟨⟨t, rfl⟩, x2⟩ := x
    rcases List.mem_cons.mp hm with e | hm
    · cases e
    · exact bsAt_imm x2 hm
theorem bsAt_apart {vs : List Value} {bs : List Oct} {D : Addr} (x : BsAt vs bs) : (Value.ref D :: vs).Pairwise Apart := by
  refine List.pairwise_cons.mpr ⟨fun v hv a e q => by subst q; exact bsAt_imm x hv, List.pairwise_iff_forall_sublist.mpr fun {u v} hs a e _ => ?_⟩
  subst e
  exact bsAt_imm x (hs.subset (.head _))
def givenS (j : Nat) (m : Str → Option Value) (h₀ : Heap) (L : Addr) (s : Shared) (items : List Oct) (D : Addr) (ys : List Value) (n : Nat) (h' : Heap) : Prop :=
  Fr h₀ L h' (fun y => if y = Str.ofString "given" then some (.ref D) else m y) ∧ h'.get? D = some (listObj ys n) ∧ Octs h' ys items ∧ (∀ a ∈ D :: refs ys, h₀.get? a = none ∧ s.heap.get? a = none) ∧ (Value.ref D :: ys).Pairwise Apart ∧
  ∀ b o, b ≠ L → s.heap.get? b = some o → h'.get? b = some o

def gTest7 : Expr := match valOf (lawAt 7) with | .IfExp t _ _ _ => t | _ => .Constant .none 0 default
theorem pk_ba7 (w : World) (L C : Addr) : PK w (loadName (compEnv (compScope (ifBody (valOf (lawAt 7)))) C (lawEnv L)) (Str.ofString "bytearray")) (.type "bytearray") := by kernel_rfl
section
variable {w : World} {s : Shared} {h₀ : Heap} {L l : Addr} {mg mb : Str → Option Value} {mean : ExcName → Option Value} {A : Around} {E : Value → Shared → Prop} {m : Str → Option Value} {t : Tok} {items : List Oct} {vs : List Value} {outer : List Env} {f : Int}
set_option maxHeartbeats 8000000 in
theorem oddTest7 {Q : Bool → Shared → Prop} (F : Fr h₀ L s.heap m) (hf : m (Str.ofString "first") = some (.int f t)) (T : Top view₀ (looseW view₀ loose₀) mean mg mb h₀)
    (h : ∀ c tk, Q c { s with toks := tk }) : wpAny (model prog₀ w) (A₉ outer) (isTrue gTest7 (lawEnv L) (eval gTest7 (lawEnv L))) Q E s := by
  have N : News h₀ L s.heap [] := fun p hp => nomatch hp
  show wpAny _ _ (isTrue (Expr.Compare (Expr.BinOp (Expr.Name _ _) _ (Expr.Constant _ _ _) _) [.Eq] [Expr.Constant _ _ _] _) (envOf _ { kind := _, names := _, isGenerator := _, isCoroutine := _, more := _ } _ _ _) _) _ _ _
  refine wpAny_isTrue_Compare1 (wpAny_BinOp ?_)
  refine ld F hf ?_
  repeat' (first | walk1 | (dsimp only; walk1))
  all_goals exact h _ _
set_option maxHeartbeats 8000000 in
theorem given7 {Q : Flow → Shared → Prop} (r : Rm A outer) (X : (Mine.hd.heap_39 w.params).In h₀) (T : Top view₀ (looseW view₀ loose₀) mean mg mb h₀) (F : Fr h₀ L s.heap m)
    (hf : m (Str.ofString "first") = some (.int f t)) (hm : m (Str.ofString "lines") = some (.ref l)) (hl : s.heap.IsList l vs.toArray) (hB : BsAt vs items) (hz : ∀ b ∈ items, b.size ≤ 1000) (hlen : items.length ≤ 900)
    (h : ∀ h' tk D ys n, givenS 7 m h₀ L s items D ys n h' → Q .next { s with heap := h', toks := tk }) : wpG (mdl prog₀ w) A (exec (lawAt 7) (lawEnv L)) Q E s := by
  have none0 : ∀ b, s.heap.get? b = none → h₀.get? b = none := fun b q => by
    cases e : h₀.get? b with
    | none => rfl
    | some o => have := F.keep _ _ e; rw [q] at this; cases this
  have store : ∀ h1 tk1 D ys n, h1.get? D = some (listObj ys n) → Octs h1 ys items → s.heap.get? D = none → (∀ a, .ref a ∈ ys → s.heap.get? a = none) → (Value.ref D :: ys).Pairwise Apart → (∀ b o, s.heap.get? b = some o → h1.get? b = some o) →
      wpAny (mdl prog₀ w) A (storeName (lawEnv L) (Str.ofString "given") (.ref D)) (fun _ => Q .next) E { s with heap := h1, toks := tk1 } := fun h1 tk1 D ys n hD ho hDn hn ha hk => by
    have F1 := frExt F hk
    have N1 := news_full h₀ L h1
    obtain ⟨oL, hL⟩ := frNs F
    refine stN F1 N1 fun h2 F2 N2 => ?_
    have k2 := keep_full (X := fun _ => False) F2 F1.keep N2 fun p hp _ => hp
    have DL : D ≠ L := fun e => by rw [e, hL] at hDn; cases hDn
    refine h h2 _ D ys n ⟨F2, k2 _ _ DL _root_.id hD, ho.keep fun v hv a e o q => k2 _ _ (fun e' => ?_) _root_.id q, fun a hm => ?_, ha, fun b o hb q => k2 b o hb _root_.id (hk b o q)⟩
    · have := hn a (e ▸ hv); rw [e', hL] at this; cases this
    · rcases List.mem_cons.mp hm with rfl | hm
      · exact ⟨none0 _ hDn, hDn⟩
      · exact ⟨none0 _ (hn a (mem_refs.mp hm)), hn a (mem_refs.mp hm)⟩
  show wpG _ _ (exec (Stmt.Assign [.Name (Str.ofString "given") _] (.IfExp gTest7 (.ListComp (.Call (.Name (Str.ofString "bytearray") _) [.Name (Str.ofString "line") _] [] _) [⟨.Name (Str.ofString "line") _, .Name _ _, [], 0⟩] (compScope (ifBody (valOf (lawAt 7)))) _)
    (.ListComp (.Name (Str.ofString "line") _) [⟨.Name (Str.ofString "line") _, .Name _ _, [], 0⟩] (compScope (ifOther (valOf (lawAt 7)))) _) _) _) (lawEnv L)) _ _ _
  refine gAssign (gIfExp (toG (lift (r.any (oddTest7 F hf T fun c tk => ?_)))))
  cases c with
  | true =>
    refine compBa (s := { s with toks := tk }) (l := l) (vs := vs) r X F.keep (by decide +kernel) (by decide +kernel) rfl (by decide +kernel) rfl (pk_ba7 w L) hl hB hz hlen (ld (s := { s with toks := tk }) F hm ⟨_, rfl, rfl⟩) fun h1 tk1 D n ys hD ho hDn hn ha hk => ?_
    exact store h1 tk1 D ys n hD ho hDn hn ha hk
  | false =>
    refine toG (lift (r.any (compList (s := { s with toks := tk }) (fun v y => v = y) rfl (by decide +kernel) (by decide +kernel) rfl (by decide +kernel) rfl (ld (s := { s with toks := tk }) F hm ⟨l, vs.toArray, rfl, hl, ?_, ?_, ?_⟩))))
    · have := hB.len; simp; omega
    · intro C v s₃ m₃ E' hv hn hmm hk
      exact wpAny_Name (wpAny_loadName_local rfl rfl hn hmm ⟨rfl, _, _, rfl, fun _ _ q => q⟩) (by decide)
    · intro D h1 tk1 ys hDn hpl hF hk
      have e : vs = ys.toList := by simpa using paired_eq hF
      subst e
      obtain ⟨n, hD⟩ := hpl
      refine store h1 tk1 D ys.toList n (by simpa using hD) (octs_of_bs hB) hDn (fun a hmm => absurd hmm (bsAt_imm hB)) (bsAt_apart hB) hk
end
end Mine

end
section
open PySem PySem.W PySem.W.X PySem.Calls PyProof.Rows PySem.Builtin
set_option maxRecDepth 100000
namespace Mine
theorem warm39 : (∀ P, Mine.hd.heap_39 P = Mine.hd.heap_39 P) ∧ PySem.Challenge.rw_ae6005_01 = PySem.Challenge.rw_ae6005_01 := by
  k_fill
  exact ⟨fun _ => rfl, rfl⟩

def gTest10 : Expr := match valOf (lawAt 10) with | .IfExp t _ _ _ => t | _ => .Constant .none 0 default
theorem pk_ba10 (w : World) (L C : Addr) : PK w (loadName (compEnv (compScope (ifBody (valOf (lawAt 10)))) C (lawEnv L)) (Str.ofString "bytearray")) (.type "bytearray") := by kernel_rfl
section
variable {w : World} {s : Shared} {h₀ : Heap} {L l : Addr} {mg mb : Str → Option Value} {mean : ExcName → Option Value} {A : Around} {E : Value → Shared → Prop} {m : Str → Option Value} {t : Tok} {items : List Oct} {vs : List Value} {outer : List Env} {f : Int}
set_option maxHeartbeats 8000000 in
theorem oddTest10 {Q : Bool → Shared → Prop} (F : Fr h₀ L s.heap m) (hf : m (Str.ofString "first") = some (.int f t)) (T : Top view₀ (looseW view₀ loose₀) mean mg mb h₀)
    (h : ∀ c tk, Q c { s with toks := tk }) : wpAny (model prog₀ w) (A₉ outer) (isTrue gTest10 (lawEnv L) (eval gTest10 (lawEnv L))) Q E s := by
  have N : News h₀ L s.heap [] := fun p hp => nomatch hp
  show wpAny _ _ (isTrue (Expr.Compare (Expr.BinOp (Expr.Name _ _) _ (Expr.Constant _ _ _) _) [.Eq] [Expr.Constant _ _ _] _) (envOf _ { kind := _, names := _, isGenerator := _, isCoroutine := _, more := _ } _ _ _) _) _ _ _
  refine wpAny_isTrue_Compare1 (wpAny_BinOp ?_)
  refine ld F hf ?_
  repeat' (first | walk1 | (dsimp only; walk1))
  all_goals exact h _ _
set_option maxHeartbeats 8000000 in
theorem given10 {Q : Flow → Shared → Prop} (r : Rm A outer) (X : (Mine.hd.heap_39 w.params).In h₀) (T : Top view₀ (looseW view₀ loose₀) mean mg mb h₀) (F : Fr h₀ L s.heap m)
    (hf : m (Str.ofString "first") = some (.int f t)) (hm : m (Str.ofString "lines") = some (.ref l)) (hl : s.heap.IsList l vs.toArray) (hB : BsAt vs items) (hz : ∀ b ∈ items, b.size ≤ 1000) (hlen : items.length ≤ 900)
    (h : ∀ h' tk D ys n, givenS 10 m h₀ L s items D ys n h' → Q .next { s with heap := h', toks := tk }) : wpG (mdl prog₀ w) A (exec (lawAt 10) (lawEnv L)) Q E s := by
  have none0 : ∀ b, s.heap.get? b = none → h₀.get? b = none := fun b q => by
    cases e : h₀.get? b with
    | none => rfl
    | some o => have := F.keep _ _ e; rw [q] at this; cases this
  have store : ∀ h1 tk1 D ys n, h1.get? D = some (listObj ys n) → Octs h1 ys items → s.heap.get? D = none → (∀ a, .ref a ∈ ys → s.heap.get? a = none) → (Value.ref D :: ys).Pairwise Apart → (∀ b o, s.heap.get? b = some o → h1.get? b = some o) →
      wpAny (mdl prog₀ w) A (storeName (lawEnv L) (Str.ofString "given") (.ref D)) (fun _ => Q .next) E { s with heap := h1, toks := tk1 } := fun h1 tk1 D ys n hD ho hDn hn ha hk => by
    have F1 := frExt F hk
    have N1 := news_full h₀ L h1
    obtain ⟨oL, hL⟩ := frNs F
    refine stN F1 N1 fun h2 F2 N2 => ?_
    have k2 := keep_full (X := fun _ => False) F2 F1.keep N2 fun p hp _ => hp
    have DL : D ≠ L := fun e => by rw [e, hL] at hDn; cases hDn
    refine h h2 _ D ys n ⟨F2, k2 _ _ DL _root_.id hD, ho.keep fun v hv a e o q => k2 _ _ (fun e' => ?_) _root_.id q, fun a hm => ?_, ha, fun b o hb q => k2 b o hb _root_.id (hk b o q)⟩
    · have := hn a (e ▸ hv); rw [e', hL] at this; cases this
    · rcases List.mem_cons.mp hm with rfl | hm
      · exact ⟨none0 _ hDn, hDn⟩
      · exact ⟨none0 _ (hn a (mem_refs.mp hm)), hn a (mem_refs.mp hm)⟩
  show wpG _ _ (exec (Stmt.Assign [.Name (Str.ofString "given") _] (.IfExp gTest10 (.ListComp (.Call (.Name (Str.ofString "bytearray") _) [.Name (Str.ofString "line") _] [] _) [⟨.Name (Str.ofString "line") _, .Name _ _, [], 0⟩] (compScope (ifBody (valOf (lawAt 10)))) _)
    (.ListComp (.Name (Str.ofString "line") _) [⟨.Name (Str.ofString "line") _, .Name _ _, [], 0⟩] (compScope (ifOther (valOf (lawAt 10)))) _) _) _) (lawEnv L)) _ _ _
  refine gAssign (gIfExp (toG (lift (r.any (oddTest10 F hf T fun c tk => ?_)))))
  cases c with
  | true =>
    refine compBa (s := { s with toks := tk }) (l := l) (vs := vs) r X F.keep (by decide +kernel) (by decide +kernel) rfl (by decide +kernel) rfl (pk_ba10 w L) hl hB hz hlen (ld (s := { s with toks := tk }) F hm ⟨_, rfl, rfl⟩) fun h1 tk1 D n ys hD ho hDn hn ha hk => ?_
    exact store h1 tk1 D ys n hD ho hDn hn ha hk
  | false =>
    refine toG (lift (r.any (compList (s := { s with toks := tk }) (fun v y => v = y) rfl (by decide +kernel) (by decide +kernel) rfl (by decide +kernel) rfl (ld (s := { s with toks := tk }) F hm ⟨l, vs.toArray, rfl, hl, ?_, ?_, ?_⟩))))
    · have := hB.len; simp; omega
    · intro C v s₃ m₃ E' hv hn hmm hk
      exact wpAny_Name (wpAny_loadName_local rfl rfl hn hmm ⟨rfl, _, _, rfl, fun _ _ q => q⟩) (by decide)
    · intro D h1 tk1 ys hDn hpl hF hk
      have e : vs = ys.toList := by simpa using paired_eq hF
      subst e
      obtain ⟨n, hD⟩ := hpl
      refine store h1 tk1 D ys.toList n (by simpa using hD) (octs_of_bs hB) hDn (fun a hmm => absurd hmm (bsAt_imm hB)) (bsAt_apart hB) hk
end
end Mine

end
section
open PySem PySem.W PySem.W.X PySem.Calls PyProof.Rows PySem.Builtin
set_option maxRecDepth 100000
namespace Mine
theorem warm40 : (∀ P, Mine.hd.heap_39 P = Mine.hd.heap_39 P) ∧ PySem.Challenge.rw_ae6005_01 = PySem.Challenge.rw_ae6005_01 := by
  k_fill
  exact ⟨fun _ => rfl, rfl⟩
/-- what _law_join says of these lines -/
def JoinedAt (h : Heap) (L : Addr) (jv : Value) (items : List Oct) : Prop :=
  ((foldOut none items).2 = true ∧ jv = .none) ∨ ((foldOut none items).2 = false ∧ ∃ J js, jv = .ref J ∧ h.PlainList J js.toArray ∧ BsAt js (foldOut none items).1 ∧ J ≠ L)
theorem JoinedAt.keep {h h' : Heap} {L : Addr} {jv : Value} {items : List Oct} (x : JoinedAt h L jv items) (k : ∀ b o, b ≠ L → h.get? b = some o → h'.get? b = some o) : JoinedAt h' L jv items := by
  rcases x with x | ⟨e, J, js, e1, hJ, hB, hne⟩
  · exact .inl x
  · exact .inr ⟨e, J, js, e1, hJ.at fun o q => k _ _ hne q, hB, hne⟩
theorem lawFr {L : Addr} : ∀ x ∈ framesOf [lawEnv L], x = L := fun x hx => by
  have h : (lawEnv L).frame = some x := by simpa [framesOf] using hx
  exact (Option.some.inj (show some L = some x from h)).symm
def rightOf : Expr → Expr
  | .Compare _ _ rs _ => rs.getD 0 (.Constant .none 0 default)
  | _ => .Constant .none 0 default
def cmp9 : Expr := rightOf (ifTestOf (lawAt 9))
section
variable {w : World} {s : Shared} {h₀ : Heap} {L l lg : Addr} {mg mb : Str → Option Value} {mean : ExcName → Option Value} {A : Around} {E : Value → Shared → Prop} {m : Str → Option Value} {t : Tok} {items : List Oct} {vs ys : List Value} {n : Nat} {jv : Value}
set_option maxHeartbeats 4000000 in
theorem lawJoin {Q : Flow → Shared → Prop} (r : Rk 3 A [lawEnv L]) (X : (Mine.hd.heap_39 w.params).In h₀) (T : Top view₀ (looseW view₀ loose₀) mean mg mb h₀) (nl : h₀.NoLimit) (F : Fr h₀ L s.heap m)
    (hm : m (Str.ofString "lines") = some (.ref l)) (hl : s.heap.IsList l vs.toArray) (hB : BsAt vs items) (hz : sumOf items ≤ 900)
    (h : ∀ h' tk jv, Fr h₀ L h' (fun y => if y = Str.ofString "joined" then some jv else m y) → JoinedAt h' L jv items → (∀ J, jv = .ref J → s.heap.get? J = none) → (∀ b o, b ≠ L → s.heap.get? b = some o → h'.get? b = some o) → Q .next { s with heap := h', toks := tk }) :
    wpG (mdl prog₀ w) A (exec (lawAt 8) (lawEnv L)) Q E s := by
  have X1 := X.keeps F.keep
  have FK := F.keep
  have N := news_full h₀ L s.heap
  obtain ⟨oL, hL⟩ := frNs F
  show wpG _ _ (exec (Stmt.Assign [.Name (Str.ofString "joined") _] (Expr.Call (Expr.Name _ _) [Expr.Name _ _] [] _) _) (envOf _ { kind := _, names := _, isGenerator := _, isCoroutine := _, more := _ } _ _ _)) _ _ _
  refine gAssign (gCallFn1 (a := 120) (o := objAt w.params 120) (fd := fdAt w.params 120) rfl ?_)
  repeat' (first | walk1 | (dsimp only; walk1))
  rename Fr _ _ _ _ => F0
  refine ld F0 hm ⟨⟨X1 _ _ (fn120 w.params).look, (fn120 w.params).data⟩, ?_⟩
  have store : ∀ h1 tk1 jv, JoinedAt h1 L jv items → (∀ J, jv = .ref J → s.heap.get? J = none) → (∀ b o, s.heap.get? b = some o → h1.get? b = some o) →
      wpAny (mdl prog₀ w) A (storeName (lawEnv L) (Str.ofString "joined") jv) (fun _ => Q .next) E { s with heap := h1, toks := tk1 } := fun h1 tk1 jv hj hnew hk => by
    have F1 := frExt F0 hk
    have N1 := news_full h₀ L h1
    refine stN F1 N1 fun h2 F2 N2 => ?_
    have k2 := keep_full (X := fun _ => False) F2 F1.keep N2 fun p hp _ => hp
    exact h h2 _ jv F2 (hj.keep fun b o hb q => k2 b o hb _root_.id q) hnew fun b o hb q => k2 b o hb _root_.id (hk b o q)
  refine joinCall (r.le (by decide)) X1 (T.keeps FK) (nl.keeps FK) hl hB hz (fun e h1 tk1 k1 => ?_) fun acc e h1 tk1 J js k1 hJn hJ hjs => ?_
  · refine store h1 tk1 .none (.inl ⟨?_, rfl⟩) (fun J e => nomatch e) k1
    cases e' : (foldOut none items).2 with
    | true => rfl
    | false => rw [joinSome e'] at e; cases e
  · refine store h1 tk1 (.ref J) (.inr ?_) (fun J' e => by cases e; exact hJn) k1
    cases e' : (foldOut none items).2 with
    | true => rw [(joinNone e').1] at e; cases e
    | false =>
      rw [joinSome e'] at e
      cases e
      exact ⟨rfl, J, js, rfl, hJ, hjs, fun e => by rw [e, hL] at hJn; cases hJn⟩
set_option maxHeartbeats 4000000 in
theorem rightNone {Q : Value → Shared → Prop} {outer : List Env} (T : Top view₀ (looseW view₀ loose₀) mean mg mb h₀) (F : Fr h₀ L s.heap m) (hj : m (Str.ofString "joined") = some .none) (h : ∀ u tk, Q (.int 400 u) { s with toks := tk }) :
    wpAny (model prog₀ w) (A₉ outer) (eval cmp9 (lawEnv L)) Q E s := by
  have N : News h₀ L s.heap [] := fun p hp => nomatch hp
  show wpAny _ _ (eval (Expr.IfExp (Expr.Compare (Expr.Name _ _) _ _ _) (Expr.Constant _ _ _) (Expr.Name _ _) _) (envOf _ { kind := _, names := _, isGenerator := _, isCoroutine := _, more := _ } _ _ _)) _ _ _
  repeat' (first | walk1 | (dsimp only; walk1))
  refine ld F hj ?_
  repeat' (first | walk1 | (dsimp only; walk1))
  all_goals exact h _ _
set_option maxHeartbeats 4000000 in
theorem rightRef {Q : Value → Shared → Prop} {outer : List Env} {J : Addr} (T : Top view₀ (looseW view₀ loose₀) mean mg mb h₀) (F : Fr h₀ L s.heap m) (hj : m (Str.ofString "joined") = some (.ref J)) (h : ∀ tk, Q (.ref J) { s with toks := tk }) :
    wpAny (model prog₀ w) (A₉ outer) (eval cmp9 (lawEnv L)) Q E s := by
  have N : News h₀ L s.heap [] := fun p hp => nomatch hp
  show wpAny _ _ (eval (Expr.IfExp (Expr.Compare (Expr.Name _ _) _ _ _) (Expr.Constant _ _ _) (Expr.Name _ _) _) (envOf _ { kind := _, names := _, isGenerator := _, isCoroutine := _, more := _ } _ _ _)) _ _ _
  have F' := F
  repeat' (first | walk1 | (dsimp only; walk1))
  refine ld F' hj ?_
  have F'' := F'
  repeat' (first | walk1 | (dsimp only; walk1))
  all_goals exact ld F'' hj (h _)
set_option maxHeartbeats 4000000 in
theorem lawFoldChk {Q : Flow → Shared → Prop} (r : Rk 13 A [lawEnv L]) (X : (Mine.hd.heap_39 w.params).In h₀) (T : Top view₀ (looseW view₀ loose₀) mean mg mb h₀) (nl : h₀.NoLimit) (F : Fr h₀ L s.heap m)
    (hm : m (Str.ofString "given") = some (.ref lg)) (hj : m (Str.ofString "joined") = some jv) (hJ : JoinedAt s.heap L jv items) (hl : s.heap.get? lg = some (listObj ys n)) (ho : Octs s.heap ys items) (hz : szOf none items ≤ 900) (hil : items.length ≤ 900)
    (hap : (Value.ref lg :: ys).Pairwise Apart) (hfr : ∀ a ∈ lg :: refs ys, h₀.get? a = none) (hLp : L ∉ lg :: refs ys) (hJp : ∀ J, jv = .ref J → J ∉ lg :: refs ys)
    (h : ∀ s', PastF (lg :: refs ys) [L] s s' → Fr h₀ L s'.heap m → Q .next s') :
    wpG (mdl prog₀ w) A (exec (lawAt 9) (lawEnv L)) Q E s := by
  have X1 := X.keeps F.keep
  have FK := F.keep
  have Fa := F.above
  have N := news_full h₀ L s.heap
  obtain ⟨oL, hL⟩ := frNs F
  have ff := lawFrames F
  have Fns := F.ns
  show wpG _ _ (exec (Stmt.If (Expr.Compare (Expr.Call (Expr.Name _ _) [Expr.Name _ _] [] _) [.NotEq] [cmp9] _) [Stmt.Return _ _] [] _) (envOf _ { kind := _, names := _, isGenerator := _, isCoroutine := _, more := _ } _ _ _)) _ _ _
  refine gIf (gCompareG (gCallFn1 (a := 130) (o := objAt w.params 130) (fd := fdAt w.params 130) rfl ?_))
  repeat' (first | walk1 | (dsimp only; walk1))
  rename Fr _ _ _ _ => F0
  refine ld F0 hm ⟨⟨X1 _ _ (fn130 w.params).look, (fn130 w.params).data⟩, ?_⟩
  refine lfoldCall (r.le (by decide)) X T nl FK (Nat.le_trans Fa (Nat.le_of_lt (Heap.lt_size hL))) ff hl ho hz hil hap hfr (fun x hx => by rw [lawFr x hx]; exact hLp) (fun e s1 D zs p1 hD hz1 hDn => ?_) (fun e s1 p1 => ?_)
  · rcases hJ with ⟨e', _⟩ | ⟨_, J, js, rfl, hJ, hjs, hJL⟩
    · rw [e] at e'; cases e'
    have F1 : Fr h₀ L s1.heap m := ⟨Fns.at' fun o q => p1.keep _ _ hLp q, fun b o q => p1.keep b o (fun hm => by rw [hfr b hm] at q; cases q) (FK b o q), Fa⟩
    have hJ1 : s1.heap.PlainList J js.toArray := hJ.at fun o q => p1.keep _ _ (hJp J rfl) q
    have l1 := hz1.len
    have l2 := hjs.len
    refine toG (lift (r.rm.any (rightRef T F1 hj fun tk => ?_)))
    refine lift (r.rm.any (listNe (s := { s1 with toks := tk }) hD.isList hJ1.isList (by simp; omega) (Nat.le_of_ble_eq_true rfl) (fun j hj1 hj2 => ?_) (wpAny_truthy_bool (gExecsNil (h _ ⟨fun b o hP hS q => p1.keep b o hP q, fun b o hP q => ⟨o.slots, p1.keep b o hP q⟩, p1.bare, p1.os⟩ F1)))))
    have hj1' : j < zs.length := by simpa using hj1
    have hj2' : j < js.length := by simpa using hj2
    have hj3 : j < (foldOut none items).1.length := by omega
    obtain ⟨t1, e1⟩ := bsAt_get hz1 hj3
    obtain ⟨t2, e2⟩ := bsAt_get hjs hj3
    rw [List.getElem?_eq_getElem hj1'] at e1
    rw [List.getElem?_eq_getElem hj2'] at e2
    rw [show zs.toArray[j] = zs[j] from by simp, show js.toArray[j] = js[j] from by simp, Option.some.inj e1, Option.some.inj e2]
    exact eqAtBytes _ _ _ _ _
  · rcases Or.symm hJ with ⟨e', _⟩ | ⟨_, rfl⟩
    · rw [e] at e'; cases e'
    have p2 : PastF (lg :: refs ys) [L] s s1 := ⟨fun b o hP hS q => p1.keep b o hP (fun hx => hS (by rw [lawFr b hx]; exact .head _)) q, p1.slots, p1.bare, p1.os⟩
    have LL : ∀ b o, h₀.get? b = some o → s1.heap.get? b = some o := fun b o q => p2.keep b o (fun hm => by rw [hfr b hm] at q; cases q) (fun hx => by
      have e : b = L := by simpa using hx
      rw [e] at q
      exact absurd (Heap.lt_size q) (Nat.not_lt_of_le Fa)) (FK b o q)
    have F1 : Fr h₀ L s1.heap m := ⟨Mine.Ns.slots Fns fun o q => p2.slots _ _ hLp q, LL, Fa⟩
    refine toG (lift (r.rm.any (rightNone T F1 hj fun u tk => ?_)))
    have X2 := X.keeps F1.keep
    have N1 : News h₀ L s1.heap [] := fun p hp => nomatch hp
    refine lift (r.rm.any ?_)
    repeat' (first | walk1 | (dsimp only; walk1))
    exact gExecsNil (h _ ⟨p2.keep, p2.slots, p2.bare, p2.os⟩ F1)
end
end Mine

end
section
open PySem PySem.W PySem.W.X PySem.Calls PyProof.Rows PySem.Builtin
set_option maxRecDepth 100000
namespace Mine
theorem warm41 : (∀ P, Mine.hd.heap_39 P = Mine.hd.heap_39 P) ∧ PySem.Challenge.rw_ae6005_01 = PySem.Challenge.rw_ae6005_01 := by
  k_fill
  exact ⟨fun _ => rfl, rfl⟩
theorem gCallFn2 {M : Model} {A : Around} {E : Value → Shared → Prop} {s : Shared} {env : Env} {f : Str} {p pos : Pos} {e1 e2 : Expr} {a : Addr} {o : Obj} {fd : FuncData} {Q : Value → Shared → Prop} (hs : starEach [e1, e2] env = [(false, eval e1 env), (false, eval e2 env)])
    (h : wpAny M A (eval (.Name f p) env) (fun v s₁ => v = .ref a ∧ wpAny M A (eval e1 env) (fun x s₂ => wpAny M A (eval e2 env) (fun y s₃ => (s₃.heap.get? a = some o ∧ o.data = .func fd) ∧ wpG M A (call (.ref a) [x, y]) Q E s₃) E s₂) E s₁) E s) :
    wpG M A (eval (.Call (.Name f p) [e1, e2] [] pos) env) Q E s := by
  refine gCallName (wpAny_mono h (fun v s₁ h₁ => ?_) fun _ _ x => x)
  obtain ⟨rfl, h₁⟩ := h₁
  rw [hs]
  exact gCallWithFn (Calls.evalArgs_plain (Calls.spliced_cons (wpAny_mono h₁ (fun x s₂ h₂ => Calls.spliced_cons (wpAny_mono h₂ (fun y s₃ h₃ => Calls.spliced_nil h₃) fun _ _ x => x)) fun _ _ x => x)))
theorem PairsAt.notFrame {h : Heap} {vs : List Value} {bs : List (Oct × Oct)} {L : Addr} {m : Str → Option Value} (x : PairsAt h vs bs) (ns : h.Ns L m) : ∀ v ∈ vs, ∀ a, v = .ref a → a ≠ L := fun v hv a e q => by
  subst e; subst q
  obtain ⟨q, t, t1, t2, e, ht⟩ := x.there a hv
  cases e
  obtain ⟨o, es, ep, ho, hd, _⟩ := ns
  rw [ht] at ho; cases ho; cases hd
section
variable {w : World} {s : Shared} {h₀ : Heap} {L l lg tA : Addr} {mg mb : Str → Option Value} {mean : ExcName → Option Value} {A : Around} {E : Value → Shared → Prop} {m : Str → Option Value} {t : Tok} {items : List Oct} {vs ys : List Value} {n : Nat} {jv : Value} {outer : List Env}
set_option maxHeartbeats 4000000 in
theorem lawTold {Q : Flow → Shared → Prop} (F : Fr h₀ L s.heap m)
    (h : ∀ h' tk D, Fr h₀ L h' (fun y => if y = Str.ofString "told" then some (.ref D) else m y) → h'.PlainList D ([] : List Value).toArray → s.heap.get? D = none → h₀.get? D = none → D ≠ L → (∀ b o, b ≠ L → s.heap.get? b = some o → h'.get? b = some o) → Q .next { s with heap := h', toks := tk }) :
    wpAny (model prog₀ w) (A₉ outer) (exec (lawAt 11) (lawEnv L)) Q E s := by
  have N := news_full h₀ L s.heap
  have FK := F.keep
  show wpAny _ _ (exec (Stmt.Assign _ _ _) (envOf _ { kind := _, names := _, isGenerator := _, isCoroutine := _, more := _ } _ _ _)) _ _ _
  repeat' (first | walk1 | (dsimp only; walk1))
  rename Fr _ _ _ _ => F1
  rename News _ _ _ _ => N1
  have n1 := N1 _ (.head _)
  have k1 := keep_full (X := fun _ => False) F1 FK N1 fun p hp _ => .tail _ hp
  exact h _ _ _ F1 ⟨_, n1.1⟩ (Heap.get?_none_of_le (Nat.le_refl _)) n1.2.2 n1.2.1 fun b o hb q => k1 b o hb _root_.id q
set_option maxHeartbeats 4000000 in
theorem lawDue {Q : Flow → Shared → Prop} (F : Fr h₀ L s.heap m)
    (h : ∀ h' tk D, Fr h₀ L h' (fun y => if y = Str.ofString "due" then some (.ref D) else m y) → h'.PlainList D ([] : List Value).toArray → s.heap.get? D = none → h₀.get? D = none → D ≠ L → (∀ b o, b ≠ L → s.heap.get? b = some o → h'.get? b = some o) → Q .next { s with heap := h', toks := tk }) :
    wpAny (model prog₀ w) (A₉ outer) (exec (lawAt 13) (lawEnv L)) Q E s := by
  have N := news_full h₀ L s.heap
  have FK := F.keep
  show wpAny _ _ (exec (Stmt.Assign _ _ _) (envOf _ { kind := _, names := _, isGenerator := _, isCoroutine := _, more := _ } _ _ _)) _ _ _
  repeat' (first | walk1 | (dsimp only; walk1))
  rename Fr _ _ _ _ => F1
  rename News _ _ _ _ => N1
  have n1 := N1 _ (.head _)
  have k1 := keep_full (X := fun _ => False) F1 FK N1 fun p hp _ => .tail _ hp
  exact h _ _ _ F1 ⟨_, n1.1⟩ (Heap.get?_none_of_le (Nat.le_refl _)) n1.2.2 n1.2.1 fun b o hb q => k1 b o hb _root_.id q
abbrev tellOf (items : List Oct) : List (Oct × Oct) × Bool := decOut pairL (foldOut none items).2 (foldOut none items).1
set_option maxHeartbeats 4000000 in
theorem lawHint {Q : Flow → Shared → Prop} (r : Rk 15 A [lawEnv L]) (X : (Mine.hd.heap_39 w.params).In h₀) (T : Top view₀ (looseW view₀ loose₀) mean mg mb h₀) (nl : h₀.NoLimit) (F : Fr h₀ L s.heap m)
    (hm : m (Str.ofString "given") = some (.ref lg)) (htm : m (Str.ofString "told") = some (.ref tA)) (hl : s.heap.get? lg = some (listObj ys n)) (ho : Octs s.heap ys items) (hz : szOf none items ≤ 900) (hil : items.length ≤ 900)
    (hap : (Value.ref lg :: ys).Pairwise Apart) (hfr : ∀ a ∈ lg :: refs ys, h₀.get? a = none) (hLp : L ∉ lg :: refs ys) (hT : s.heap.PlainList tA ([] : List Value).toArray) (tP : tA ∉ lg :: refs ys) (tL : tA ≠ L) (t0 : h₀.get? tA = none)
    (h : ∀ s' vs hv u, (∀ b o, b ∉ tA :: lg :: refs ys → b ≠ L → s.heap.get? b = some o → s'.heap.get? b = some o) → (AllBare s.gens → AllBare s'.gens) → s'.os = s.os → Fr h₀ L s'.heap (fun y => if y = Str.ofString "hint" then some (.int hv u) else m y) → s'.heap.PlainList tA vs.toArray → PairsAt s'.heap vs (tellOf items).1 → hv = (if (tellOf items).2 = true then 400 else 0) → Q .next s') :
    wpG (mdl prog₀ w) A (exec (lawAt 12) (lawEnv L)) Q E s := by
  have X1 := X.keeps F.keep
  have FK := F.keep
  have Fa := F.above
  have N := news_full h₀ L s.heap
  obtain ⟨oL, hL⟩ := frNs F
  have ff := lawFrames F
  have Fns := F.ns
  show wpG _ _ (exec (Stmt.Assign [.Name (Str.ofString "hint") _] (Expr.Call (Expr.Name _ _) [Expr.Name _ _, Expr.Name _ _] [] _) _) (envOf _ { kind := _, names := _, isGenerator := _, isCoroutine := _, more := _ } _ _ _)) _ _ _
  refine gAssign (gCallFn2 (a := 137) (o := objAt w.params 137) (fd := fdAt w.params 137) rfl ?_)
  repeat' (first | walk1 | (dsimp only; walk1))
  rename Fr _ _ _ _ => F0
  refine ld F0 hm (ld F0 htm ⟨⟨X1 _ _ (fn137 w.params).look, (fn137 w.params).data⟩, ?_⟩)
  have store : ∀ s1 vs hv u, PastF (tA :: lg :: refs ys) [L] s s1 → s1.heap.PlainList tA vs.toArray → PairsAt s1.heap vs (tellOf items).1 → hv = (if (tellOf items).2 = true then 400 else 0) →
      wpAny (mdl prog₀ w) A (storeName (lawEnv L) (Str.ofString "hint") (.int hv u)) (fun _ => Q .next) E s1 := fun s1 vs hv u p1 hvs hp e => by
    have LL : ∀ b o, h₀.get? b = some o → s1.heap.get? b = some o := fun b o q => p1.keep b o (fun hm => by
      rcases List.mem_cons.mp hm with e | hm
      · rw [e, t0] at q; cases q
      · rw [hfr b hm] at q; cases q) (fun hx => by
      have e : b = L := by simpa using hx
      rw [e] at q
      exact absurd (Heap.lt_size q) (Nat.not_lt_of_le Fa)) (FK b o q)
    have F1 : Fr h₀ L s1.heap m := ⟨Mine.Ns.slots Fns fun o q => p1.slots _ _ (fun hm => by
      rcases List.mem_cons.mp hm with e | hm
      · exact tL e.symm
      · exact hLp hm) q, LL, Fa⟩
    have N1 := news_full h₀ L s1.heap
    refine stN F1 N1 fun h2 F2 N2 => ?_
    have k2 := keep_full (X := fun _ => False) F2 F1.keep N2 fun p hp _ => hp
    exact h _ vs hv u (fun b o hP hS q => k2 b o hS _root_.id (p1.keep b o hP (fun hx => hS (by simpa using hx)) q)) p1.bare p1.os F2 (hvs.at fun o q => k2 _ _ tL _root_.id q) (hp.keep fun v hv a e o q => k2 _ _ (hp.notFrame F1.ns v hv a e) _root_.id q) e
  refine lpairsCall pairOk (r.le (by decide)) X T nl FK (Nat.le_trans Fa (Nat.le_of_lt (Heap.lt_size hL))) ff (fun x hx => ⟨m, by rw [lawFr x hx]; exact Fns⟩) hl ho hz hil hap hfr (fun x hx => by rw [lawFr x hx]; exact hLp) hT tP (fun hm => tL (lawFr _ hm)) t0 (fun e s1 vs u p1 hvs hp => ?_) (fun e s1 vs p1 hvs hp => ?_)
  · exact store s1 vs 0 u (p1.toF _) hvs hp (by rw [if_neg (by rw [show (tellOf items).2 = false from e]; decide)])
  · exact store s1 vs 400 303 ⟨fun b o hP hS q => p1.keep b o hP (fun hx => hS (by rw [lawFr b hx]; exact .head _)) q, p1.slots, p1.bare, p1.os⟩ hvs hp (by rw [if_pos (show (tellOf items).2 = true from e)])
end
end Mine

end
section
open PySem PySem.W PySem.W.X PySem.Calls PyProof.Rows PySem.Builtin
set_option maxRecDepth 100000
namespace Mine
theorem warm42 : (∀ P, Mine.hd.heap_39 P = Mine.hd.heap_39 P) ∧ PySem.Challenge.rw_ae6005_01 = PySem.Challenge.rw_ae6005_01 := by
  k_fill
  exact ⟨fun _ => rfl, rfl⟩
section
variable {w : World} {s : Shared} {h₀ : Heap} {L l lg tA J : Addr} {mg mb : Str → Option Value} {mean : ExcName → Option Value} {A : Around} {E : Value → Shared → Prop} {m : Str → Option Value} {t u : Tok} {items : List Oct} {vs ys : List Value} {n : Nat} {jv : Value} {outer : List Env} {hv : Int}
set_option maxHeartbeats 4000000 in
/-- joined is None: the last answer -/
theorem lawNone {Q : Flow → Shared → Prop} (T : Top view₀ (looseW view₀ loose₀) mean mg mb h₀) (F : Fr h₀ L s.heap m)
    (hj : m (Str.ofString "joined") = some .none) (hh : m (Str.ofString "hint") = some (.int 400 u)) (ht : m (Str.ofString "told") = some (.ref tA)) (hT : s.heap.PlainList tA ([] : List Value).toArray) (tL : tA ≠ L) (t0 : h₀.get? tA = none)
    (h : ∀ h' tk, (∀ b o, h₀.get? b = some o → h'.get? b = some o) → Q (.ret (.bool true)) { s with heap := h', toks := tk }) :
    wpAny (model prog₀ w) (A₉ outer) (exec (lawAt 14) (lawEnv L)) Q E s := by
  obtain ⟨n, hTg⟩ := id hT
  have N : News h₀ L s.heap [(tA, listObj [] n)] := fun p hp => by
    rcases List.mem_cons.mp hp with rfl | hp
    · exact ⟨hTg, tL, t0⟩
    · cases hp
  have FK := F.keep
  show wpAny _ _ (exec (Stmt.If (Expr.Compare (Expr.Name _ _) _ _ _) [Stmt.Return (some (Expr.BoolOp _ [Expr.Compare (Expr.Name _ _) _ _ _, Expr.Compare (Expr.Name _ _) [.Eq] [Expr.List [] _] _] _)) _] _ _) (envOf _ { kind := _, names := _, isGenerator := _, isCoroutine := _, more := _ } _ _ _)) _ _ _
  have F1 := F
  repeat' (first | walk1 | (dsimp only; walk1))
  refine ld F1 hj ?_
  have F2 := F1
  repeat' (first | walk1 | (dsimp only; walk1))
  refine ld F2 hh ?_
  have F3 := F2
  repeat' (first | walk1 | (dsimp only; walk1))
  refine ld F3 ht ?_
  have F4 := F3
  repeat' (first | walk1 | (dsimp only; walk1))
  rename Fr _ _ _ _ => F9
  rename News _ _ _ _ => N9
  rw [show (PyData.list []).eqv (PyData.list []) = true from by decide +kernel]
  exact h _ _ F9.keep
set_option maxHeartbeats 4000000 in
theorem lawSome {Q : Flow → Shared → Prop} (T : Top view₀ (looseW view₀ loose₀) mean mg mb h₀) (F : Fr h₀ L s.heap m)
    (hj : m (Str.ofString "joined") = some (.ref J)) (h : ∀ tk, Q .next { s with toks := tk }) :
    wpAny (model prog₀ w) (A₉ outer) (exec (lawAt 14) (lawEnv L)) Q E s := by
  have N : News h₀ L s.heap [] := fun p hp => nomatch hp
  have FK := F.keep
  show wpAny _ _ (exec (Stmt.If (Expr.Compare (Expr.Name _ _) _ _ _) [Stmt.Return (some (Expr.BoolOp _ [Expr.Compare (Expr.Name _ _) _ _ _, Expr.Compare (Expr.Name _ _) [.Eq] [Expr.List [] _] _] _)) _] _ _) (envOf _ { kind := _, names := _, isGenerator := _, isCoroutine := _, more := _ } _ _ _)) _ _ _
  have F1 := F
  repeat' (first | walk1 | (dsimp only; walk1))
  refine ld F1 hj ?_
  repeat' (first | walk1 | (dsimp only; walk1))
  all_goals exact h _
end
end Mine

end
section
open PySem PySem.W PySem.W.X PySem.Calls PyProof.Rows PySem.Builtin
set_option maxRecDepth 100000
namespace Mine
theorem warm43 : (∀ P, Mine.hd.heap_39 P = Mine.hd.heap_39 P) ∧ PySem.Challenge.rw_ae6005_01 = PySem.Challenge.rw_ae6005_01 := by
  k_fill
  exact ⟨fun _ => rfl, rfl⟩
def dueBody (n : Nat) : Stmt := (forBody (lawAt 15)).getD n (.Pass default)
theorem pairsEq {h : Heap} : ∀ {vs us : List Value} {qs : List (Oct × Oct)}, PairsAt h vs qs → PairsAt h us qs → ∀ (j : Nat) (h1 : j < vs.length) (h2 : j < us.length), ∃ q, PairAt h vs[j] q ∧ PairAt h us[j] q
  | _ :: _, _ :: _, _ :: _, x, y, 0, _, _ => ⟨_, x.1, y.1⟩
  | _ :: _, _ :: _, _ :: _, x, y, j + 1, h1, h2 => pairsEq x.2 y.2 j (Nat.lt_of_succ_lt_succ h1) (Nat.lt_of_succ_lt_succ h2)
  | [], _, _, _, _, _, h1, _ => absurd h1 (Nat.not_lt_zero _)
  | _ :: _, [], _, _, _, _, _, h2 => absurd h2 (Nat.not_lt_zero _)
section
variable {w : World} {s : Shared} {h₀ : Heap} {L tA dA J : Addr} {mg mb : Str → Option Value} {mean : ExcName → Option Value} {A : Around} {E : Value → Shared → Prop} {m : Str → Option Value} {t u : Tok} {items : List Oct} {js ts ds : List Value} {jv : Value} {outer : List Env} {hv : Int} {all : List (Oct × Oct)} {b : Oct}
/-- both lists are alike -/
theorem pairLists {Q : Value → Shared → Prop} (h1 : s.heap.PlainList tA ts.toArray) (h2 : s.heap.PlainList dA ds.toArray) (p1 : PairsAt s.heap ts all) (p2 : PairsAt s.heap ds all) (h : Q (.bool true) s) :
    wpAny (model prog₀ w) (A₉ outer) (compareOp .Eq (.ref tA) (.ref dA)) Q E s := by
  have l1 := p1.len
  have l2 := p2.len
  refine listEq h1.isList h2.isList (by simp; omega) (Nat.le_of_ble_eq_true rfl) (fun j hj1 hj2 => ?_) h
  obtain ⟨q, a, b⟩ := pairsEq p1 p2 j (by simpa using hj1) (by simpa using hj2)
  simp only [List.getElem_toArray]
  exact eqAtPair (Nat.le_of_ble_eq_true rfl) a b
set_option maxHeartbeats 4000000 in
theorem dueNone {Q : Flow → Shared → Prop} (T : Top view₀ (looseW view₀ loose₀) mean mg mb h₀) (F : Fr h₀ L s.heap m)
    (hp : m (Str.ofString "pair") = some .none) (hh : m (Str.ofString "hint") = some (.int 400 u)) (ht : m (Str.ofString "told") = some (.ref tA)) (hd : m (Str.ofString "due") = some (.ref dA)) (h1 : s.heap.PlainList tA ts.toArray) (h2 : s.heap.PlainList dA ds.toArray) (p1 : PairsAt s.heap ts all) (p2 : PairsAt s.heap ds all)
    (h : ∀ h' tk, (∀ b o, h₀.get? b = some o → h'.get? b = some o) → Q (.ret (.bool true)) { s with heap := h', toks := tk }) :
    wpAny (model prog₀ w) (A₉ outer) (exec (dueBody 1) (lawEnv L)) Q E s := by
  have N : News h₀ L s.heap [] := fun p hp => nomatch hp
  have FK := F.keep
  show wpAny _ _ (exec (Stmt.If (Expr.Compare (Expr.Name _ _) _ _ _) [Stmt.Return (some (Expr.BoolOp _ [Expr.Compare (Expr.Name _ _) _ _ _, Expr.Compare (Expr.Name _ _) [.Eq] [Expr.Name _ _] _] _)) _] _ _) (envOf _ { kind := _, names := _, isGenerator := _, isCoroutine := _, more := _ } _ _ _)) _ _ _
  have F1 := F
  repeat' (first | walk1 | (dsimp only; walk1))
  refine ld F1 hp ?_
  have F2 := F1
  repeat' (first | walk1 | (dsimp only; walk1))
  refine ld F2 hh ?_
  have F3 := F2
  repeat' (first | walk1 | (dsimp only; walk1))
  refine ld F3 ht ?_
  have F4 := F3
  repeat' (first | walk1 | (dsimp only; walk1))
  refine ld F4 hd ?_
  have F5 := F4
  repeat' (first | walk1 | (dsimp only; walk1))
  exact pairLists h1 h2 p1 p2 (h _ _ FK)
set_option maxHeartbeats 4000000 in
theorem dueSome {Q : Flow → Shared → Prop} {v : Addr} (T : Top view₀ (looseW view₀ loose₀) mean mg mb h₀) (F : Fr h₀ L s.heap m)
    (hp : m (Str.ofString "pair") = some (.ref v)) (h : ∀ tk, Q .next { s with toks := tk }) :
    wpAny (model prog₀ w) (A₉ outer) (exec (dueBody 1) (lawEnv L)) Q E s := by
  have N : News h₀ L s.heap [] := fun p hp => nomatch hp
  have FK := F.keep
  show wpAny _ _ (exec (Stmt.If (Expr.Compare (Expr.Name _ _) _ _ _) [Stmt.Return (some (Expr.BoolOp _ [Expr.Compare (Expr.Name _ _) _ _ _, Expr.Compare (Expr.Name _ _) [.Eq] [Expr.Name _ _] _] _)) _] _ _) (envOf _ { kind := _, names := _, isGenerator := _, isCoroutine := _, more := _ } _ _ _)) _ _ _
  have F1 := F
  repeat' (first | walk1 | (dsimp only; walk1))
  refine ld F1 hp ?_
  repeat' (first | walk1 | (dsimp only; walk1))
  all_goals exact h _
set_option maxHeartbeats 4000000 in
theorem dueApp {Q : Flow → Shared → Prop} {v : Value} (T : Top view₀ (looseW view₀ loose₀) mean mg mb h₀) (F : Fr h₀ L s.heap m)
    (hp : m (Str.ofString "pair") = some v) (hd : m (Str.ofString "due") = some (.ref dA)) (hD : s.heap.PlainList dA ds.toArray) (hn : ds.length ≤ 1000)
    (h : ∀ h' tk, h'.PlainList dA (ds ++ [v]).toArray → Heap.SameBut dA s.heap h' → Q .next { s with heap := h', toks := tk }) :
    wpAny (model prog₀ w) (A₉ outer) (exec (dueBody 2) (lawEnv L)) Q E s := by
  have N : News h₀ L s.heap [] := fun p hp => nomatch hp
  show wpAny _ _ (exec (Stmt.Expr (Expr.Call (Expr.Attribute (Expr.Name _ _) _ _) [Expr.Name _ _] [] _) _) (envOf _ { kind := _, names := _, isGenerator := _, isCoroutine := _, more := _ } _ _ _)) _ _ _
  have F1 := F
  repeat' (first | walk1 | (dsimp only; walk1))
  refine ld F1 hd ?_
  have F2 := F1
  repeat' (first | walk1 | (dsimp only; walk1))
  refine getMethod_builtin hD.isList.typeIs _root_.PySem.F.plainAttrs_list slot_list_append type_list_append (fun a e => by cases e; obtain ⟨n, q⟩ := hD; exact ⟨_, q, rfl⟩) ?_
  dsimp only
  repeat' (first | walk1 | (dsimp only; walk1))
  refine ld F2 hp ?_
  have F3 := F2
  repeat' (first | walk1 | (dsimp only; walk1))
  refine wpAny_list_append_plain hD (fun h' hJ' hs => ?_) (by simp [sizeLine_eq]; omega)
  exact h h' _ (by simpa using hJ') hs
end
end Mine

end
section
open PySem PySem.W PySem.W.X PySem.Calls PyProof.Rows PySem.Builtin
set_option maxRecDepth 100000
namespace Mine
theorem warm44 : (∀ P, Mine.hd.heap_39 P = Mine.hd.heap_39 P) ∧ PySem.Challenge.rw_ae6005_01 = PySem.Challenge.rw_ae6005_01 := by
  k_fill
  exact ⟨fun _ => rfl, rfl⟩
theorem PairsAt.but {h h' : Heap} {x : Addr} {vs : List Value} {qs : List (Oct × Oct)} (p : PairsAt h vs qs) (hx : ∀ a b, h.get? x ≠ some (tupObj [a, b])) (k : ∀ b o, b ≠ x → h.get? b = some o → h'.get? b = some o) : PairsAt h' vs qs :=
  p.keep fun v hv a e o q => k a o (fun e' => by
    subst e; subst e'
    obtain ⟨q', t, t1, t2, e, ht⟩ := p.there a hv
    cases e
    exact hx _ _ ht) q
theorem notTup_iter {h : Heap} {It J : Addr} {i : Nat} (x : h.IsListIter It J i) : ∀ a b, h.get? It ≠ some (tupObj [a, b]) := fun a b e => by
  obtain ⟨o, q, c, _⟩ := x
  rw [e] at q
  cases Option.some.inj q
  exact absurd (show Value.type "tuple" = Value.type "list_iterator" from c) (by decide)
theorem notTup_list {h : Heap} {D : Addr} {xs : Array Value} (x : h.PlainList D xs) : ∀ a b, h.get? D ≠ some (tupObj [a, b]) := fun a b e => by
  obtain ⟨n, q⟩ := x
  rw [e] at q
  exact absurd (show Value.type "tuple" = Value.type "list" from congrArg Obj.cls (Option.some.inj q)) (by decide)
theorem notTup_ns {h : Heap} {L : Addr} {m : Str → Option Value} (x : h.Ns L m) : ∀ a b, h.get? L ≠ some (tupObj [a, b]) := fun a b e => by
  obtain ⟨o, es, ep, ho, hd, _⟩ := x
  rw [e] at ho; cases ho; cases hd
/-- the last loop between two lines -/
structure DueSt (h₀ : Heap) (L It J dA tA : Addr) (js ts : List Value) (all : List (Oct × Oct)) (hv : Int) (u : Tok) (h' : Heap) (rest : List Oct) : Prop where
  fr : ∃ m, Fr h₀ L h' m ∧ m (Str.ofString "hint") = some (.int hv u) ∧ m (Str.ofString "told") = some (.ref tA) ∧ m (Str.ofString "due") = some (.ref dA)
  iter : ∃ i, h'.IsListIter It J i ∧ BsAt (js.drop i) rest
  list : h'.IsList J js.toArray
  due : ∃ ds done, h'.PlainList dA ds.toArray ∧ PairsAt h' ds done ∧ done ++ (decOut pairL false rest).1 = all ∧ done.length + rest.length ≤ 900
  told : h'.PlainList tA ts.toArray
  tp : PairsAt h' ts all
  flag : hv = if (decOut pairL false rest).2 = true then 400 else 0
  sz : ∀ b ∈ rest, b.size ≤ 1000
section
variable {w : World} {s : Shared} {h₀ : Heap} {L tA dA J It : Addr} {mg mb : Str → Option Value} {mean : ExcName → Option Value} {A : Around} {E : Value → Shared → Prop} {m : Str → Option Value} {t u : Tok} {js ts ds : List Value} {hv : Int} {all : List (Oct × Oct)} {rest : List Oct}
set_option maxHeartbeats 4000000 in
theorem dueLoop {Q : Flow → Shared → Prop} (r : Rk 3 A [lawEnv L]) (X : (Mine.hd.heap_39 w.params).In h₀) (T : Top view₀ (looseW view₀ loose₀) mean mg mb h₀) (nl : h₀.NoLimit)
    (IL : It ≠ L) (Id : It ≠ dA) (It_ : It ≠ tA) (IJ : It ≠ J) (Jd : J ≠ dA) (JL : J ≠ L) (dL : dA ≠ L) (tL : tA ≠ L) (td : tA ≠ dA) (I0 : h₀.get? It = none) (d0 : h₀.get? dA = none)
    (hret : ∀ h' tk, (∀ b o, h₀.get? b = some o → h'.get? b = some o) → Q (.ret (.bool true)) { s with heap := h', toks := tk })
    (hnext : ∀ h' tk m ds, Fr h₀ L h' m → m (Str.ofString "hint") = some (.int 0 u) → m (Str.ofString "told") = some (.ref tA) → m (Str.ofString "due") = some (.ref dA) → h'.PlainList tA ts.toArray → h'.PlainList dA ds.toArray → PairsAt h' ts all → PairsAt h' ds all → Q .next { s with heap := h', toks := tk })
    {h' : Heap} {tk : Nat} (x : DueSt h₀ L It J dA tA js ts all hv u h' rest) :
    codeG (mdl prog₀ w) A (.forLoop (forTarget (lawAt 15)) (.ref It) (forBody (lawAt 15)) [] (lawEnv L)) (fun r s' => match r with | .ok f => Q f s' | .error e => cameBackBy (mdl prog₀ w) A (lawEnv L) E e s') { s with heap := h', toks := tk } := by
  refine forLoopG (fun n s' => ∃ h' tk rest, s' = { s with heap := h', toks := tk } ∧ n = rest.length ∧ DueSt h₀ L It J dA tA js ts all hv u h' rest) ?_ rest.length ⟨h', tk, rest, rfl, rfl, x⟩
  clear x
  rintro n s' ⟨h', tk, rest, rfl, rfl, x⟩
  obtain ⟨m, F, hh, ht, hd⟩ := x.fr
  obtain ⟨i, hit, hB⟩ := x.iter
  obtain ⟨ds, done, hD, hP, hall, hlen⟩ := x.due
  cases rest with
  | nil =>
    have hx : js.toArray[i]? = none := by
      have := hB.len
      simp only [List.length_drop, List.length_nil] at this
      simp only [List.getElem?_toArray]
      exact List.getElem?_eq_none (by omega)
    refine toG (lift (wpAny_pyNext_list_end r.hd hit x.list hx fun h₁ hb => ?_))
    refine gExecsNil ?_
    have e1 : done = all := by simpa [decOut] using hall
    have e2 : hv = 0 := x.flag
    subst e2
    refine hnext h₁ tk m ds ⟨F.ns.at' fun o q => hb _ _ (Ne.symm IL) q, fun b o q => hb b o (fun e => by rw [e, I0] at q; cases q) (F.keep b o q), F.above⟩ hh ht hd (x.told.at fun o q => hb _ _ (Ne.symm It_) q) (hD.at fun o q => hb _ _ (Ne.symm Id) q) (x.tp.but (notTup_iter hit) hb) ?_
    rw [← e1]
    exact hP.but (notTup_iter hit) hb
  | cons b bs =>
    obtain ⟨v, todo, hv'⟩ : ∃ v todo, js.drop i = v :: todo := by
      cases e : js.drop i with
      | nil => rw [e] at hB; exact hB.elim
      | cons v todo => exact ⟨v, todo, rfl⟩
    rw [hv'] at hB
    obtain ⟨⟨tb, rfl⟩, hB2⟩ := hB
    have hx : js.toArray[i]? = some (.bytes b tb) := by
      have := congrArg (·[0]?) hv'
      simpa using this
    refine toG (lift (wpAny_pyNext_list_item hit x.list hx fun h₁ hit₁ hs₁ => ?_))
    have kI : ∀ a o, a ≠ It → h'.get? a = some o → h₁.get? a = some o := fun a o ha q => (hs₁.2 a ha).trans q
    have F1 : Fr h₀ L h₁ m := ⟨F.ns.at' fun o q => kI _ _ (Ne.symm IL) q, fun b o q => kI b o (fun e => by rw [e, I0] at q; cases q) (F.keep b o q), F.above⟩
    have N1 := news_full h₀ L h₁
    refine wpAny_assign_Name (stN (s := { s with heap := h₁, toks := tk }) F1 N1 fun h₂ F2 N2 => ?_)
    have k2 := keep_full (X := fun _ => False) F2 F1.keep N2 fun p hp _ => hp
    have k12 : ∀ a o, a ≠ It → a ≠ L → h'.get? a = some o → h₂.get? a = some o := fun a o ha hL q => k2 a o hL _root_.id (kI a o ha q)
    have tp1 : PairsAt h₁ ts all := x.tp.but (notTup_iter hit) kI
    have tp2 : PairsAt h₂ ts all := tp1.but (notTup_ns F1.ns) fun a o ha q => k2 a o ha _root_.id q
    have dp1 : PairsAt h₁ ds done := hP.but (notTup_iter hit) kI
    have dp2 : PairsAt h₂ ds done := dp1.but (notTup_ns F1.ns) fun a o ha q => k2 a o ha _root_.id q
    have hit2 : h₂.IsListIter It J (i + 1) := hit₁.at fun o q => k2 _ _ IL _root_.id q
    have list2 : h₂.IsList J js.toArray := x.list.at fun o q => k12 _ _ (Ne.symm IJ) JL q
    have told2 : h₂.PlainList tA ts.toArray := x.told.at fun o q => k12 _ _ (Ne.symm It_) tL q
    have due2 : h₂.PlainList dA ds.toArray := hD.at fun o q => k12 _ _ (Ne.symm Id) dL q
    have hzb := x.sz b (.head _)
    have flag := x.flag
    show wpG _ _ (execs [Stmt.Assign [.Name (Str.ofString "pair") _] (.Call (.Name _ _) [.Name _ _] [] _) _, dueBody 1, dueBody 2] (lawEnv L)) _ _ _
    have X2 := X.keeps F2.keep
    refine gExecs (gAssign (gCallFn1 (a := 125) (o := objAt w.params 125) (fd := fdAt w.params 125) rfl ?_))
    show wpAny _ _ (eval (Expr.Name _ _) (envOf _ { kind := _, names := _, isGenerator := _, isCoroutine := _, more := _ } _ _ _)) _ _ _
    have N0 : News h₀ L h₂ [] := fun p hp => nomatch hp
    have F2' := F2
    clear F1 N1 N2
    repeat' (first | walk1 | (dsimp only; walk1))
    · exact X2 _ _ (fn125 w.params).look
    have hlen' : done.length + bs.length + 1 ≤ 900 := by have := hlen; simp at this; omega
    -- the name pair
    have stored : ∀ h3 tk3 v, (∀ b o, h₂.get? b = some o → h3.get? b = some o) → (∀ h4 tk4 m4, Fr h₀ L h4 m4 → m4 (Str.ofString "pair") = some v → m4 (Str.ofString "hint") = some (.int hv u) → m4 (Str.ofString "told") = some (.ref tA) → m4 (Str.ofString "due") = some (.ref dA) →
        (∀ b o, b ≠ L → h3.get? b = some o → h4.get? b = some o) →
        wpG (mdl prog₀ w) A (execs [dueBody 1, dueBody 2] (lawEnv L)) (fun f s₃ => match f with
          | .next | .cont => ∃ m, m < (b :: bs).length ∧ ∃ h' tk rest, s₃ = { s with heap := h', toks := tk } ∧ m = rest.length ∧ DueSt h₀ L It J dA tA js ts all hv u h' rest
          | .brk => Q .next s₃
          | .ret v => Q (.ret v) s₃) (notedBy (mdl prog₀ w) A (lawEnv L) fun e s' => cameBackBy (mdl prog₀ w) A (lawEnv L) E e s') { s with heap := h4, toks := tk4 }) →
        wpAny (mdl prog₀ w) A (storeName (lawEnv L) (Str.ofString "pair") v) (fun x s' => wpG (mdl prog₀ w) A (execs [dueBody 1, dueBody 2] (lawEnv L)) (fun f s₃ => match f with
          | .next | .cont => ∃ m, m < (b :: bs).length ∧ ∃ h' tk rest, s₃ = { s with heap := h', toks := tk } ∧ m = rest.length ∧ DueSt h₀ L It J dA tA js ts all hv u h' rest
          | .brk => Q .next s₃
          | .ret v => Q (.ret v) s₃) (notedBy (mdl prog₀ w) A (lawEnv L) fun e s' => cameBackBy (mdl prog₀ w) A (lawEnv L) E e s') s') (notedBy (mdl prog₀ w) A (lawEnv L) fun e s' => cameBackBy (mdl prog₀ w) A (lawEnv L) E e s') { s with heap := h3, toks := tk3 } := fun h3 tk3 v k3 hh3 => by
      have F3 := frExt F2' k3
      have N3 := news_full h₀ L h3
      refine stN (s := { s with heap := h3, toks := tk3 }) F3 N3 fun h4 F4 N4 => ?_
      have k4 := keep_full (X := fun _ => False) F4 F3.keep N4 fun p hp _ => hp
      exact hh3 h4 _ _ F4 (if_pos rfl) ((if_neg (by decide)).trans ((if_neg (by decide)).trans hh)) ((if_neg (by decide)).trans ((if_neg (by decide)).trans ht)) ((if_neg (by decide)).trans ((if_neg (by decide)).trans hd)) fun b o hb q => k4 b o hb _root_.id q
    refine pairCall (s := { s with heap := h₂, toks := _ }) (r.le (by decide)) X2 (T.keeps F2'.keep) (nl.keeps F2'.keep) hzb (fun e h3 tk3 k3 => ?_) (fun q e h3 tk3 v k3 hv3 => ?_)
    · refine stored h3 tk3 .none k3 fun h4 tk4 m4 F4 hp4 hh4 ht4 hd4 k4 => ?_
      have e0 : decOut pairL false (b :: bs) = ([], true) := by simp [decOut, e]
      rw [e0] at hall flag
      have e1 : done = all := by simpa using hall
      have e2 : hv = 400 := flag
      subst e2
      have k24 : ∀ a o, a ≠ L → h₂.get? a = some o → h4.get? a = some o := fun a o ha q => k4 a o ha (k3 a o q)
      refine gExecs (toG (lift (r.rm.any (dueNone (s := { s with heap := h4, toks := tk4 }) (all := all) T F4 hp4 hh4 ht4 hd4 (told2.at fun o q => k24 _ _ tL q) (due2.at fun o q => k24 _ _ dL q) (tp2.but (notTup_ns F2'.ns) k24) (e1 ▸ dp2.but (notTup_ns F2'.ns) k24) fun h5 tk5 k5 => ?_))))
      exact hret h5 tk5 k5
    · obtain ⟨pa, t1, t2, rfl, hpa⟩ := id hv3
      refine stored h3 tk3 (.ref pa) k3 fun h4 tk4 m4 F4 hp4 hh4 ht4 hd4 k4 => ?_
      have e0 : decOut pairL false (b :: bs) = (q :: (decOut pairL false bs).1, (decOut pairL false bs).2) := by simp [decOut, e]
      rw [e0] at hall flag
      have k24 : ∀ a o, a ≠ L → h₂.get? a = some o → h4.get? a = some o := fun a o ha q => k4 a o ha (k3 a o q)
      refine gExecs (toG (lift (r.rm.any (dueSome (s := { s with heap := h4, toks := tk4 }) T F4 hp4 fun tk5 => ?_))))
      have due4 : h4.PlainList dA ds.toArray := due2.at fun o q => k24 _ _ dL q
      have dl := hP.len
      refine gExecs (toG (lift (r.rm.any (dueApp (s := { s with heap := h4, toks := tk5 }) T F4 hp4 hd4 due4 (by omega) fun h6 tk6 hD6 hs6 => ?_))))
      refine gExecsNil ?_
      have k6 : ∀ a o, a ≠ dA → h4.get? a = some o → h6.get? a = some o := fun a o ha q => (hs6.2 a ha).trans q
      have k26 : ∀ a o, a ≠ L → a ≠ dA → h₂.get? a = some o → h6.get? a = some o := fun a o ha hb q => k6 a o hb (k24 a o ha q)
      have hpaL : pa ≠ L := fun e => notTup_ns (frExt F2' k3).ns _ _ (e ▸ hpa)
      have dp4 : PairsAt h4 (ds ++ [.ref pa]) (done ++ [q]) := (dp2.but (notTup_ns F2'.ns) k24).snoc ⟨pa, t1, t2, rfl, k4 _ _ hpaL hpa⟩
      refine ⟨bs.length, by simp, h6, tk6, bs, rfl, rfl, ⟨⟨m4, ⟨F4.ns.at' fun o q => k6 _ _ (Ne.symm dL) q, fun b o q => k6 b o (fun e => by rw [e, d0] at q; cases q) (F4.keep b o q), F4.above⟩, hh4, ht4, hd4⟩, ⟨i + 1, hit2.at fun o q => k26 _ _ IL Id q, ?_⟩, list2.at fun o q => k26 _ _ JL Jd q, ⟨_, done ++ [q], hD6, dp4.but (notTup_list due4) k6, ?_, ?_⟩, told2.at fun o q => k26 _ _ tL td q, ?_, flag, fun b' hb' => x.sz b' (.tail _ hb')⟩⟩
      · rw [show js.drop (i + 1) = todo from by rw [← List.tail_drop, hv']; rfl]; exact hB2
      · rw [List.append_assoc]; exact hall
      · simp; omega
      · exact (tp2.but (notTup_ns F2'.ns) k24).but (notTup_list due4) k6
end
end Mine

end
section
open PySem PySem.W PySem.W.X PySem.Calls PyProof.Rows PySem.Builtin
set_option maxRecDepth 100000
namespace Mine
section
variable {w : World} {s : Shared} {h₀ : Heap} {L tA dA J : Addr} {mg mb : Str → Option Value} {mean : ExcName → Option Value} {A : Around} {E : Value → Shared → Prop} {m : Str → Option Value} {u : Tok} {js ts : List Value} {hv : Int} {all : List (Oct × Oct)} {outs : List Oct}
set_option maxHeartbeats 2000000 in
theorem lawFor {Q : Flow → Shared → Prop} (r : Rk 3 A [lawEnv L]) (X : (Mine.hd.heap_39 w.params).In h₀) (T : Top view₀ (looseW view₀ loose₀) mean mg mb h₀) (nl : h₀.NoLimit) (F : Fr h₀ L s.heap m)
    (hj : m (Str.ofString "joined") = some (.ref J)) (hh : m (Str.ofString "hint") = some (.int hv u)) (ht : m (Str.ofString "told") = some (.ref tA)) (hd : m (Str.ofString "due") = some (.ref dA))
    (hJ : s.heap.PlainList J js.toArray) (hjs : BsAt js outs) (hD : s.heap.PlainList dA ([] : List Value).toArray) (hT : s.heap.PlainList tA ts.toArray) (tp : PairsAt s.heap ts all) (hall : (decOut pairL false outs).1 = all)
    (flag : hv = if (decOut pairL false outs).2 = true then 400 else 0) (hlen : outs.length ≤ 900) (hz : ∀ b ∈ outs, b.size ≤ 1000)
    (Jd : J ≠ dA) (JL : J ≠ L) (dL : dA ≠ L) (tL : tA ≠ L) (td : tA ≠ dA) (d0 : h₀.get? dA = none)
    (hret : ∀ h' tk, (∀ b o, h₀.get? b = some o → h'.get? b = some o) → Q (.ret (.bool true)) { s with heap := h', toks := tk })
    (hnext : ∀ h' tk m ds, Fr h₀ L h' m → m (Str.ofString "hint") = some (.int 0 u) → m (Str.ofString "told") = some (.ref tA) → m (Str.ofString "due") = some (.ref dA) → h'.PlainList tA ts.toArray → h'.PlainList dA ds.toArray → PairsAt h' ts all → PairsAt h' ds all → Q .next { s with heap := h', toks := tk }) :
    wpG (mdl prog₀ w) A (exec (lawAt 15) (lawEnv L)) Q E s := by
  show wpG _ _ (exec (Stmt.For (forTarget (lawAt 15)) (Expr.Name _ _) (forBody (lawAt 15)) [] _) (lawEnv L)) _ _ _
  refine gFor (ld F hj (lift (r.rm.any (wpAny_pyIter_list hJ.isList ?_))))
  have hIn : s.heap.get? s.heap.objs.size = none := Heap.get?_none_of_le (Nat.le_refl _)
  have k1 : ∀ b o, s.heap.get? b = some o → (s.heap.push { cls := .type "list_iterator", data := .fields #[.ref J, .int 0 0] }).get? b = some o := fun b o q => Heap.get?_push_of_some _ q
  have hI1 : (s.heap.push { cls := .type "list_iterator", data := .fields #[.ref J, .int 0 0] }).IsListIter s.heap.objs.size J 0 := ⟨_, Heap.get?_push_size _ rfl, rfl, rfl⟩
  generalize s.heap.push { cls := .type "list_iterator", data := .fields #[.ref J, .int 0 0] } = H1 at k1 hI1 ⊢
  generalize s.heap.objs.size = It at hIn hI1 ⊢
  obtain ⟨oL, hL⟩ := frNs F
  have I0 : h₀.get? It = none := by
    cases e : h₀.get? It with
    | none => rfl
    | some o => have := F.keep _ _ e; rw [hIn] at this; cases this
  obtain ⟨nJ, hJ'⟩ := id hJ
  obtain ⟨nD, hD'⟩ := id hD
  obtain ⟨nT, hT'⟩ := id hT
  refine dueLoop (s := s) (h' := H1) (It := It) (J := J) (js := js) (ts := ts) (all := all) (hv := hv) (rest := outs) r X T nl ?_ ?_ ?_ ?_ Jd JL dL tL td I0 d0 hret hnext ⟨⟨m, frExt F k1, hh, ht, hd⟩, ⟨0, hI1, hjs⟩, hJ.isList.at fun o q => k1 _ _ q, ⟨[], [], hD.at fun o q => k1 _ _ q, trivial, hall, by simpa using hlen⟩, hT.at fun o q => k1 _ _ q, tp.keep fun v _ a _ o q => k1 _ _ q, flag, hz⟩
  · intro e; rw [e, hL] at hIn; cases hIn
  · intro e; rw [e, hD'] at hIn; cases hIn
  · intro e; rw [e, hT'] at hIn; cases hIn
  · intro e; rw [e, hJ'] at hIn; cases hIn
end
end Mine

end
section
open PySem PySem.W PySem.W.X PySem.Calls PyProof.Rows PySem.Builtin
set_option maxRecDepth 100000
namespace Mine
section
variable {prog : Program} {w : World} {A : Around} {E : Value → Shared → Prop} {R : Result → Shared → Prop} {s : Shared} {env : Env} {elt t1 i1 t2 i2 c : Expr} {scope : Scope} {pos : Pos} {it acc : Value}
theorem compTurn2_0 (elt t1 i1 t2 i2 c : Expr) (scope : Scope) (pos : Pos) (it acc : Value) (env : Env) :
    compTurn (.ListComp elt [⟨t1, i1, [], 0⟩, ⟨t2, i2, [c], 0⟩] scope pos) 0 it acc env = (standAt i1.pos >>= fun _ => pyNext it >>= fun r => match r with
      | none => pure (.done .next)
      | some v => letOwnedTupleGo t1 it v >>= fun _ => assign t1 env v >>= fun _ => eval i2 env >>= fun x => standAt i2.pos >>= fun _ => foldedSetIterable i2 env x >>= fun x =>
        holding [x] (pyIter x) >>= fun it2 => runOwn (.compStart (.ListComp elt [⟨t1, i1, [], 0⟩, ⟨t2, i2, [c], 0⟩] scope pos) 1 it2 acc env) env >>= fun _ =>
          again (.compLoop (.ListComp elt [⟨t1, i1, [], 0⟩, ⟨t2, i2, [c], 0⟩] scope pos) 0 it acc env)) := by rfl
theorem compTurn2_1 (elt t1 i1 t2 i2 c : Expr) (scope : Scope) (pos : Pos) (it acc : Value) (env : Env) :
    compTurn (.ListComp elt [⟨t1, i1, [], 0⟩, ⟨t2, i2, [c], 0⟩] scope pos) 1 it acc env = (standAt i2.pos >>= fun _ => pyNext it >>= fun r => match r with
      | none => pure (.done .next)
      | some v => letOwnedTupleGo t2 it v >>= fun _ => assign t2 env v >>= fun _ => isTrue c env (eval c env) >>= fun ok =>
        (if ok then (eval elt env >>= fun x => call (.builtin "list.append") [acc, x] >>= fun _ => pure ()) >>= fun _ =>
          again (.compLoop (.ListComp elt [⟨t1, i1, [], 0⟩, ⟨t2, i2, [c], 0⟩] scope pos) 1 it acc env) else again (.compLoop (.ListComp elt [⟨t1, i1, [], 0⟩, ⟨t2, i2, [c], 0⟩] scope pos) 1 it acc env))) := by
  first | rfl | (unfold compTurn; simp [List.forIn_cons]; rfl)
theorem nestStart1 (h0 : codeG (mdl prog w) A (.compLoop (.ListComp elt [⟨t1, i1, [], 0⟩, ⟨t2, i2, [c], 0⟩] scope pos) 1 it acc env) R s)
    (h : wpAny (mdl prog w) A (pyIter it) (fun it' s' => codeG (mdl prog w) A (.compLoop (.ListComp elt [⟨t1, i1, [], 0⟩, ⟨t2, i2, [c], 0⟩] scope pos) 1 it' acc env) R s')
      (notedBy (mdl prog w) A env fun x s' => R (.error x) s') s) :
    codeG (mdl prog w) A (.compStart (.ListComp elt [⟨t1, i1, [], 0⟩, ⟨t2, i2, [c], 0⟩] scope pos) 1 it acc env) R s := by
  refine codeG_tree rfl ?_
  show wpG _ _ ((compStart (.ListComp elt [⟨t1, i1, [], 0⟩, ⟨t2, i2, [c], 0⟩] scope pos) 1 it acc env).onRaise (fun x => do noteFrame x env; standAt theWindowsPlace)) _ _ s
  refine toG (wpAny_notedAt ?_)
  unfold compStart
  show wpAny _ _ (ask >>= _) _ _ s
  refine wpAny_bind (wpAny_askSetting (wpAny_ite ?_))
  split
  · first
      | exact wpAny_bind (wpAny_pure (wpAny_pure (And.intro rfl h0)))
      | exact wpAny_pure (And.intro rfl h0)
  · refine wpAny_bind (wpAny_rule ?_)
    show wpAny _ _ (standAt i2.pos >>= _) _ _ s
    exact wpAny_bind (wpAny_standAt (wpAny_bind (wpAny_mono h (fun it' s' h' => wpAny_pure (And.intro rfl h')) fun _ _ x => x)))
/-- the inner clause lets nothing through -/
theorem nestInner (I : Nat → Shared → Prop)
    (turn : ∀ n s, I n s → wpAny (mdl prog w) A (pyNext it) (fun r s₁ => match r with
      | none => R (.ok .next) s₁
      | some v => wpAny (mdl prog w) A (assign t2 env v) (fun _ s₂ => wpAny (mdl prog w) A (isTrue c env (eval c env)) (fun ok s₃ => ok = false ∧ ∃ m, m < n ∧ I m s₃) (notedBy (mdl prog w) A env fun e s' => R (.error e) s') s₂) (notedBy (mdl prog w) A env fun e s' => R (.error e) s') s₁)
      (notedBy (mdl prog w) A env fun e s' => R (.error e) s') s)
    (n : Nat) (h : I n s) (ht : ∀ v, letOwnedTupleGo t2 it v = pure () := by intro _; rfl) :
    codeG (mdl prog w) A (.compLoop (.ListComp elt [⟨t1, i1, [], 0⟩, ⟨t2, i2, [c], 0⟩] scope pos) 1 it acc env) R s := by
  refine codeG_loop rfl rfl I (fun n s hI => ?_) n h
  show wpG _ _ ((compTurn (.ListComp elt [⟨t1, i1, [], 0⟩, ⟨t2, i2, [c], 0⟩] scope pos) 1 it acc env).onRaise (fun x => do noteFrame x env; theTreesLotGoes x)) _ _ s
  refine gNoted ?_
  rw [compTurn2_1]
  refine gBind (gAt (gThen (wpAny_mono (turn n s hI) (fun r s₁ h₁ => ?_) fun _ _ h' => h')))
  cases r with
  | none => exact gPure h₁
  | some v =>
    refine gBind (gOfEq (ht v) ?_)
    refine gThen (wpAny_mono h₁ (fun _ s₂ h₂ => gThen (wpAny_mono h₂ (fun ok s₃ h₃ => ?_) fun _ _ h' => h')) fun _ _ h' => h')
    obtain ⟨rfl, h₃⟩ := h₃
    exact gPure (.inl ⟨rfl, h₃⟩)
theorem nestOuter (I : Nat → Shared → Prop)
    (turn : ∀ n s, I n s → wpAny (mdl prog w) A (pyNext it) (fun r s₁ => match r with
      | none => R (.ok .next) s₁
      | some v => wpAny (mdl prog w) A (assign t1 env v) (fun _ s₂ => wpAny (mdl prog w) A (eval i2 env) (fun x s₃ => wpAny (mdl prog w) A (pyIter x) (fun it2 s₄ =>
          codeG (mdl prog w) A (.compStart (.ListComp elt [⟨t1, i1, [], 0⟩, ⟨t2, i2, [c], 0⟩] scope pos) 1 it2 acc env) (fun r s' => match r with
            | .ok _ => ∃ m, m < n ∧ I m s'
            | .error e => cameBackBy (mdl prog w) A env (notedBy (mdl prog w) A env fun e s' => R (.error e) s') e s') s₄)
        (notedBy (mdl prog w) A env fun e s' => R (.error e) s') s₃) (notedBy (mdl prog w) A env fun e s' => R (.error e) s') s₂) (notedBy (mdl prog w) A env fun e s' => R (.error e) s') s₁)
      (notedBy (mdl prog w) A env fun e s' => R (.error e) s') s)
    (n : Nat) (h : I n s) (ht : ∀ v, letOwnedTupleGo t1 it v = pure () := by intro _; rfl) (hs : ∀ x, foldedSetIterable i2 env x = pure x := by intro _; rfl) :
    codeG (mdl prog w) A (.compLoop (.ListComp elt [⟨t1, i1, [], 0⟩, ⟨t2, i2, [c], 0⟩] scope pos) 0 it acc env) R s := by
  refine codeG_loop rfl rfl I (fun n s hI => ?_) n h
  show wpG _ _ ((compTurn (.ListComp elt [⟨t1, i1, [], 0⟩, ⟨t2, i2, [c], 0⟩] scope pos) 0 it acc env).onRaise (fun x => do noteFrame x env; theTreesLotGoes x)) _ _ s
  refine gNoted ?_
  rw [compTurn2_0]
  refine gBind (gAt (gThen (wpAny_mono (turn n s hI) (fun r s₁ h₁ => ?_) fun _ _ h' => h')))
  cases r with
  | none => exact gPure h₁
  | some v =>
    refine gBind (gOfEq (ht v) ?_)
    refine gThen (wpAny_mono h₁ (fun _ s₂ h₂ => gThen (wpAny_mono h₂ (fun x s₃ h₃ => ?_) fun _ _ h' => h')) fun _ _ h' => h')
    refine gBind (gAt (gBind (gOfEq (hs x) ?_)))
    refine gBind (gHolding (gMono (toG h₃) (fun it2 s₄ h₄ => ?_) fun _ _ x => x))
    refine gBind (gRunOwn (h := none) ?_)
    have em : ∀ B : Around, B.mark none = B := fun B => by obtain ⟨hd, _, _, _, _⟩ := B; cases hd <;> rfl
    rw [em]
    refine codeG_mono h₄ fun r s' hr => ?_
    cases r with
    | ok f => exact gPure (.inl ⟨rfl, hr⟩)
    | error e => exact hr
end
end Mine

end
section
open PySem PySem.W PySem.W.X PySem.Calls PyProof.Rows PySem.Builtin
set_option maxRecDepth 100000
namespace Mine
theorem warm45 : (∀ P, Mine.hd.heap_39 P = Mine.hd.heap_39 P) ∧ PySem.Challenge.rw_ae6005_01 = PySem.Challenge.rw_ae6005_01 := by
  k_fill
  exact ⟨fun _ => rfl, rfl⟩
def retExpr : Stmt → Expr
  | .Return (some e) _ => e
  | _ => .Constant .none 0 default
def nestC : Expr := cmpLeft (boolArg 2 (retExpr (lawAt 16)))
abbrev nestEnv (C L : Addr) : Env := compEnv (compScope nestC) C (lawEnv L)
theorem pk_isi (w : World) (L C : Addr) : PK w (loadName (nestEnv C L) (Str.ofString "isinstance")) (.builtin "isinstance") := by kernel_rfl
theorem pk_bytes16 (w : World) (L C : Addr) : PK w (loadName (nestEnv C L) (Str.ofString "bytes")) (.type "bytes") := by kernel_rfl
section
local macro_rules | `(tactic| x_close) => `(tactic| exact ⟨rfl, _, rfl⟩)
set_option maxHeartbeats 4000000 in
theorem isiBb (w : World) (s : Shared) (fl : List Env) (b : Array UInt8) (t : Tok) : wpAny (model prog₀ w) (A₉ fl) (call (.builtin "isinstance") [.bytes b t, .type "bytes"]) (fun v s' => v = .bool true ∧ ∃ tk, s' = { s with toks := tk }) (fun _ _ => False) s := by
  x_run
end
section
variable {w : World} {s : Shared} {h₀ : Heap} {L C : Addr} {mg mb : Str → Option Value} {mean : ExcName → Option Value} {A : Around} {E : Value → Shared → Prop} {m : Str → Option Value} {t : Tok} {fl : List Env} {b : Oct}
set_option maxHeartbeats 4000000 in
theorem nestTest {Q : Bool → Shared → Prop} {p1 p2 p3 p4 p5 : Pos} (r : Rm A fl) (X : (Mine.hd.heap_39 w.params).In s.heap) (ns : s.heap.Ns C m) (hm : m (Str.ofString "one") = some (.bytes b t)) (h : ∀ tk, Q false { s with toks := tk }) :
    wpAny (mdl prog₀ w) A (isTrue (.UnaryOp .Not (.Call (.Name (Str.ofString "isinstance") p1) [.Name (Str.ofString "one") p2, .Name (Str.ofString "bytes") p3] [] p4) p5) (nestEnv C L)
      (eval (.UnaryOp .Not (.Call (.Name (Str.ofString "isinstance") p1) [.Name (Str.ofString "one") p2, .Name (Str.ofString "bytes") p3] [] p4) p5) (nestEnv C L))) Q E s := by
  refine wpAny_isTrue_Not (wpAny_isTrue_value ?_ rfl)
  rw [arm_eval_Call_Name']
  refine wpAny_bind (wpAny_Name (lift ((pkLooks X (pk_isi w L C)) _ _ _ _ (fun _ _ x => x) ?_)) (by decide))
  repeat' (first | walk1 | (dsimp only; walk1))
  refine wpAny_Name (lift ((pkLooks X (pk_bytes16 w L C)) _ _ _ _ (fun _ _ x => x) ?_)) (by decide)
  refine Calls.spliced_nil ?_
  refine lift (r.any (wpAny_mono (isiBb w s fl b t) ?_ fun _ _ x => x.elim))
  rintro v s' ⟨rfl, tk, rfl⟩
  exact wpAny_truthy_bool (h tk)
end
/-- the nested comprehension between two pairs -/
structure NeSt (h₀ H h' : Heap) (It tA C D : Addr) (ts : List Value) (all : List (Oct × Oct)) (i : Nat) : Prop where
  it : h'.IsListIter It tA i
  list : h'.IsList tA ts.toArray
  ns : ∃ m, h'.Ns C m
  acc : h'.PlainList D ([] : List Value).toArray
  tp : PairsAt h' ts all
  keep : ∀ b o, b ≠ C → b ≠ It → H.get? b = some o → h'.get? b = some o
theorem pairsGet {h : Heap} : ∀ {vs : List Value} {qs : List (Oct × Oct)} {i : Nat}, PairsAt h vs qs → (hi : i < vs.length) → ∃ q, PairAt h vs[i] q
  | _ :: _, _ :: _, 0, x, _ => ⟨_, x.1⟩
  | _ :: _, _ :: _, i + 1, x, hi => pairsGet x.2 (Nat.lt_of_succ_lt_succ hi)
  | [], _, _, _, hi => absurd hi (Nat.not_lt_zero _)
section
variable {w : World} {s : Shared} {h₀ H : Heap} {L C D It It2 tA pa : Addr} {mg mb : Str → Option Value} {mean : ExcName → Option Value} {A : Around} {E : Value → Shared → Prop} {m : Str → Option Value} {t : Tok} {fl : List Env} {b : Oct} {R : Result → Shared → Prop} {ts : List Value} {all : List (Oct × Oct)}
  {elt i1 i2 : Expr} {scope : Scope} {pos q1 q2 p1 p2 p3 p4 p5 : Pos}
set_option maxHeartbeats 4000000 in
/-- the inner loop: two octets, and none is let through -/
theorem nestIn (r : Rm A fl) (X : (Mine.hd.heap_39 w.params).In h₀) (k0 : ∀ b o, h₀.get? b = some o → H.get? b = some o) (C0 : h₀.get? C = none) (I0 : h₀.get? It2 = none)
    (hC : ∃ m, H.Ns C m) (hI : H.IsTupleIter It2 pa 0) {v1 v2 : Oct} {u1 u2 : Tok} (hp : H.get? pa = some (tupObj [.bytes v1 u1, .bytes v2 u2])) (CI : C ≠ It2) (pC : pa ≠ C) (pI : pa ≠ It2)
    (hR : ∀ h' tk, (∃ m, h'.Ns C m) → (∀ b o, b ≠ C → b ≠ It2 → H.get? b = some o → h'.get? b = some o) → R (.ok .next) { s with heap := h', toks := tk }) {tk : Nat} :
    codeG (mdl prog₀ w) A (.compLoop (.ListComp elt [⟨.Name (Str.ofString "pair") q1, i1, [], 0⟩, ⟨.Name (Str.ofString "one") q2, i2, [.UnaryOp .Not (.Call (.Name (Str.ofString "isinstance") p1) [.Name (Str.ofString "one") p2, .Name (Str.ofString "bytes") p3] [] p4) p5], 0⟩] scope pos) 1 (.ref It2) (.ref D) (nestEnv C L)) R { s with heap := H, toks := tk } := by
  have W := Walks.tuple (prog := prog₀) (w := w) (A := A₉ fl) rfl It2 pa pI #[.bytes v1 u1, .bytes v2 u2]
  refine nestInner (fun n s' => ∃ h' tk j, s' = { s with heap := h', toks := tk } ∧ n = 2 - j ∧ j ≤ 2 ∧ (∃ m, h'.Ns C m) ∧ h'.IsTupleIter It2 pa j ∧ h'.IsTuple pa #[.bytes v1 u1, .bytes v2 u2] ∧ (∀ b o, b ≠ C → b ≠ It2 → H.get? b = some o → h'.get? b = some o)) ?_ 2 ⟨H, tk, 0, rfl, rfl, by decide, hC, hI, ⟨_, hp, rfl, _, rfl⟩, fun b o _ _ q => q⟩
  rintro n s' ⟨h', tk, j, rfl, rfl, hj, ⟨m, ns⟩, hit, htup, hk⟩
  by_cases h2 : j = 2
  · subst h2
    refine lift (r.any (W.done { s with heap := h', toks := tk } _ _ ⟨hit, htup⟩ fun h1 tk1 k1 => ?_))
    have kI : ∀ b o, b ≠ It2 → h'.get? b = some o → h1.get? b = some o := fun b o hb q => k1 b o (by simpa using hb) q
    exact hR h1 tk1 ⟨m, ns.at' fun o q => kI _ _ CI q⟩ fun b o a1 a2 q => kI b o a2 (hk b o a1 a2 q)
  · refine lift (r.any (W.item j { s with heap := h', toks := tk } _ _ (by show j < 2; omega) ⟨hit, htup⟩ fun v h1 tk1 hv st1 k1 => ?_))
    have kI : ∀ b o, b ≠ It2 → h'.get? b = some o → h1.get? b = some o := fun b o hb q => k1 b o (by simpa using hb) q
    obtain ⟨c, u, rfl⟩ : ∃ c u, v = .bytes c u := by
      have : j = 0 ∨ j = 1 := by omega
      rcases this with rfl | rfl
      · exact ⟨_, _, (Option.some.inj hv).symm⟩
      · exact ⟨_, _, (Option.some.inj hv).symm⟩
    have ns1 : h1.Ns C m := ns.at' fun o q => kI _ _ CI q
    refine wpAny_assign_Name (wpAny_storeName_local (by rfl) ns1 (fun h₂ ns₂ hs₂ => ?_) (by rfl))
    have k2 : ∀ b o, b ≠ C → b ≠ It2 → H.get? b = some o → h₂.get? b = some o := fun b o a1 a2 q => (hs₂.2 b a1).trans (kI b o a2 (hk b o a1 a2 q))
    have X2 : (Mine.hd.heap_39 w.params).In h₂ := X.keeps fun b o q => k2 b o (fun e => by rw [e, C0] at q; cases q) (fun e => by rw [e, I0] at q; cases q) (k0 b o q)
    refine nestTest r X2 ns₂ (if_pos rfl) fun tk3 => ⟨rfl, 2 - (j + 1), by omega, h₂, tk3, j + 1, rfl, rfl, by omega, ⟨_, ns₂⟩, st1.1.at fun o q => (hs₂.2 It2 (Ne.symm CI)).trans q, st1.2.at fun o q => (hs₂.2 pa pC).trans q, k2⟩
end
end Mine

end
section
open PySem PySem.W PySem.W.X PySem.Calls PyProof.Rows PySem.Builtin
set_option maxRecDepth 100000
namespace Mine
theorem warm46 : (∀ P, Mine.hd.heap_39 P = Mine.hd.heap_39 P) ∧ PySem.Challenge.rw_ae6005_01 = PySem.Challenge.rw_ae6005_01 := by
  k_fill
  exact ⟨fun _ => rfl, rfl⟩
section
variable {w : World} {s : Shared} {h₀ H : Heap} {L C D It It2 tA pa : Addr} {mg mb : Str → Option Value} {mean : ExcName → Option Value} {A : Around} {E : Value → Shared → Prop} {m : Str → Option Value} {t : Tok} {fl : List Env} {b : Oct} {R : Result → Shared → Prop} {ts : List Value} {all : List (Oct × Oct)}
  {elt i1 : Expr} {scope : Scope} {pos q1 q2 q3 p1 p2 p3 p4 p5 : Pos}
set_option maxHeartbeats 4000000 in
theorem nestOut (r : Rm A fl) (X : (Mine.hd.heap_39 w.params).In h₀) (k0 : ∀ b o, h₀.get? b = some o → H.get? b = some o) (C0 : h₀.get? C = none) (I0 : h₀.get? It = none)
    (CI : C ≠ It) (CD : C ≠ D) (DI : D ≠ It) (tC : tA ≠ C) (tI : tA ≠ It) (x : NeSt h₀ H H It tA C D ts all 0)
    (hR : ∀ h' tk, (∃ m, h'.Ns C m) → h'.PlainList D ([] : List Value).toArray → (∀ b o, b ≠ C → b ≠ It → H.get? b = some o → h'.get? b = some o) → R (.ok .next) { s with heap := h', toks := tk }) {tk : Nat} :
    codeG (mdl prog₀ w) A (.compLoop (.ListComp elt [⟨.Name (Str.ofString "pair") q1, i1, [], 0⟩, ⟨.Name (Str.ofString "one") q2, .Name (Str.ofString "pair") q3, [.UnaryOp .Not (.Call (.Name (Str.ofString "isinstance") p1) [.Name (Str.ofString "one") p2, .Name (Str.ofString "bytes") p3] [] p4) p5], 0⟩] scope pos) 0 (.ref It) (.ref D) (nestEnv C L)) R { s with heap := H, toks := tk } := by
  have W := Walks.list (prog := prog₀) (w := w) (A := A₉ fl) rfl It tA tI ts.toArray
  refine nestOuter (fun n s' => ∃ h' tk i, s' = { s with heap := h', toks := tk } ∧ n = ts.length - i ∧ i ≤ ts.length ∧ NeSt h₀ H h' It tA C D ts all i) ?_ (ts.length - 0) ⟨H, tk, 0, rfl, rfl, Nat.zero_le _, x⟩
  clear x
  rintro n s' ⟨h', tk, i, rfl, rfl, hi, x⟩
  obtain ⟨m, ns⟩ := x.ns
  by_cases h2 : i = ts.length
  · refine lift (r.any (W.done { s with heap := h', toks := tk } _ _ ⟨by rw [show ts.toArray.size = i from by simp [h2]]; exact x.it, x.list⟩ fun h1 tk1 k1 => ?_))
    have kI : ∀ b o, b ≠ It → h'.get? b = some o → h1.get? b = some o := fun b o hb q => k1 b o (by simpa using hb) q
    exact hR h1 tk1 ⟨m, ns.at' fun o q => kI _ _ CI q⟩ (x.acc.at fun o q => kI _ _ DI q) fun b o a1 a2 q => kI b o a2 (x.keep b o a1 a2 q)
  · have hlt : i < ts.length := by omega
    refine lift (r.any (W.item i { s with heap := h', toks := tk } _ _ (by simpa using hlt) ⟨x.it, x.list⟩ fun v h1 tk1 hv st1 k1 => ?_))
    have kI : ∀ b o, b ≠ It → h'.get? b = some o → h1.get? b = some o := fun b o hb q => k1 b o (by simpa using hb) q
    have ev : ts[i]? = some v := by simpa using hv
    have tp1 : PairsAt h1 ts all := x.tp.but (notTup_iter x.it) kI
    have ns1 : h1.Ns C m := ns.at' fun o q => kI _ _ CI q
    have acc1 : h1.PlainList D ([] : List Value).toArray := x.acc.at fun o q => kI _ _ DI q
    obtain ⟨q, hq⟩ := pairsGet tp1 hlt
    rw [List.getElem?_eq_getElem hlt] at ev
    rw [Option.some.inj ev] at hq
    obtain ⟨pa, u1, u2, rfl, hpa⟩ := hq
    refine wpAny_assign_Name (wpAny_storeName_local (by rfl) ns1 (fun h₂ ns₂ hs₂ => ?_) (by rfl))
    have k2 : ∀ b o, b ≠ C → h1.get? b = some o → h₂.get? b = some o := fun b o hb q => (hs₂.2 b hb).trans q
    have tp2 : PairsAt h₂ ts all := tp1.but (notTup_ns ns1) k2
    have paC : pa ≠ C := fun e => notTup_ns ns1 _ _ (e ▸ hpa)
    have hpa2 := k2 _ _ paC hpa
    refine wpAny_Name (wpAny_loadName_local (v := .ref pa) rfl rfl ns₂ (if_pos rfl) ?_) (by decide)
    refine lift (r.any (wpAny_pyIter_tuple (items := #[.bytes q.1 u1, .bytes q.2 u2]) ⟨_, hpa2, rfl, _, rfl⟩ ?_))
    have hIn : h₂.get? h₂.objs.size = none := Heap.get?_none_of_le (Nat.le_refl _)
    dsimp only
    have k3 : ∀ b o, h₂.get? b = some o → (h₂.push { cls := .type "tuple_iterator", data := .fields #[.ref pa, .int 0 0] }).get? b = some o := fun b o q => Heap.get?_push_of_some _ q
    have hI3 : (h₂.push { cls := .type "tuple_iterator", data := .fields #[.ref pa, .int 0 0] }).IsTupleIter h₂.objs.size pa 0 := ⟨_, Heap.get?_push_size _ rfl, rfl, rfl⟩
    generalize h₂.push { cls := .type "tuple_iterator", data := .fields #[.ref pa, .int 0 0] } = H3 at k3 hI3 ⊢
    generalize h₂.objs.size = It2 at hIn hI3 ⊢
    have old2 : ∀ b o, h₀.get? b = some o → h₂.get? b = some o := fun b o q => by
      have a1 : b ≠ C := fun e => by rw [e, C0] at q; cases q
      have a2 : b ≠ It := fun e => by rw [e, I0] at q; cases q
      exact k2 b o a1 (kI b o a2 (x.keep b o a1 a2 (k0 b o q)))
    have I20 : h₀.get? It2 = none := by
      cases e : h₀.get? It2 with
      | none => rfl
      | some o => have := old2 _ _ e; rw [hIn] at this; cases this
    have newI2 : ∀ b o, h₂.get? b = some o → b ≠ It2 := fun b o q e => by rw [e, hIn] at q; cases q
    have nsC : ∃ o, h₂.get? C = some o := by obtain ⟨o, _, _, q, _⟩ := ns₂; exact ⟨o, q⟩
    obtain ⟨oC, hoC⟩ := nsC
    have CI2 : C ≠ It2 := newI2 _ _ hoC
    have hit2 : h₂.IsListIter It tA (i + 1) := st1.1.at fun o q => k2 _ _ (Ne.symm CI) q
    have hl2 : h₂.IsList tA ts.toArray := st1.2.at fun o q => k2 _ _ tC q
    have acc2 : h₂.PlainList D ([] : List Value).toArray := acc1.at fun o q => k2 _ _ (Ne.symm CD) q
    have ItI2 : It ≠ It2 := by obtain ⟨o, q, _⟩ := hit2; exact newI2 _ _ q
    have tAI2 : tA ≠ It2 := by obtain ⟨o, q, _⟩ := hl2; exact newI2 _ _ q
    have DI2 : D ≠ It2 := by obtain ⟨n, q⟩ := acc2; exact newI2 _ _ q
    have inner : ∀ tk', codeG (mdl prog₀ w) A (.compLoop (.ListComp elt [⟨.Name (Str.ofString "pair") q1, i1, [], 0⟩, ⟨.Name (Str.ofString "one") q2, .Name (Str.ofString "pair") q3, [.UnaryOp .Not (.Call (.Name (Str.ofString "isinstance") p1) [.Name (Str.ofString "one") p2, .Name (Str.ofString "bytes") p3] [] p4) p5], 0⟩] scope pos) 1 (.ref It2) (.ref D) (nestEnv C L))
        (fun r s' => match r with
            | .ok _ => ∃ m, m < ts.length - i ∧ ∃ h' tk i, s' = { s with heap := h', toks := tk } ∧ m = ts.length - i ∧ i ≤ ts.length ∧ NeSt h₀ H h' It tA C D ts all i
            | .error e => cameBackBy (mdl prog₀ w) A (nestEnv C L) (notedBy (mdl prog₀ w) A (nestEnv C L) fun e s' => R (.error e) s') e s') { s with heap := H3, toks := tk' } := fun tk' => by
      refine nestIn (s := s) (H := H3) (pa := pa) (It2 := It2) (v1 := q.1) (v2 := q.2) (u1 := u1) (u2 := u2) r X (fun b o q => k3 b o (old2 b o q)) C0 I20 ⟨_, ns₂.at' fun o q => k3 _ _ q⟩ hI3 (k3 _ _ hpa2) CI2 paC (newI2 _ _ hpa2) fun h5 tk5 hns5 k5 => ?_
      have k25 : ∀ b o, b ≠ C → h₂.get? b = some o → h5.get? b = some o := fun b o hb q => k5 b o hb (newI2 b o q) (k3 b o q)
      refine ⟨ts.length - (i + 1), by omega, h5, tk5, i + 1, rfl, rfl, by omega, ⟨hit2.at fun o q => k25 _ _ (Ne.symm CI) q, hl2.at fun o q => k25 _ _ tC q, hns5, acc2.at fun o q => k25 _ _ (Ne.symm CD) q, tp2.but (notTup_ns ns₂) k25, fun b o a1 a2 q => k25 b o a1 (k2 b o a1 (kI b o a2 (x.keep b o a1 a2 q)))⟩⟩
    exact nestStart1 (inner _) (lift (r.any (wpAny_pyIter_tupleiter hI3 (inner _))))
set_option maxHeartbeats 4000000 in
theorem nestEmpty {Q : Value → Shared → Prop} (r : Rm A fl) (X : (Mine.hd.heap_39 w.params).In h₀) (F : Fr h₀ L s.heap m) (ht : m (Str.ofString "told") = some (.ref tA)) (hT : s.heap.PlainList tA ts.toArray) (tp : PairsAt s.heap ts all)
    (h : ∀ h' tk D, h'.PlainList D ([] : List Value).toArray → (∀ b o, s.heap.get? b = some o → h'.get? b = some o) → Q (.ref D) { s with heap := h', toks := tk }) :
    wpG (mdl prog₀ w) A (eval nestC (lawEnv L)) Q E s := by
  show wpG _ _ (eval (.ListComp _ [⟨.Name (Str.ofString "pair") _, .Name _ _, [], 0⟩, ⟨.Name (Str.ofString "one") _, .Name (Str.ofString "pair") _, [.UnaryOp .Not (.Call (.Name (Str.ofString "isinstance") _) [.Name (Str.ofString "one") _, .Name (Str.ofString "bytes") _] [] _) _], 0⟩] (compScope nestC) _) (lawEnv L)) _ _ _
  refine gListComp (by decide +kernel) rfl (by decide +kernel) (ld F ht ?_)
  obtain ⟨nT, hT'⟩ := id hT
  refine lift (r.any (wpAny_pyIter_list hT.isList ?_))
  have hIn : s.heap.get? s.heap.objs.size = none := Heap.get?_none_of_le (Nat.le_refl _)
  have k1 : ∀ b o, s.heap.get? b = some o → (s.heap.push { cls := .type "list_iterator", data := .fields #[.ref tA, .int 0 0] }).get? b = some o := fun b o q => Heap.get?_push_of_some _ q
  have hI1 : (s.heap.push { cls := .type "list_iterator", data := .fields #[.ref tA, .int 0 0] }).IsListIter s.heap.objs.size tA 0 := ⟨_, Heap.get?_push_size _ rfl, rfl, rfl⟩
  generalize s.heap.push { cls := .type "list_iterator", data := .fields #[.ref tA, .int 0 0] } = H1 at k1 hI1 ⊢
  generalize s.heap.objs.size = It at hIn hI1 ⊢
  refine wpAny_newObj_type ?_ (by size_fits)
  refine wpAny_newFunctionEnv (by decide +kernel) (by intro y hy; simp at hy) (fun h₃ ns₃ hsb₃ => ?_) rfl
  dsimp only at ns₃ hsb₃ ⊢
  generalize hH2 : H1.push { cls := .type "list", dict := none, data := .seq ([] : List Value).toArray } = H2 at ns₃ hsb₃ ⊢
  have hDn : H1.get? H1.objs.size = none := Heap.get?_none_of_le (Nat.le_refl _)
  have hCn : H2.get? H2.objs.size = none := Heap.get?_none_of_le (Nat.le_refl _)
  have k2 : ∀ b o, H1.get? b = some o → H2.get? b = some o := fun b o q => by rw [← hH2]; exact Heap.get?_push_of_some _ q
  have hD2 : H2.PlainList H1.objs.size ([] : List Value).toArray := ⟨0, by rw [← hH2]; exact Heap.get?_push_size _ rfl⟩
  generalize H1.objs.size = D at hDn hD2 ⊢
  have k3 : ∀ b o, H2.get? b = some o → h₃.get? b = some o := fun b o q => hsb₃.extBut b o (fun e => by rw [e, hCn] at q; cases q) (Heap.get?_push_of_some _ q)
  generalize H2.objs.size = C at ns₃ hCn ⊢
  have kk : ∀ b o, s.heap.get? b = some o → h₃.get? b = some o := fun b o q => k3 b o (k2 b o (k1 b o q))
  have Cs : s.heap.get? C = none := by
    cases e : s.heap.get? C with
    | none => rfl
    | some o => have := k2 _ _ (k1 _ _ e); rw [hCn] at this; cases this
  have none0 : ∀ b, s.heap.get? b = none → h₀.get? b = none := fun b q => by
    cases e : h₀.get? b with
    | none => rfl
    | some o => have := F.keep _ _ e; rw [q] at this; cases this
  have hD3 : h₃.PlainList D ([] : List Value).toArray := hD2.at fun o q => k3 _ _ q
  have CD : C ≠ D := fun e => by obtain ⟨k, q⟩ := hD2; rw [e, q] at hCn; cases hCn
  have CI : C ≠ It := fun e => by obtain ⟨o, q, _⟩ := hI1; rw [e, k2 _ _ q] at hCn; cases hCn
  have DI : D ≠ It := fun e => by obtain ⟨o, q, _⟩ := hI1; rw [e, q] at hDn; cases hDn
  have tC : tA ≠ C := fun e => by rw [e, Cs] at hT'; cases hT'
  have tI : tA ≠ It := fun e => by rw [e, hIn] at hT'; cases hT'
  have hI3 : h₃.IsListIter It tA 0 := hI1.at fun o q => k3 _ _ (k2 _ _ q)
  have loop : ∀ pos' q1 q2 q3 p1 p2 p3 p4 p5 : Pos, ∀ elt i1, codeG (mdl prog₀ w) A (.compLoop (.ListComp elt [⟨.Name (Str.ofString "pair") q1, i1, [], 0⟩, ⟨.Name (Str.ofString "one") q2, .Name (Str.ofString "pair") q3, [.UnaryOp .Not (.Call (.Name (Str.ofString "isinstance") p1) [.Name (Str.ofString "one") p2, .Name (Str.ofString "bytes") p3] [] p4) p5], 0⟩] (compScope nestC) pos') 0 (.ref It) (.ref D) (nestEnv C L))
      (fun r s' => ∃ m, s'.heap.Ns C m ∧ ∀ h', Heap.SameBut C s'.heap h' → match r with | .ok _ => Q (.ref D) { s' with heap := h' } | .error x => wpAny (mdl prog₀ w) A (PySem.passOn "comprehension.variables-let-go" x (nestEnv C L)) Q E { s' with heap := h' })
      { s with heap := h₃, toks := s.toks + ([] : List (Str × Value)).length } := by
    intro pos' q1 q2 q3 p1 p2 p3 p4 p5 elt i1
    refine nestOut (s := s) (H := h₃) (ts := ts) (all := all) (tA := tA) r X (fun b o q => kk b o (F.keep b o q)) (none0 _ Cs) (none0 _ hIn) CI CD DI tC tI ⟨hI3, hT.isList.at fun o q => kk _ _ q, ⟨_, ns₃⟩, hD3, tp.keep fun v _ a _ o q => kk _ _ q, fun b o _ _ q => q⟩ ?_
    rintro h4 tk4 ⟨m, ns4⟩ hD4 hk
    refine ⟨m, ns4, fun h5 hs5 => h h5 tk4 D (hD4.at fun o q => (hs5.2 D (Ne.symm CD)).trans q) fun b o q => ?_⟩
    have a1 : b ≠ C := fun e => by rw [e, Cs] at q; cases q
    have a3 : b ≠ It := fun e => by rw [e, hIn] at q; cases q
    exact (hs5.2 b a1).trans (hk b o a1 a3 (kk b o q))
  exact compStartG (loop _ _ _ _ _ _ _ _ _ _ _) (lift (r.any (wpAny_pyIter_listiter hI3 (loop _ _ _ _ _ _ _ _ _ _ _))))
end
end Mine

end
section
open PySem PySem.W PySem.W.X PySem.Calls PyProof.Rows PySem.Builtin
set_option maxRecDepth 100000
namespace Mine
theorem warm47 : (∀ P, Mine.hd.heap_39 P = Mine.hd.heap_39 P) ∧ PySem.Challenge.rw_ae6005_01 = PySem.Challenge.rw_ae6005_01 := by
  k_fill
  exact ⟨fun _ => rfl, rfl⟩
section
variable {M : Model} {A : Around} {E : Value → Shared → Prop} {s : Shared} {env : Env}
theorem gAndCons {pos : Pos} {x y : Sem Value} {rest : List (Sem Value)} {Q : Value → Shared → Prop}
    (h : wpG M A x (fun v s₁ => wpAny M A (truthy v) (fun t s₂ => t = true ∧ wpG M A (boolOp pos .And (y :: rest)) Q E s₂) E s₁) E s) : wpG M A (boolOp pos .And (x :: y :: rest)) Q E s := by
  show wpG M A (x >>= fun v => standAt pos >>= fun _ => holding [v] (truthy v) >>= fun t => _) Q E s
  refine gBind (gMono h (fun v s₁ h₁ => gBind (gAt (gBind (gHolding (gMono (toG h₁) (fun t s₂ h₂ => ?_) fun _ _ x => x))))) fun _ _ x => x)
  obtain ⟨rfl, h₂⟩ := h₂
  exact h₂
theorem gEvalCompare {l op r pos} {Q : Value → Shared → Prop}
    (h : wpG M A (eval l env) (fun a s₁ => wpAny M A (eval r env) (fun b s₂ => wpAny M A (compareOp op a b) Q E s₂) E s₁) E s)
    (hm : behindInMarks op r = false := by with_unfolding_all rfl) : wpG M A (eval (.Compare l [op] [r] pos) env) Q E s := fun Γ p hΓ hd hb => by
  simp only [eval_Compare1, markedBehindIn_of_false hm, Sem.wp_bind', Sem.wp_holding, Sem.wp_cmd_standAt, Sem.wp_operate]
  exact Sem.wp_mono M Γ _ (fun a p₁ s₁ h₁ => Sem.wp_mono M Γ _ (fun b _ s₂ h₂ => h₂ Γ _ hΓ)
    (fun _ _ _ h' => h') _ _ (h₁ Γ p₁ hΓ)) (fun _ _ _ h' => h') _ _ (h Γ _ hΓ hd hb)
end
section
variable {w : World} {s : Shared} {h₀ : Heap} {L tA dA : Addr} {mg mb : Str → Option Value} {mean : ExcName → Option Value} {A : Around} {E : Value → Shared → Prop} {m : Str → Option Value} {u : Tok} {outer : List Env} {ts ds : List Value} {all : List (Oct × Oct)}
def ret16 (n : Nat) : Expr := boolArg n (retExpr (lawAt 16))
set_option maxHeartbeats 4000000 in
theorem ret0 {Q : Value → Shared → Prop} (F : Fr h₀ L s.heap m) (hh : m (Str.ofString "hint") = some (.int 0 u)) (h : ∀ tk, Q (.bool true) { s with toks := tk }) :
    wpAny (model prog₀ w) (A₉ outer) (eval (ret16 0) (lawEnv L)) Q E s := by
  have N : News h₀ L s.heap [] := fun p hp => nomatch hp
  show wpAny _ _ (eval (Expr.Compare (Expr.Name _ _) [.Eq] [Expr.Constant _ _ _] _) (envOf _ { kind := _, names := _, isGenerator := _, isCoroutine := _, more := _ } _ _ _)) _ _ _
  have F1 := F
  repeat' (first | walk1 | (dsimp only; walk1))
  refine ld F1 hh ?_
  repeat' (first | walk1 | (dsimp only; walk1))
  all_goals exact h _
set_option maxHeartbeats 4000000 in
theorem ret1 {Q : Value → Shared → Prop} (F : Fr h₀ L s.heap m) (ht : m (Str.ofString "told") = some (.ref tA)) (hd : m (Str.ofString "due") = some (.ref dA)) (h1 : s.heap.PlainList tA ts.toArray) (h2 : s.heap.PlainList dA ds.toArray) (p1 : PairsAt s.heap ts all) (p2 : PairsAt s.heap ds all) (h : ∀ tk, Q (.bool true) { s with toks := tk }) :
    wpAny (model prog₀ w) (A₉ outer) (eval (ret16 1) (lawEnv L)) Q E s := by
  show wpAny _ _ (eval (Expr.Compare (Expr.Name _ _) [.Eq] [Expr.Name _ _] _) (envOf _ { kind := _, names := _, isGenerator := _, isCoroutine := _, more := _ } _ _ _)) _ _ _
  exact wpAny_Compare1 (ld F ht (ld F hd (pairLists h1 h2 p1 p2 (h _))))
set_option maxHeartbeats 4000000 in
theorem lawRet {Q : Flow → Shared → Prop} (r : Rm A outer) (X : (Mine.hd.heap_39 w.params).In h₀) (F : Fr h₀ L s.heap m) (hh : m (Str.ofString "hint") = some (.int 0 u)) (ht : m (Str.ofString "told") = some (.ref tA)) (hd : m (Str.ofString "due") = some (.ref dA))
    (h1 : s.heap.PlainList tA ts.toArray) (h2 : s.heap.PlainList dA ds.toArray) (p1 : PairsAt s.heap ts all) (p2 : PairsAt s.heap ds all)
    (h : ∀ h' tk, (∀ b o, h₀.get? b = some o → h'.get? b = some o) → Q (.ret (.bool true)) { s with heap := h', toks := tk }) :
    wpG (mdl prog₀ w) A (exec (lawAt 16) (lawEnv L)) Q E s := by
  show wpG _ _ (exec (Stmt.Return (some (Expr.BoolOp .And [ret16 0, ret16 1, Expr.Compare nestC [.Eq] [Expr.List [] _] _] _)) _) (lawEnv L)) _ _ _
  refine gReturn ?_
  rw [arm_eval_BoolOp]
  show wpG _ _ (boolOp _ .And [eval (ret16 0) (lawEnv L), eval (ret16 1) (lawEnv L), eval (Expr.Compare nestC [.Eq] [Expr.List [] _] _) (lawEnv L)]) _ _ _
  refine gAndCons (toG (lift (r.any (ret0 F hh fun tk1 => wpAny_truthy_bool ⟨rfl, ?_⟩))))
  refine gAndCons (toG (lift (r.any (ret1 (s := { s with toks := tk1 }) F ht hd h1 h2 p1 p2 fun tk2 => wpAny_truthy_bool ⟨rfl, ?_⟩))))
  show wpG _ _ (eval (Expr.Compare nestC [.Eq] [Expr.List [] _] _) (lawEnv L)) _ _ _
  refine gEvalCompare (nestEmpty (s := { s with toks := tk2 }) r X F ht h1 p1 fun h3 tk3 D hD hk => ?_)
  refine lift (r.any ?_)
  have F3 : Fr h₀ L h3 m := frExt F hk
  have F3k := F3.keep
  have N := news_full h₀ L h3
  have DL : D ≠ L := fun e => by obtain ⟨n, q⟩ := hD; obtain ⟨o, es, ep, ho, hd', _⟩ := F3.ns; rw [← e, q] at ho; cases ho; cases hd'
  show wpAny _ _ (eval (Expr.List [] _) (envOf _ { kind := _, names := _, isGenerator := _, isCoroutine := _, more := _ } _ _ _)) _ _ _
  repeat' (first | walk1 | (dsimp only; walk1))
  rename Fr _ _ _ _ => F9
  rename News _ _ _ _ => N9
  have k9 := keep_full (X := fun _ => False) F9 F3k N9 fun p hp _ => .tail _ hp
  have n0 := (N9 _ (.head _)).1
  refine lift (r.any (listEqNil (xs := #[]) ?_ ?_ ?_ ?_))
  · exact hD.isList.at fun o q => k9 _ _ DL _root_.id q
  · exact ⟨_, n0, rfl, 0, rfl⟩
  · exact Nat.le_of_ble_eq_true rfl
  · exact h _ _ F9.keep
end
end Mine

end
section
open PySem PySem.W PySem.W.X PySem.Calls PyProof.Rows PySem.Builtin
set_option maxRecDepth 100000
namespace Mine
section
variable {M : Model} {A : Around} {E : Value → Shared → Prop} {s : Shared} {env : Env}
theorem wp_execs_app {Γ : Ctx} {ys : List Stmt} {Q : Flow → Pos → Shared → Prop} {E : Value → Pos → Shared → Prop} : ∀ (xs : List Stmt) (p : Pos) (s : Shared),
    Sem.wp M Γ (execs xs env) (fun f p' s' => match f with | .next => Sem.wp M Γ (execs ys env) Q E p' s' | f => Q f p' s') E p s → Sem.wp M Γ (execs (xs ++ ys) env) Q E p s
  | [], p, s, h => h
  | x :: xs, p, s, h => by
    show Sem.wp M Γ (exec x env >>= fun f => match f with | .next => execs (xs ++ ys) env | f => pure f) Q E p s
    have h : Sem.wp M Γ (exec x env >>= fun f => match f with | .next => execs xs env | f => pure f) _ E p s := h
    rw [Sem.wp_bind'] at h ⊢
    refine Sem.wp_mono M Γ _ (fun f p₁ s₁ h₁ => ?_) (fun _ _ _ x => x) _ _ h
    cases f with
    | next => exact wp_execs_app xs p₁ s₁ h₁
    | brk => exact h₁
    | cont => exact h₁
    | ret v => exact h₁
theorem gExecsApp (xs ys : List Stmt) {Q : Flow → Shared → Prop} (h : wpG M A (execs xs env) (fun f s' => match f with | .next => wpG M A (execs ys env) Q E s' | f => Q f s') E s) : wpG M A (execs (xs ++ ys) env) Q E s := fun Γ p hΓ hd hb => by
  refine wp_execs_app xs p s (Sem.wp_mono M Γ _ (fun f p₁ s₁ h₁ => ?_) (fun _ _ _ x => x) _ _ (h Γ p hΓ hd hb))
  cases f with
  | next => exact h₁ Γ p₁ hΓ hd hb
  | brk => exact h₁
  | cont => exact h₁
  | ret v => exact h₁
end
theorem szSum : ∀ {items : List Oct}, (∀ b ∈ items, b.size ≤ 41) → (items.map fun b => b.size + 1).sum ≤ 42 * items.length
  | [], _ => by simp
  | b :: bs, h => by
    have h1 := h b (.head _)
    have h2 := szSum (items := bs) fun x hx => h x (.tail _ hx)
    simp only [List.map_cons, List.sum_cons, List.length_cons]
    omega
theorem lawMap5 (m₀ : Str → Option Value) (p : Value) (f : Int) (t : Tok) (D l : Addr) : (fun y => if y = Str.ofString "lines" then some (Value.ref l) else lawM1 m₀ p (.int f t) (.ref D) y) = lawM5 (lawM1 m₀ p (.int f t) (.ref D)) f t l := by
  funext y
  unfold lawM5
  by_cases h1 : y = Str.ofString "lines"
  · rw [if_pos h1, if_pos h1]
  rw [if_neg h1, if_neg h1]
  by_cases h2 : y = Str.ofString "first"
  · rw [if_pos h2]; subst h2; rfl
  · rw [if_neg h2]
theorem lawBody_eq : lawBody = [lawAt 0, lawAt 1, lawAt 2] ++ (lawAt 3 :: lawAt 4 :: ([lawAt 5, lawAt 6] ++ [lawAt 7, lawAt 8, lawAt 9, lawAt 10, lawAt 11, lawAt 12, lawAt 13, lawAt 14, lawAt 15, lawAt 16])) := rfl
theorem pairsNil {h : Heap} : ∀ {vs : List Value}, PairsAt h vs [] → vs = []
  | [], _ => rfl
  | _ :: _, x => x.elim
theorem firstOf_nonneg (ns : List Int) : 0 ≤ firstOf ns := by
  unfold firstOf
  cases e : absL ns with
  | nil => exact Int.le_refl _
  | cons k r => exact absL_nonneg k (by rw [e]; exact .head _)
section
variable {w : World} {s : Shared} {h₀ : Heap} {L l sc : Addr} {mg mb : Str → Option Value} {mean : ExcName → Option Value} {A : Around} {E : Value → Shared → Prop} {m : Str → Option Value} {f : Int} {t : Tok} {items : List Oct} {vs : List Value} {ns : List Int}
/-- the answers' part: statements 11 to 16 -/
theorem lawEnd {Q : Flow → Shared → Prop} {jv : Value} {lg : Addr} {ys : List Value} {n : Nat} (r : Rk 15 A [lawEnv L]) (X : (Mine.hd.heap_39 w.params).In h₀) (T : Top view₀ (looseW view₀ loose₀) mean mg mb h₀) (nl : h₀.NoLimit) (F : Fr h₀ L s.heap m)
    (hg : m (Str.ofString "given") = some (.ref lg)) (hj : m (Str.ofString "joined") = some jv) (hJ : JoinedAt s.heap L jv items) (hl : s.heap.get? lg = some (listObj ys n)) (ho : Octs s.heap ys items) (hz : szOf none items ≤ 900) (hil : items.length ≤ 800)
    (hap : (Value.ref lg :: ys).Pairwise Apart) (hfr : ∀ a ∈ lg :: refs ys, h₀.get? a = none) (hLp : L ∉ lg :: refs ys) (hJp : ∀ J, jv = .ref J → J ∉ lg :: refs ys)
    (h : ∀ s', (∀ b o, h₀.get? b = some o → s'.heap.get? b = some o) → (AllBare s.gens → AllBare s'.gens) → s'.os = s.os → Q (.ret (.bool true)) s') :
    wpG (mdl prog₀ w) A (execs [lawAt 11, lawAt 12, lawAt 13, lawAt 14, lawAt 15, lawAt 16] (lawEnv L)) Q E s := by
  refine gExecs (toG (lift (r.rm.any (lawTold F fun h1 tk1 tA F1 hT1 tn t0 tL k1 => ?_))))
  have lgL : lg ≠ L := fun e => hLp (by rw [e]; exact .head _)
  have refL : ∀ a, .ref a ∈ ys → a ≠ L := fun a hm e => hLp (.tail _ (mem_refs.mpr (e ▸ hm)))
  have tP : tA ∉ lg :: refs ys := fun hm => by
    rcases List.mem_cons.mp hm with e | hm
    · rw [e, hl] at tn; cases tn
    · obtain ⟨o, q⟩ := ho.there tA (mem_refs.mp hm); rw [tn] at q; cases q
  have hJ1 : JoinedAt h1 L jv items := hJ.keep k1
  have jt : ∀ J, jv = .ref J → J ≠ tA := fun J e e' => by
    rcases hJ with ⟨_, e2⟩ | ⟨_, J', js, e2, hJl, _⟩
    · rw [e] at e2; cases e2
    · rw [e] at e2; cases e2
      obtain ⟨k, q⟩ := hJl
      rw [e', tn] at q; cases q
  refine gExecs (lawHint (s := { s with heap := h1, toks := tk1 }) (lg := lg) (tA := tA) (ys := ys) (items := items) (n := n) r X T nl F1 ((if_neg (by decide)).trans hg) (if_pos rfl) (k1 _ _ lgL hl) (ho.keep fun v hv a e o q => k1 a o (refL a (e ▸ hv)) q) hz (by omega) hap hfr hLp hT1 tP tL t0 fun s2 ts hv u k2 b2 o2 F2 hT2 tp2 ehv => ?_)
  have hJ2 : JoinedAt s2.heap L jv items := by
    rcases hJ1 with x | ⟨e, J, js, e1, hJl, hB, hne⟩
    · exact .inl x
    · refine .inr ⟨e, J, js, e1, hJl.at fun o q => k2 _ _ (fun hm => ?_) hne q, hB, hne⟩
      rcases List.mem_cons.mp hm with e' | hm
      · exact jt J e1 e'
      · exact hJp J e1 hm
  refine gExecs (toG (lift (r.rm.any (lawDue F2 fun h3 tk3 dA F3 hD3 dn d0 dL k3 => ?_))))
  have hJ3 : JoinedAt h3 L jv items := hJ2.keep k3
  have hT3 : h3.PlainList tA ts.toArray := hT2.at fun o q => k3 _ _ tL q
  have tp3 : PairsAt h3 ts (tellOf items).1 := tp2.but (notTup_ns F2.ns) k3
  have td : tA ≠ dA := fun e => by obtain ⟨k, q⟩ := hT2; rw [e, dn] at q; cases q
  have fj : (fun y => if y = Str.ofString "due" then some (Value.ref dA) else if y = Str.ofString "hint" then some (Value.int hv u) else if y = Str.ofString "told" then some (Value.ref tA) else m y) (Str.ofString "joined") = some jv := (if_neg (by decide)).trans ((if_neg (by decide)).trans ((if_neg (by decide)).trans hj))
  have fh : (fun y => if y = Str.ofString "due" then some (Value.ref dA) else if y = Str.ofString "hint" then some (Value.int hv u) else if y = Str.ofString "told" then some (Value.ref tA) else m y) (Str.ofString "hint") = some (.int hv u) := (if_neg (by decide)).trans (if_pos rfl)
  have ft : (fun y => if y = Str.ofString "due" then some (Value.ref dA) else if y = Str.ofString "hint" then some (Value.int hv u) else if y = Str.ofString "told" then some (Value.ref tA) else m y) (Str.ofString "told") = some (.ref tA) := (if_neg (by decide)).trans ((if_neg (by decide)).trans (if_pos rfl))
  have fd : (fun y => if y = Str.ofString "due" then some (Value.ref dA) else if y = Str.ofString "hint" then some (Value.int hv u) else if y = Str.ofString "told" then some (Value.ref tA) else m y) (Str.ofString "due") = some (.ref dA) := if_pos rfl
  rcases hJ3 with ⟨bad, rfl⟩ | ⟨good, J, js, rfl, hJl, hjs, hJL⟩
  · have e1 := (joinNone bad).2
    have e2 : tellOf items = ([], true) := by unfold tellOf; rw [bad, e1]; rfl
    rw [e2] at tp3 ehv
    have e3 : ts = [] := pairsNil tp3
    subst e3
    have e4 : hv = 400 := ehv
    subst e4
    refine gExecs (toG (lift (r.rm.any (lawNone (s := { s2 with heap := h3, toks := tk3 }) T F3 fj fh ft hT3 tL t0 fun h4 tk4 k4 => ?_))))
    exact h _ k4 b2 o2
  · refine gExecs (toG (lift (r.rm.any (lawSome (s := { s2 with heap := h3, toks := tk3 }) T F3 fj fun tk4 => ?_))))
    have et : tellOf items = decOut pairL false (foldOut none items).1 := by unfold tellOf; rw [good]
    rw [et] at tp3 ehv
    have jd : J ≠ dA := fun e => by
      rcases hJ2 with ⟨_, e2⟩ | ⟨_, J', js', e2, hJl', _⟩
      · cases e2
      · cases e2; obtain ⟨k, q⟩ := hJl'; rw [e, dn] at q; cases q
    have hol := foldOut_len items none
    refine gExecs (lawFor (s := { s2 with heap := h3, toks := tk4 }) (outs := (foldOut none items).1) (ts := ts) (js := js) (all := (decOut pairL false (foldOut none items).1).1) (r.le (by decide)) X T nl F3 fj fh ft fd hJl hjs hD3 hT3 tp3 rfl ehv (by omega) (fun b hb => by have := foldOut_size items none b hb; omega) jd hJL dL tL td d0 (fun h5 tk5 k5 => ?_) fun h5 tk5 m5 ds F5 hh5 ht5 hd5 hT5 hD5 p5 q5 => ?_)
    · exact h _ k5 b2 o2
    · refine gExecs (lawRet (s := { s2 with heap := h5, toks := tk5 }) r.rm X F5 hh5 ht5 hd5 hT5 hD5 p5 q5 fun h6 tk6 k6 => ?_)
      exact h _ k6 b2 o2
end
end Mine

end
section
open PySem PySem.W PySem.W.X PySem.Calls PyProof.Rows PySem.Builtin
set_option maxRecDepth 100000
namespace Mine
section
variable {w : World} {s : Shared} {h₀ : Heap} {L l sc : Addr} {mg mb : Str → Option Value} {mean : ExcName → Option Value} {A : Around} {E : Value → Shared → Prop} {m : Str → Option Value} {f : Int} {t : Tok} {items : List Oct} {vs : List Value} {ns : List Int}
/-- statements 7 to 16 -/
theorem lawTail {Q : Flow → Shared → Prop} (r : Rk 15 A [lawEnv L]) (X : (Mine.hd.heap_39 w.params).In h₀) (T : Top view₀ (looseW view₀ loose₀) mean mg mb h₀) (nl : h₀.NoLimit) (F : Fr h₀ L s.heap m)
    (hml : m (Str.ofString "lines") = some (.ref l)) (hmf : m (Str.ofString "first") = some (.int f t)) (hl : s.heap.IsList l vs.toArray) (hlL : l ≠ L) (hB : BsAt vs items) (h6 : items.length ≤ 6) (hz41 : ∀ b ∈ items, b.size ≤ 41)
    (h : ∀ s', (∀ b o, h₀.get? b = some o → s'.heap.get? b = some o) → (AllBare s.gens → AllBare s'.gens) → s'.os = s.os → Q (.ret (.bool true)) s') :
    wpG (mdl prog₀ w) A (execs [lawAt 7, lawAt 8, lawAt 9, lawAt 10, lawAt 11, lawAt 12, lawAt 13, lawAt 14, lawAt 15, lawAt 16] (lawEnv L)) Q E s := by
  have hsum := szSum hz41
  have hz900 : sumOf items ≤ 900 := by unfold sumOf; omega
  have hzo : szOf none items ≤ 900 := by simp only [szOf, Option.elim]; omega
  have hz1000 : ∀ b ∈ items, b.size ≤ 1000 := fun b hb => by have := hz41 b hb; omega
  obtain ⟨ol, hol, _⟩ := id hl
  obtain ⟨oL, hL⟩ := frNs F
  refine gExecs (given7 (s := s) (items := items) (l := l) (vs := vs) r.rm X T F hmf hml hl hB hz1000 (by omega) fun h5 tk5 D5 ys5 n5 g5 => ?_)
  obtain ⟨F5, hg5, ho5, hfr5, hap5, k5⟩ := g5
  have hl5 : h5.IsList l vs.toArray := hl.at fun o q => k5 _ _ hlL q
  have D5L : ∀ a ∈ D5 :: refs ys5, a ≠ L := fun a ha e => by have := (hfr5 a ha).2; rw [e, hL] at this; cases this
  have D5l : l ∉ D5 :: refs ys5 := fun hm => by have := (hfr5 l hm).2; rw [hol] at this; cases this
  refine gExecs (lawJoin (s := { s with heap := h5, toks := tk5 }) (items := items) (vs := vs) (l := l) (r.le (by decide)) X T nl F5 ((if_neg (by decide)).trans hml) hl5 hB hz900 fun h6 tk6 jv F6 hj6 hjn k6 => ?_)
  have hl6 : h6.IsList l vs.toArray := hl5.at fun o q => k6 _ _ hlL q
  have hJp6 : ∀ J, jv = .ref J → J ∉ D5 :: refs ys5 := fun J e hm => by
    have hn := hjn J e
    dsimp only at hn
    rcases List.mem_cons.mp hm with e' | hm
    · rw [e', hg5] at hn; cases hn
    · obtain ⟨o, q⟩ := ho5.there J (mem_refs.mp hm); rw [hn] at q; cases q
  refine gExecs (lawFoldChk (s := { s with heap := h6, toks := tk6 }) (lg := D5) (ys := ys5) (n := n5) (jv := jv) (items := items) (r.le (by decide)) X T nl F6 ((if_neg (by decide)).trans (if_pos rfl)) (if_pos rfl) hj6 (k6 _ _ (D5L _ (.head _)) hg5) (ho5.keep fun v hv a e o q => k6 a o (D5L a (.tail _ (mem_refs.mpr (e ▸ hv)))) q) hzo (by omega) hap5 (fun a ha => (hfr5 a ha).1) (fun hm => D5L L hm rfl) hJp6 fun s9 p9 F9 => ?_)
  have hlL' : l ∉ [L] := fun hm => hlL (by simpa using hm)
  have hl9 : s9.heap.IsList l vs.toArray := hl6.at fun o q => p9.keep _ _ D5l hlL' q
  have hj9 : JoinedAt s9.heap L jv items := by
    rcases hj6 with x | ⟨e, J, js, e1, hJl, hBj, hne⟩
    · exact .inl x
    · exact .inr ⟨e, J, js, e1, hJl.at fun o q => p9.keep _ _ (hJp6 J e1) (fun hm => hne (by simpa using hm)) q, hBj, hne⟩
  obtain ⟨oL9, hL9⟩ := frNs F9
  refine gExecs (given10 (s := s9) (items := items) (l := l) (vs := vs) r.rm X T F9 ((if_neg (by decide)).trans ((if_neg (by decide)).trans hmf)) ((if_neg (by decide)).trans ((if_neg (by decide)).trans hml)) hl9 hB hz1000 (by omega) fun h10 tk10 D10 ys10 n10 g10 => ?_)
  obtain ⟨F10, hg10, ho10, hfr10, hap10, k10⟩ := g10
  refine lawEnd (s := { s9 with heap := h10, toks := tk10 }) (lg := D10) (ys := ys10) (n := n10) (jv := jv) (items := items) r X T nl F10 (if_pos rfl) ((if_neg (by decide)).trans (if_pos rfl)) (hj9.keep k10) hg10 ho10 hzo (by omega) hap10 (fun a ha => (hfr10 a ha).1) (fun hm => by have := (hfr10 L hm).2; rw [hL9] at this; cases this) (fun J e hm => ?_) fun s' k b o => h s' k (b ∘ p9.bare) (o.trans p9.os)
  have hn := (hfr10 J hm).2
  rcases hj9 with ⟨_, e2⟩ | ⟨_, J', js, e2, hJl, _⟩
  · rw [e] at e2; cases e2
  · rw [e] at e2; cases e2
    obtain ⟨k, q⟩ := hJl
    rw [hn] at q; cases q
/-- the law's body answers True -/
theorem lawBodyG {Q : Flow → Shared → Prop} (r : Rk 15 A [lawEnv L]) (X : (Mine.hd.heap_39 w.params).In h₀) (T : Top view₀ (looseW view₀ loose₀) mean mg mb h₀) (nl : h₀.NoLimit) (F : Fr h₀ L s.heap (fun y => if y = Str.ofString "script" then some (.ref sc) else none))
    (hl : h₀.IsList sc vs.toArray) (hI : IntsAre vs ns) (hlay : (PyData.list (ns.map PyData.int)).layable0 = true) (hn : ns.length ≤ 63)
    (h : ∀ s', (∀ b o, h₀.get? b = some o → s'.heap.get? b = some o) → (AllBare s.gens → AllBare s'.gens) → s'.os = s.os → Q (.ret (.bool true)) s') :
    wpG (mdl prog₀ w) A (execs lawBody (lawEnv L)) Q E s := by
  rw [lawBody_eq]
  refine gExecsApp _ _ (toG (lift (r.rm.any (lawHead X T F hl hI hlay hn fun h1 tk1 m₀ D ys t1 t2 F1 hD hys hD0 hDL => ?_))))
  have hf0 := firstOf_nonneg ns
  have hi7 : ((firstOf ns).fmod 7).toNat < 7 := by
    have h1 : 0 ≤ (firstOf ns).fmod 7 := fmod_lo (by decide)
    have h2 : (firstOf ns).fmod 7 < 7 := fmod_hi (by decide)
    omega
  obtain ⟨hlead, q, hq⟩ := menu_plain _ hi7
  refine gExecs (lawPlainG (s := { s with heap := h1, toks := tk1 }) (r.le (by decide)) X T nl F1 (by have := menu_size ((firstOf ns).fmod 7).toNat; omega) hlead hq rfl fun s2 p2 F2 => ?_)
  have hD2 : s2.heap.IsList D ys.toArray := hD.at fun o q => p2.keep _ _ (by simpa using hDL) q
  refine gExecs (toG (lift (r.rm.any (lawLines X T F2 hD2 hys hD0 hDL (absL_len ns) fun h3 tk3 l vs3 items F3 hl3 hB3 hn1 hn6 hz20 hl0 hlL => ?_))))
  rw [lawMap5] at F3
  refine gExecsApp _ _ (toG (lift (r.rm.any (lawMut (s := { s2 with heap := h3, toks := tk3 }) X T F3 hl3 hB3 hl0 hlL hf0 hn1 hn6 hz20 fun h4 tk4 m4 vs4 items4 F4 hml hmf hl4 hB4 hn1' hn6' hz41 => ?_))))
  exact lawTail (s := { s2 with heap := h4, toks := tk4 }) r X T nl F4 hml hmf hl4 hlL hB4 hn6' hz41 fun s' k b o => h s' k (b ∘ p2.bare) (o.trans p2.os)
end
end Mine

end
section
open PySem PySem.W PySem.W.X PySem.Calls PyProof.Rows PySem.Builtin
set_option maxRecDepth 100000
namespace Mine
theorem warm48 : (∀ P, Mine.hd.heap_39 P = Mine.hd.heap_39 P) ∧ PySem.Challenge.rw_ae6005_01 = PySem.Challenge.rw_ae6005_01 := by
  k_fill
  exact ⟨fun _ => rfl, rfl⟩
theorem sc142 : Sc lawScope [Str.ofString "script"] := ⟨rfl, rfl, by decide +kernel, by decide +kernel⟩
theorem pk142 (w : World) (l : Value) : PK w (bindArgs (fdAt w.params 142) ⟨[l], []⟩) [(Str.ofString "script", l)] := by kernel_rfl
theorem smap_start (v : Value) : (fun x => ([(Str.ofString "script", v)] : List (Str × Value)).reverse.lookup x) = fun y => if y = Str.ofString "script" then some v else none := by
  funext y
  show List.lookup y [_] = _
  by_cases h : y = Str.ofString "script"
  · subst h; rfl
  · rw [if_neg h, List.lookup_cons, beq_false_of_ne h]; rfl
/-- the call of the law -/
theorem lawCall {w : World} {s : Shared} {sc : Addr} {mg mb : Str → Option Value} {mean : ExcName → Option Value} {A : Around} {E : Value → Shared → Prop} {vs : List Value} {ns : List Int} {Q : Value → Shared → Prop} (r : Rk 16 A []) (X : (Mine.hd.heap_39 w.params).In s.heap) (T : Top view₀ (looseW view₀ loose₀) mean mg mb s.heap) (nl : s.heap.NoLimit)
    (hl : s.heap.IsList sc vs.toArray) (hI : IntsAre vs ns) (hlay : (PyData.list (ns.map PyData.int)).layable0 = true) (hn : ns.length ≤ 63)
    (h : ∀ s', (∀ b o, s.heap.get? b = some o → s'.heap.get? b = some o) → (AllBare s.gens → AllBare s'.gens) → s'.os = s.os → Q (.bool true) s') :
    wpG (mdl prog₀ w) A (call (.ref 142) [.ref sc]) Q E s := by
  refine Fn.callG (binds := [(Str.ofString "script", .ref sc)]) (fn142 w.params) (r.le (by decide)) X nl sc142 rfl (pk142 w _) fun h' tk F => ?_
  rw [smap_start] at F
  exact lawBodyG (s := { s with heap := h', toks := tk }) (h₀ := s.heap) (r.deeper _) X T nl F hl hI hlay hn fun s' k b o => h s' k b o
theorem ns_law (P : Params) : nsIn (Mine.hd.heap_39 P) mainGlobals (Str.ofString "law") = some (some (.ref 142)) := by kernel_rfl
theorem callRk : Rk 16 callerA [] := ⟨rfl, by decide, rfl, rfl, by decide⟩
set_option maxHeartbeats 8000000 in
theorem callLaw : CallG law₀.row.toRowW view₀ loose₀ (XL view₀ []) (Hook.says hook₀) := by
  k_fill
  intro w s₀ s₁ mg mb G Y args vals as hpre hlay L hlow
  have KX := kIn_of Y
  have X := (Ground.X G).1
  have V := (Ground.X G).2
  refine Ground.open G ?_
  intro T B D TE TW
  have hrd := L.reads
  have hwl := L.well
  have hlo := L.low hlow
  wrow_args hpre hlay hrd hwl hlo
  rename IntsAre _ _ => hI9
  rename Heap.IsList _ _ _ => hl9
  rename (PyData.list _).layable0 = true => hlay9
  refine ⟨.ref 142, mg_of KX T.g (ns_law w.params), ?_⟩
  refine lawCall callRk KX T T.nolimit hl9 hI9 hlay9 (by omega) fun s' k b o => ?_
  refine ⟨.inl ⟨.bool true, .bool true, [], rfl, ?_, .bool true, ?_, fun _ => ⟨List.nodup_nil, fun a ha => nomatch ha⟩⟩, .of_keep k, o, b ?_⟩
  · exact raisesW_false (by wrow_none_raised)
  · wrow_post
  · exact .of_eq L.gens
end Mine

end
open PySem PySem.W PyProof.Rows
set_option maxRecDepth 100000 in
set_option maxHeartbeats 8000000 in
theorem PySem.Challenge.cw_ae6005_01_holds : PySem.Challenge.rw_ae6005_01.Holds := by
  w_on
  o_law
  refine Mine.holdsG₀ (by assumption) ?hw ?hc
  case hw => w_witness2
  case hc => exact Mine.callLaw
