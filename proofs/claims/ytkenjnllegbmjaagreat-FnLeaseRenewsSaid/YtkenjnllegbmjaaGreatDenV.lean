/- A plain reading of Go functions, proved to be what they do; no condition. -/
/- A function's text run through, from label to label. -/
import Derived.Test.YtkenjnllegbmjaaGreatDenU
import Derived.Defers
set_option linter.unusedVariables false
set_option linter.unusedSimpArgs false
namespace Go.Den
open Go
section
variable {P : Program}

theorem partC.mono {t : TypeId} {v : Value} {k k' : List Value → Prop} (h : partC P t v k) (hk : ∀ l, k l → k' l) : partC P t v k' := by
  unfold partC at *
  split <;> rename_i ht <;> rw [ht] at h <;> simp only at h
  · split
    · exact hk _ h
    · rename_i hn; cases v <;> first | exact (show False from h).elim | exact (hn _ rfl).elim
  · unfold guardB at *
    split at h
    · exact hk _ h
    · exact h.elim
theorem fillD.mono {place : Nat → Option (Nat × TypeId)} : ∀ {parts : List (Nat × Value)} {zs : List Value} {k k' : List Value → Prop}, fillD P place zs parts k → (∀ l, k l → k' l) → fillD P place zs parts k' := by
  intro parts
  induction parts with
  | nil => intro zs k k' h hk; exact hk _ h
  | cons x r ih =>
    intro zs k k' h hk
    obtain ⟨i, v⟩ := x
    simp only [fillD] at h ⊢
    split at h
    · exact h.elim
    · rename_i off t hpl
      refine partC.mono h fun cs h => ?_
      unfold guardB at *
      split at h
      · exact ih h hk
      · exact h.elim
theorem allocD.ext {o : Oper} {ev : Operand → Value} {H : Heap} {K : Value → Heap → Prop} (h : allocD P o ev H K) : allocD P o ev H fun v H' => ExtH H H' ∧ K v H' := by
  obtain ⟨dst, op, type, pos, after, guard⟩ := o
  cases op <;> simp only [allocD] at h ⊢ <;> try exact h.elim
  case box T x => exact partC.mono h fun cs h => ⟨ExtH.push .., h⟩
  case alloc T =>
    split at h
    · exact ⟨ExtH.push .., h⟩
    · exact h.elim
  case buildSlice T n parts =>
    split at h
    · rename_i e ht
      split at h
      · rename_i ie hie
        split at h
        · rename_i zs hz
          unfold guardB at *
          split at h
          · exact fillD.mono h fun cs h => ⟨ExtH.push .., h⟩
          · exact h.elim
        · exact h.elim
      · exact h.elim
    · exact h.elim
  case makeSlice T l c =>
    split at h
    · split at h
      · split at h
        · rename_i zs hz
          split at h
          · split at h
            · unfold guardB at *
              split at h
              · exact ⟨h.1, h.2.1, h.2.2.1, h.2.2.2.1, ExtH.push .., h.2.2.2.2⟩
              · exact h.elim
            · exact h.elim
          · exact h.elim
        · exact h.elim
      · exact h.elim
    · exact h.elim
  case makeMap t r =>
    split at h
    · exact ⟨ExtH.push .., h⟩
    · exact h.elim
  case convert s d x =>
    split at h
    · split at h
      · split at h
        · split at h
          · split at h
            · exact ⟨h.1, fun cap hc => ⟨ExtH.push .., h.2 cap hc⟩⟩
            · exact h.elim
          · exact h.elim
        · exact h.elim
      · exact h.elim
    · exact h.elim
theorem opD.core {kd : Kind} {o : Oper} {ρ : Env} {H : Heap} {K : Value → Heap → Prop} {Q : List PanicEntry → Heap → Prop} (h : opD P kd o (evalE ρ) H K Q) : coreK P kd o (evalE ρ) H K Q := by
  cases kd with
  | pure => exact pureD.to (o := o) h
  | read => exact readD.spec (o := o) h
  | grow =>
    have h : growD P o (evalE ρ) H K := h
    show OperH P o (evalE ρ) H (fun v H' => ExtH H H' ∧ K v H') nope
    unfold growD at h
    split at h
    · rename_i c hop
      refine loudD.sem (fun g => rfl) (K := fun v H' => ExtH H H' ∧ K v H') (Q := nope) ?_
      unfold loudD
      rw [hop]
      dsimp only
      split at h
      · rename_i b hb
        split at h
        · exact h
        · exact h.elim
      · rename_i hnb
        cases hc : c.callee with
        | builtin b => exact absurd hc (hnb b)
        | value f => exact h
        | invoke r n => exact h
    · exact allocD.sem h.ext
  | loud => exact loudD.sem (fun g => rfl) h
  | heavy t => exact heavyD.sem h

/-! ### Regions -/
/-- An operation that is guarded: whether it runs is known, or both are to be shown. -/
def guardD (ops : Array Oper) (ρ : Env) (g : Option (Nat × Bool)) (yes no : Env → Prop) : Prop :=
  match g with
  | none => yes ρ
  | some (j, want) => match (ops[j]?).bind (·.dst) with
    | none => False
    | some d => match ρ d with
      | .bool b => match want with
        | true => iteB b (yes (upd ρ d (.bool true))) (no (upd ρ d (.bool false)))
        | false => iteB b (no (upd ρ d (.bool true))) (yes (upd ρ d (.bool false)))
      | .tuple _ => no ρ
      | _ => False
def denOps (P : Program) (ops : Array Oper) (kd : Nat → Kind) : List Nat → Env → Heap → (Env → Heap → Prop) → (List PanicEntry → Heap → Prop) → Prop
  | [], ρ, H, K, _ => K ρ H
  | i :: l, ρ, H, K, Q => match ops[i]? with
    | none => False
    | some o => guardD ops ρ o.guard
        (fun ρ => opD P (kd i) o (evalE ρ) H (fun v H' => denOps P ops kd l (putE ρ o.dst v) H' K Q) Q)
        (fun ρ => denOps P ops kd l (putE ρ o.dst undef) H K Q)
theorem upd_at {ρ : Env} {d : Nat} {b : Bool} (h : ρ d = .bool b) : upd ρ d (.bool b) = ρ := by rw [← h]; exact upd_self ρ d
theorem denOps.run {ops : Array Oper} {kd : Nat → Kind} {Q : List PanicEntry → Heap → Prop} : ∀ {l : List Nat} {ρ : Env} {H : Heap} {K : Env → Heap → Prop}, denOps P ops kd l ρ H K Q → runK P ops kd l ρ H K Q := by
  intro l
  induction l with
  | nil => intro ρ H K h; exact h
  | cons i l ih =>
    intro ρ H K h
    simp only [denOps] at h
    simp only [runK, stepK]
    split at h
    · exact h.elim
    · rename_i o ho
      rw [ho]
      simp only
      unfold stepV
      have yes : ∀ ρ', opD P (kd i) o (evalE ρ') H (fun v H' => denOps P ops kd l (putE ρ' o.dst v) H' K Q) Q → coreK P (kd i) o (evalE ρ') H (fun v H' => runK P ops kd l (putE ρ' o.dst v) H' K Q) Q :=
        fun ρ' h => (opD.core h).mono (fun v H' h => ih h) fun _ _ => id
      unfold guardD at h
      split at h
      · rename_i hg
        rw [if_pos (by unfold wantedE; rw [hg])]
        exact yes ρ h
      · rename_i j want hg
        split at h
        · exact h.elim
        · rename_i d hd
          split at h
          · rename_i b hb
            have hy : yieldedE ops ρ j = some b := by unfold yieldedE; rw [hd]; simp only [hb]
            have hw : wantedE ops ρ o = (some b == some want) := by unfold wantedE; rw [hg]; simp only [hy]
            rw [hw]
            cases want <;> cases b <;> simp only [iteB] at h
            · rw [if_pos (by decide)]; rw [upd_at hb] at h; exact yes ρ h
            · rw [if_neg (by decide)]; rw [upd_at hb] at h; exact ih h
            · rw [if_neg (by decide)]; rw [upd_at hb] at h; exact ih h
            · rw [if_pos (by decide)]; rw [upd_at hb] at h; exact yes ρ h
          · rename_i vs hb
            have hy : yieldedE ops ρ j = none := by unfold yieldedE; rw [hd]; simp only [hb]
            have hw : wantedE ops ρ o = ((none : Option Bool) == some want) := by unfold wantedE; rw [hg]; simp only [hy]
            rw [hw, if_neg (by cases want <;> decide)]
            exact ih h
          · exact h.elim

/-! ### Deferred calls that do nothing -/
/-- A function that does nothing: its text is empty. -/
def idleF (P : Program) (f : FuncId) : Bool := match P.funcs[f]? with
  | some fn => (match fn.body with | some .skip => true | some .ret => true | _ => false) && fn.results.toList.isEmpty && !(fn.name == "runtime.NumGoroutine")
  | none => false
/-- A deferred call of such a function. -/
def Idle (P : Program) (d : Deferred) : Prop := ∃ f args, d = { target := .fn (.func f) #[], args } ∧ idleF P f = true
theorem idle_calls {f : FuncId} {args : Array Value} {u : FrameMode} {w : World} (h : idleF P f = true) : CallsD P f args u w fun e u' w' => u' = u ∧ w' = w ∧ ∃ v, e = .returned v := by
  unfold idleF at h
  split at h
  · rename_i fn hf
    simp only [Bool.and_eq_true] at h
    obtain ⟨⟨h1, h2⟩, h3⟩ := h
    have hr : ∀ a : Act, (results fn a.tmps).run P w = .ok (.tuple #[]) w := by
      intro a
      have : fn.results = #[] := by
        have := List.isEmpty_iff.1 h2
        cases hfr : fn.results with
        | mk l => rw [hfr] at this; simp at this; rw [this]
      unfold results
      rw [this, Array.mapM_eq_mapM_toList]
      rfl
    split at h1
    · rename_i hb
      refine (callsD_of_wp (R := fun e w' => w' = w ∧ ∃ v, e = .returned v) hf hb ?_).mono fun e u' w' hh => ⟨hh.1, hh.2.1, hh.2.2⟩
      exact wp_skip (⟨rfl, _, hr _, rfl, _, rfl⟩)
    · rename_i hb
      refine (callsD_of_wp (R := fun e w' => w' = w ∧ ∃ v, e = .returned v) hf hb ?_).mono fun e u' w' hh => ⟨hh.1, hh.2.1, hh.2.2⟩
      exact wp_ret (⟨rfl, _, hr _, rfl, _, rfl⟩)
    · cases h1
  · cases h
theorem idle_leaves {fn : Func} {tmps : Array Value} {R : Ending → World → Prop} {w : World} : ∀ {ds : List Deferred}, (∀ d ∈ ds, Idle P d) → Leaves P fn tmps R [] .returning w → Leaves P fn tmps R ds .returning w := by
  intro ds
  induction ds with
  | nil => intro _ h; exact h
  | cons d ds ih =>
    intro hd h
    obtain ⟨f, args, rfl, hf⟩ := hd d (List.mem_cons_self ..)
    refine leaves_cons (f := f) (args := args) (by intro hh; cases hh) ?_ ((idle_calls hf).mono ?_)
    · unfold idleF at hf
      split at hf
      · rename_i fn' hfn
        simp only [Bool.and_eq_true] at hf
        obtain ⟨⟨h1, h2⟩, h3⟩ := hf
        have hb : fn'.body.isNone = false := by
          cases hbb : fn'.body with
          | none => rw [hbb] at h1; simp at h1
          | some c => rfl
        have hnm : (fn'.name == "runtime.NumGoroutine") = false := by simpa using h3
        show (callFunc f (args ++ #[])).run P w = _
        unfold callFunc
        simp only [program, bind, Sem.bind, Sem.run, hfn]
        rw [hnm]
        simp only [Bool.false_eq_true, if_false, hb]
        simp [Sem.run, pure]
      · cases hf
    · rintro e u' w' ⟨rfl, rfl, v, rfl⟩
      exact ih (fun d hd' => hd d (List.mem_cons_of_mem _ hd')) h
theorem idle_one {fn : Func} {tmps : Array Value} {R : Ending → World → Prop} {w : World} {d : Deferred} {ds : List Deferred} (hd : Idle P d) (h : Leaves P fn tmps R ds .returning w) : Leaves P fn tmps R (d :: ds) .returning w := by
  obtain ⟨f, args, rfl, hf⟩ := hd
  refine leaves_cons (f := f) (args := args) (by intro hh; cases hh) ?_ ((idle_calls hf).mono ?_)
  · unfold idleF at hf
    split at hf
    · rename_i fn' hfn
      simp only [Bool.and_eq_true] at hf
      obtain ⟨⟨h1, h2⟩, h3⟩ := hf
      have hb : fn'.body.isNone = false := by
        cases hbb : fn'.body with
        | none => rw [hbb] at h1; simp at h1
        | some c => rfl
      have hnm : (fn'.name == "runtime.NumGoroutine") = false := by simpa using h3
      show (callFunc f (args ++ #[])).run P w = _
      unfold callFunc
      simp only [program, bind, Sem.bind, Sem.run, hfn]
      rw [hnm]
      simp only [Bool.false_eq_true, if_false, hb]
      simp [Sem.run, pure]
    · cases hf
  · rintro e u' w' ⟨rfl, rfl, v, rfl⟩
    exact h
/-- What is deferred turns an ending of which R holds into one of which Rf holds: nothing is, or no panic ends the function. -/
def Df (P : Program) (f : FuncId) (R Rf : Ending → Heap → Prop) (ds : List Deferred) : Prop := (ds = [] ∧ ∀ e H, R e H → Rf e H) ∨
  ((∀ ch H, ¬ R (.panicked ch) H) ∧ ∀ (fn : Func) (tmps : Array Value) (v : Value) (w : World), P.funcs[f]? = some fn → (results fn tmps).run P w = .ok v w → R (.returned v) w.heap → Leaves P fn tmps (fun e w' => Same w w' ∧ Rf e w'.heap) ds .returning w)
theorem Df.mono {f : FuncId} {R R' Rf : Ending → Heap → Prop} {ds : List Deferred} (h : Df P f R' Rf ds) (hr : ∀ e H, R e H → R' e H) : Df P f R Rf ds :=
  h.imp (fun h => ⟨h.1, fun e H x => h.2 e H (hr e H x)⟩) fun h => ⟨fun ch H x => h.1 ch H (hr _ _ x), fun fn tmps v w h1 h2 h3 => h.2 fn tmps v w h1 h2 (hr _ _ h3)⟩
/-- How a frame is left, a called one or a deferred one. -/
def Gone (P : Program) (k : CallKind) (fr : Frame) (w : World) (e : Ending) : Prop := match k with
  | .normal => fr.leaving P w e
  | .deferred => fr.kind = .deferred ∧ fr.going P w e
  | _ => False
def Kd (k : CallKind) : Prop := k = .normal ∨ k = .deferred
theorem leavesK {fn : Func} {tmps : Array Value} {R : Ending → World → Prop} {kd : CallKind} (hkd : Kd kd) : ∀ (ds : List Deferred) (u : FrameMode) (w : World) (fr : Frame)
    (cs : List Frame), fr.mode = u → fr.defers = ds → fr.tmps = tmps → P.funcs[fr.fn]? = some fn → fr.kind = kd → Leaves P fn tmps R ds u w →
    ∃ e w' fr', R e w' ∧ Comes P (lone fr cs w) (lone fr' cs w') e ∧ fr'.fn = fr.fn ∧ Gone P kd fr' w' e := by
  intro ds
  induction ds with
  | nil =>
    intro u w fr cs hu hd ht hf hk h
    cases u with
    | run => exact h.elim
    | returning =>
      obtain ⟨v, hr, hR⟩ := h
      refine ⟨.returned v, w, fr, hR, Steps.refl P _, rfl, ?_⟩
      rcases hkd with rfl | rfl
      · exact ⟨hu, hd, hk, fn, hf, ht ▸ hr⟩
      · exact ⟨hk, hu, hd, fn, hf, ht ▸ hr⟩
    | panicking chain =>
      refine ⟨.panicked chain, w, fr, h, Steps.refl P _, rfl, ?_⟩
      rcases hkd with rfl | rfl
      · exact ⟨hu, hd, fn, hf⟩
      · exact ⟨hk, hu, hd, fn, hf⟩
  | cons d ds ih =>
    intro u w fr cs hu hd ht hf hk h
    obtain ⟨hrun, fv, cap, f, args, htar, hinv, hcall⟩ := h
    have h1 := step_defer (cs := cs) (hu ▸ hrun) hd htar hinv
    obtain ⟨e, u', w', frX, hR, hsteps, hkX, hgo⟩ := hcall { fr with defers := ds } cs hu
    cases e with
    | returned v =>
      have h2 := step_going_returned (c := { { fr with defers := ds } with mode := u' }) (cs := cs) hkX hgo
      obtain ⟨e', w'', fr', hR', hs', hfn', hl'⟩ := ih (settle u') w' { { { fr with defers := ds } with mode := u' } with mode := settle u' } cs rfl rfl ht hf hk hR
      exact ⟨e', w'', fr', hR', Comes.of_steps (.head h1 (Steps.trans hsteps (.one h2))) hs', hfn', hl'⟩
    | panicked chain =>
      have h2 := step_going_panicked (c := { { fr with defers := ds } with mode := u' }) (cs := cs) hgo
      obtain ⟨e', w'', fr', hR', hs', hfn', hl'⟩ := ih (raised u' chain) w' { { { fr with defers := ds } with mode := u' } with mode := raised u' chain } cs rfl rfl ht hf hk hR
      exact ⟨e', w'', fr', hR', Comes.of_steps (.head h1 (Steps.trans hsteps (.one h2))) hs', hfn', hl'⟩
    | outgrown =>
      refine ⟨.outgrown, w', fr, hR, Outgrown.of_steps (.one h1) hsteps, rfl, ?_⟩
      rcases hkd with rfl | rfl
      · trivial
      · exact ⟨hk, trivial⟩

/-! ### A function's text -/
/-- From here on the function comes to an ending of which R holds. -/
def GoS (P : Program) (f : FuncId) (n : Nat) (todo : List Item) (ρ : Env) (H : Heap) (R : Ending → Heap → Prop) : Prop :=
  ∀ (b : Frame) (a : Act) (cs : List Frame) (w : World) (Rf : Ending → Heap → Prop), b.fn = f → Kd b.kind → Abs n a ρ → Df P f R Rf a.defers → w.heap = H →
    ∃ e w' fr, (Same w w' ∧ Rf e w'.heap) ∧ Comes P (lone (b.at a todo) cs w) (lone fr cs w') e ∧ fr.fn = f ∧ Gone P b.kind fr w' e
def updL (ρ : Env) : List Nat → List Value → Env
  | d :: ds, v :: vs => upd (updL ρ ds vs) d v
  | _, _ => ρ
theorem updL_self (ρ : Env) : ∀ (ds : List Nat), updL ρ ds (ds.map ρ) = ρ := by
  intro ds
  induction ds with
  | nil => rfl
  | cons d ds ih => simp only [List.map_cons, updL, ih]; exact upd_self ρ d
/-- From a label on: only the slots that are told count. -/
def GoL (P : Program) (f : FuncId) (n : Nat) (todo : List Item) (live : List Nat) (vals : List Value) (H : Heap) (R : Ending → Heap → Prop) : Prop :=
  ∀ ρ0, GoS P f n todo (updL ρ0 live vals) H R
theorem GoL.go {f : FuncId} {n : Nat} {todo : List Item} {live : List Nat} {ρ : Env} {H : Heap} {R : Ending → Heap → Prop} (h : GoL P f n todo live (live.map ρ) H R) : GoS P f n todo ρ H R := by
  have := h ρ
  rwa [updL_self] at this

theorem GoS.step {f : FuncId} {n : Nat} {todo todo' : List Item} {ρ : Env} {H : Heap} {R : Ending → Heap → Prop} (hs : ∀ (b : Frame) (a : Act) (cs : List Frame) (w : World), Abs n a ρ → step P (lone (b.at a todo) cs w) = .next (lone (b.at a todo') cs w))
    (h : GoS P f n todo' ρ H R) : GoS P f n todo ρ H R := by
  intro b a cs w Rf hb hk ha hd hw
  obtain ⟨e, w', fr, h1, h2, h3⟩ := h b a cs w Rf hb hk ha hd hw
  exact ⟨e, w', fr, h1, .of_steps (.one (hs b a cs w ha)) h2, h3⟩

/-- Where a region leads: its continuation, or the function's end by a panic. -/
theorem GoS.ops {f : FuncId} {n : Nat} {ops : Array Oper} {kd : Nat → Kind} {l : List Nat} {k : List Item} {ρ : Env} {H : Heap} {R : Ending → Heap → Prop} {fn : Func} (hfn : P.funcs[f]? = some fn) (hb : ∀ i ∈ l, ∀ o, ops[i]? = some o → ∀ d, o.dst = some d → d < n)
    (h : runK P ops kd l ρ H (fun ρ' H' => GoS P f n k ρ' H' R) fun ch H' => R (.panicked ch) H') :
    ∀ (b : Frame) (a : Act) (cs : List Frame) (w : World) (Rf : Ending → Heap → Prop), b.fn = f → Kd b.kind → Abs n a ρ → Df P f R Rf a.defers → w.heap = H →
      ∃ e w' fr, (Same w w' ∧ Rf e w'.heap) ∧ Comes P (lone (b.at a (.inRegion ops l :: k)) cs w) (lone fr cs w') e ∧ fr.fn = f ∧ Gone P b.kind fr w' e := by
  intro b a cs w Rf hbf hbk ha hd hw
  subst hw
  let Qx : Exit → Act → World → Prop := fun e a' w' => match e with
    | .normal => ∃ ρ', Abs n a' ρ' ∧ a'.defers = a.defers ∧ Same w w' ∧ GoS P f n k ρ' w'.heap R
    | .panic ch => a'.defers = a.defers ∧ Same w w' ∧ R (.panicked ch) w'.heap
    | _ => False
  have hwp : wpOps P ops Qx l a w := runK_wp (n := n) (Qx := Qx) (w0 := w) (ds := a.defers) l hb ha rfl (Same.refl w) (fun ρ' a' w' h1 h2 h3 h4 => ⟨ρ', h1, h2, h3, h4⟩) (fun ch a' w' h1 h2 h3 => ⟨h1, h2, h3⟩) h
  obtain ⟨e, a', w', hq, harr⟩ := wp_ops l a w hwp b k cs
  cases e with
  | normal =>
    obtain ⟨ρ', h1, h2, h3, h4⟩ := hq
    obtain ⟨e2, w2, fr, ⟨g1, g1'⟩, g2, g3⟩ := h4 b a' cs w' Rf hbf hbk h1 (by rw [h2]; exact hd) rfl
    exact ⟨e2, w2, fr, ⟨h3.trans g1, g1'⟩, .of_steps harr g2, g3⟩
  | panic ch =>
    obtain ⟨h1, h2, h3⟩ := hq
    obtain ⟨todo, hs⟩ := harr
    rcases hd with ⟨hd, hR⟩ | ⟨hd, _⟩
    · refine ⟨.panicked ch, w', _, ⟨h2, hR _ _ h3⟩, hs, hbf, ?_⟩
      obtain ⟨b1, b2⟩ : ∃ kk, kk = b.kind := ⟨_, rfl⟩
      rcases hbk with hbk | hbk
      · rw [hbk]; exact ⟨rfl, h1.trans hd, fn, hbf ▸ hfn⟩
      · rw [hbk]; exact ⟨hbk, rfl, h1.trans hd, fn, hbf ▸ hfn⟩
    · exact (hd _ _ h3).elim
  | _ => exact hq.elim

/-- A region whose last operation defers a call that does nothing: the operations ahead of it, and then the continuation. -/
theorem wpOps_append {ops : Array Oper} {Qx : Exit → Act → World → Prop} : ∀ {l m : List Nat} {a : Act} {w : World}, wpOps P ops (fun e a w => match e with | .normal => wpOps P ops Qx m a w | .panic ch => Qx (.panic ch) a w | _ => False) l a w → wpOps P ops Qx (l ++ m) a w := by
  intro l
  induction l with
  | nil => intro m a w h; exact h
  | cons i l ih =>
    intro m a w h
    rw [List.cons_append, wpOps_cons]
    rw [wpOps_cons] at h
    unfold wpOp at h ⊢
    split
    · rename_i hi; rw [hi] at h; exact ih h
    · rename_i o hi
      rw [hi] at h
      simp only at h
      split
      · rename_i hw
        rw [if_pos hw] at h
        rcases h with h | ⟨_, h⟩
        · left
          unfold Oper.wp at *
          generalize (execOp a.eval o).run P w = r at *
          cases r with
          | ok x w' => cases x <;> simp only [Oper.upon] at h ⊢ <;> first
            | exact ih h
            | exact h.elim
            | (refine Calls.mono h ?_; intro e w'' he; cases e with
                | returned v => exact ih he
                | panicked ch => exact he
                | outgrown => obtain ⟨_, _, hh⟩ := he; exact hh.elim)
            | (exact h.mono fun v w'' he => ih he)
          | halt x w' => cases x <;> first | exact h | exact h.elim
        · obtain ⟨_, _, hh⟩ := h; exact hh.elim
      · rename_i hw
        rw [if_neg hw] at h
        exact ih h

structure Ann where
  /-- which operations (region's number times 1000, and its own) are taken otherwise than by 'kindOf' -/
  kinds : List (Nat × Kind)
  /-- a region that draws its order: the orders that stand for all -/
  taus : List (Nat × List (List Nat))
  /-- the pairs whose order counts -/
  pairs : List (Nat × List (Nat × Nat))
  /-- the labels: the slots that are read behind each -/
  lab : List (Nat × List Nat)
  /-- a region that draws its order, with operations (and the types of what they make) that stand ahead of the others, in any order among themselves -/
  free : List (Nat × List (Nat × TypeId)) := []
def look {α : Type} (k : Nat) : List (Nat × α) → Option α
  | [] => none
  | x :: r => match Nat.beq x.1 k with
    | true => some x.2
    | false => look k r
def Ann.tau (an : Ann) (id : Nat) : List (List Nat) := match look id an.taus with | some l => l | none => []
def Ann.pair (an : Ann) (id : Nat) : List (Nat × Nat) := match look id an.pairs with | some l => l | none => []
def headKey : Code → Nat
  | .region id _ _ => id + 1
  | .seq a b => match headKey a with
    | 0 => headKey b
    | n + 1 => n + 1
  | .cond _ a _ => 100000 + headKey a
  | .block _ c => headKey c
  | .loop c => headKey c
  | .exit id => 200000 + id
  | .ret => 300000
  | _ => 0
def labKey (todo : List Item) : Nat :=
  match todo with
  | [] => 0
  | .code c :: k => (k.length + 1) * 10000000 + headKey c
  | .inBlock id :: k => (k.length + 1) * 10000000 + 5000000 + id
  | .inLoop c :: k => (k.length + 1) * 10000000 + 4000000 + headKey c
  | _ => 1
def panK (R : Ending → Heap → Prop) : List PanicEntry → Heap → Prop := fun ch H => R (.panicked ch) H
/-- A part of a text. -/
def sub : List Nat → Code → Code
  | [], c => c
  | i :: p, c => match c with
    | .seq a b => match i with | 0 => sub p a | _ => sub p b
    | .cond _ a b => match i with | 0 => sub p a | _ => sub p b
    | .block _ c => sub p c
    | .loop c => sub p c
    | _ => .skip
def kindOf : Oper → Kind
  | o => match o.op with
    | .load _ _ => .read
    | .box _ _ | .alloc _ | .buildSlice _ _ _ | .makeSlice _ _ _ | .makeMap _ _ | .store _ _ _ | .panic _ => .loud
    | .call c => match c.callee with
      | .builtin b => match b with
        | .append | .copy => .loud
        | _ => .pure
      | _ => .loud
    | _ => .pure
def kindAt (an : Ann) (ops : Array Oper) (id i : Nat) : Kind :=
  match look (id * 1000 + i) an.kinds with
  | some k => k
  | none => match ops[i]? with
    | some o => kindOf o
    | none => .loud
def allD : List (List Nat) → (List Nat → Prop) → Prop
  | [], _ => True
  | [τ], p => p τ
  | τ :: r, p => p τ ∧ allD r p
theorem allD.spec : ∀ {l : List (List Nat)} {p : List Nat → Prop}, allD l p → ∀ τ ∈ l, p τ := by
  intro l
  induction l with
  | nil => intro p _ τ h; cases h
  | cons τ r ih =>
    intro p h σ hσ
    cases r with
    | nil =>
      rcases List.mem_cons.1 hσ with rfl | hσ
      · exact h
      · cases hσ
    | cons τ' r =>
      obtain ⟨h1, h2⟩ := h
      rcases List.mem_cons.1 hσ with rfl | hσ
      · exact h1
      · exact ih h2 σ hσ
/-- Some steps in any order; what each makes is told by its key. -/
abbrev Stp := Heap → (Value → Heap → Prop) → Prop
def seqO (l : List (Nat × Stp)) : List Nat → (Nat → Value) → Heap → ((Nat → Value) → Heap → Prop) → Prop
  | [], g, H, K => K g H
  | i :: π, g, H, K => match look i l with
    | some s => s H fun v H' => seqO l π (fun j => if j = i then v else g j) H' K
    | none => False
def AnyO (l : List (Nat × Stp)) (H : Heap) (K : List Value → Heap → Prop) : Prop :=
  ∀ π : List Nat, π.Perm (l.map Prod.fst) → seqO l π (fun _ => undef) H fun g H' => K ((l.map Prod.fst).map g) H'
def opAt (P : Program) (ops : Array Oper) (kd : Nat → Kind) (ρ : Env) (Q : List PanicEntry → Heap → Prop) (i : Nat) : Stp := fun H K =>
  match ops[i]? with
  | some o => opD P (kd i) o (evalE ρ) H K Q
  | none => False
def freeL (P : Program) (ops : Array Oper) (kd : Nat → Kind) (ρ : Env) (Q : List PanicEntry → Heap → Prop) : List (Nat × TypeId) → List (Nat × Stp)
  | [] => []
  | x :: F => (x.1, opAt P ops kd ρ Q x.1) :: freeL P ops kd ρ Q F
def dstAt (ops : Array Oper) (i : Nat) : Option Tmp := match ops[i]? with
  | some o => o.dst
  | none => none
def putL (ops : Array Oper) : List (Nat × TypeId) → List Value → Env → Env
  | x :: F, v :: vs, ρ => putE (putL ops F vs ρ) (dstAt ops x.1) v
  | _, _, ρ => ρ
def headL : List (List Nat) → List Nat
  | [] => []
  | x :: _ => x
def typesL : List (Nat × TypeId) → List TypeId
  | [] => []
  | x :: r => x.2 :: typesL r
def fstL : List (Nat × TypeId) → List Nat
  | [] => []
  | x :: r => x.1 :: fstL r
def freeD (P : Program) (ops : Array Oper) (kd : Nat → Kind) (F : List (Nat × TypeId)) (ρ : Env) (H : Heap) (K : Env → Heap → Prop) (Q : List PanicEntry → Heap → Prop) : Prop :=
  AnyO (freeL P ops kd ρ Q F) H fun l H' => tL P (typesL F) l fun vs => K (putL ops F vs ρ) H'
def Ann.free? (an : Ann) (id : Nat) : Option (List (Nat × TypeId)) := look id an.free
def freeO (ops : Array Oper) (i j : Nat) : Bool := match ops[i]?, ops[j]? with
  | some oi, some oj => notSelect oj.op && oj.guard.isNone && (i == j || oi.apart ops oj)
  | _, _ => false
/-- The closed check: the free ones, among themselves, do not look at each other; all others keep their order by edges, or do not mind. -/
def freeOk (ops : Array Oper) (kd : Nat → Kind) (pre F rest : List Nat) : Bool :=
  edgesBack ops && (pre ++ (F ++ rest)).isPerm (List.range ops.size) && (F.all fun i => F.all fun j => freeO ops i j) &&
    pairsOk (fun y x => (F.contains y && F.contains x) || ((masks ops.toList []).getD x 0).testBit y || indepI ops kd y x) (pre ++ (F ++ rest))
def dstOk (n : Nat) (ops : Array Oper) : Bool := ops.toList.all fun o => match o.dst with | some d => Nat.blt d n | none => true
/-- The closed check of a function's text. -/
def codeOk (an : Ann) (n : Nat) : Code → Bool
  | .region id ops draw => dstOk n ops && match draw with
    | true => match an.free? id with
      | some F => freeOk ops (kindAt an ops id) (headL (an.tau id)) (fstL F) (headL (an.tau id).tail)
      | none => regionOk ops (kindAt an ops id) (an.pair id) (an.tau id)
    | false => true
  | .seq a b => codeOk an n a && codeOk an n b
  | .cond _ a b => codeOk an n a && codeOk an n b
  | .block _ c => codeOk an n c
  | .loop c => codeOk an n c
  | .skip => true
  | .exit _ => true
  | .ret => true
  | _ => false
def itemOk (an : Ann) (n : Nat) : Item → Bool
  | .code c => codeOk an n c
  | .inBlock _ => true
  | .inLoop c => codeOk an n c
  | _ => false
def resD (P : Program) (rs : List ResultVar) (ρ : Env) (H : Heap) (k : List Value → Prop) : Prop :=
  match rs with
  | [] => k []
  | r :: rs => match r with
    | .tmp t => resD P rs ρ H fun vs => k (ρ t :: vs)
    | .cell a t => match ρ a with
      | .pointer p => match p with
        | some ad => ldD P t ad H fun v => resD P rs ρ H fun vs => k (v :: vs)
        | none => False
      | _ => False
def endD (P : Program) (f : FuncId) (ρ : Env) (H : Heap) (R : Ending → Heap → Prop) : Prop :=
  match P.funcs[f]? with
  | some fn => resD P fn.results.toList ρ H fun vs => match vs with
    | [v] => R (.returned v) H
    | vs => R (.returned (.tuple ⟨vs⟩)) H
  | none => False
/-- No panic ends the function. -/
def noPan (R : Ending → Heap → Prop) (k : Prop) : Prop := (∀ ch H, ¬ R (.panicked ch) H) ∧ k
/-- Which function a region defers, as its last operation. -/
def deferOf (ops : Array Oper) : Option FuncId :=
  match ops[ops.size - 1]? with
  | some o => match o.guard with
    | none => match o.dst with
      | none => match o.op with
        | .defer c => match c.callee with
          | .value x => match x with
            | .func f => some f
            | _ => none
          | _ => none
        | _ => none
      | some _ => none
    | some _ => none
  | none => none
/-- Which method of an interface's value a region defers, as its last operation. -/
def deferIf (ops : Array Oper) : Option (Operand × String × Array Operand) :=
  match ops[ops.size - 1]? with
  | some o => match o.guard with
    | none => match o.dst with
      | none => match o.op with
        | .defer c => match c.callee with
          | .invoke r nm => some (r, nm, c.args)
          | _ => none
        | _ => none
      | some _ => none
    | some _ => none
  | none => none
/-- A function that is entered as a deferred one. -/
def CallsHD (P : Program) (f : FuncId) (args : Array Value) (H : Heap) (R : Ending → Heap → Prop) : Prop :=
  ∀ w, w.heap = H → CallsD P f args .returning w fun e u' w' => u' = .returning ∧ Same w w' ∧ R e w'.heap
/-- The method is called when the function, which has no results, leaves. -/
def aftI (P : Program) (f : FuncId) (i : Value) (nm : String) (args : List Value) (R : Ending → Heap → Prop) : Ending → Heap → Prop := fun e H =>
  e = .returned (.tuple #[]) ∧ ∃ g recv, (∀ w, w.heap = H → (callMethod i nm ⟨args⟩).run P w = .ok (.enter g ⟨recv :: args⟩) w) ∧ CallsHD P g ⟨recv :: args⟩ H fun e' H' => (∃ u, e' = .returned u) ∧ R (.returned (.tuple #[])) H'
/-- From here on the end is another one. -/
def letR (R' : Ending → Heap → Prop) (k : (Ending → Heap → Prop) → Prop) : Prop := k R'
/-- The function has no results. -/
def noRes (P : Program) (f : FuncId) : Bool := match P.funcs[f]? with
  | some fn => fn.results.toList.isEmpty
  | none => false
/-- The text ahead, run through until it ends, or comes to a label. -/
def denT (P : Program) (f : FuncId) (n : Nat) (an : Ann) : Nat → Bool → List Item → Env → Heap → (Ending → Heap → Prop) → Prop
  | 0, _, todo, ρ, H, R => GoS P f n todo ρ H R
  | fuel + 1, chk, todo, ρ, H, R =>
    match (match chk with | true => look (labKey todo) an.lab | false => none) with
    | some live => GoL P f n todo live (live.map ρ) H R
    | none => match todo with
      | [] => endD P f ρ H R
      | .code c :: k => match c with
        | .skip => denT P f n an fuel true k ρ H R
        | .seq a b => denT P f n an fuel true (.code a :: .code b :: k) ρ H R
        | .region id ops draw => match draw with
          | false => match deferOf ops with
            | none => match deferIf ops with
              | none => denOps P ops (kindAt an ops id) (List.range ops.size) ρ H (fun ρ' H' => denT P f n an fuel true k ρ' H' R) (panK R)
              | some (r, nm, as) => noPan R (guardB (noRes P f) (denOps P ops (kindAt an ops id) (List.range (ops.size - 1)) ρ H (fun ρ' H' => denT P f n an fuel true k ρ' H' (aftI P f (evalE ρ' r) nm (as.toList.map (evalE ρ')) R)) (panK R)))
            | some g => noPan R (guardB (idleF P g) (denOps P ops (kindAt an ops id) (List.range (ops.size - 1)) ρ H (fun ρ' H' => denT P f n an fuel true k ρ' H' R) (panK R)))
          | true => match an.free? id with
            | some F => denOps P ops (kindAt an ops id) (headL (an.tau id)) ρ H (fun ρ0 H0 => freeD P ops (kindAt an ops id) F ρ0 H0 (fun ρ1 H1 => denOps P ops (kindAt an ops id) (headL (an.tau id).tail) ρ1 H1 (fun ρ' H' => denT P f n an fuel true k ρ' H' R) (panK R)) (panK R)) (panK R)
            | none => allD (an.tau id) fun τ => denOps P ops (kindAt an ops id) τ ρ H (fun ρ' H' => denT P f n an fuel true k ρ' H' R) (panK R)
        | .cond c a b => match evalE ρ c with
          | .bool t => iteB t (denT P f n an fuel true (.code a :: k) ρ H R) (denT P f n an fuel true (.code b :: k) ρ H R)
          | _ => False
        | .block id c => denT P f n an fuel true (.code c :: .inBlock id :: k) ρ H R
        | .loop c => denT P f n an fuel true (.code c :: .inLoop c :: k) ρ H R
        | .exit id => match exitTo id k with
          | some k' => denT P f n an fuel true k' ρ H R
          | none => False
        | .ret => endD P f ρ H R
        | _ => False
      | .inBlock _ :: k => denT P f n an fuel true k ρ H R
      | .inLoop c :: k => denT P f n an fuel true (.code c :: .inLoop c :: k) ρ H R
      | _ => False
end
end Go.Den
