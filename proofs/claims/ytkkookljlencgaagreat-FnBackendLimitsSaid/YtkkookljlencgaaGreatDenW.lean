/- A plain reading of Go functions, proved to be what they do; no condition. -/
/- That the text run through is the function's. -/
import Derived.Test.YtkkookljlencgaaGreatDenV
set_option linter.unusedVariables false
set_option linter.unusedSimpArgs false
namespace Go.Den
open Go
section
variable {P : Program} {f : FuncId} {n : Nat} {an : Ann}

theorem dstOk.spec {ops : Array Oper} (h : dstOk n ops = true) (l : List Nat) : ∀ i ∈ l, ∀ o, ops[i]? = some o → ∀ d, o.dst = some d → d < n := by
  intro i _ o ho d hd
  unfold dstOk at h
  rw [List.all_eq_true] at h
  have := h o (Array.mem_toList_iff.2 (Array.mem_of_getElem? ho))
  rw [hd] at this
  simpa using this
theorem exitTo_ok : ∀ {k k' : List Item} {id : Nat}, (∀ x ∈ k, itemOk an n x = true) → exitTo id k = some k' → ∀ x ∈ k', itemOk an n x = true := by
  intro k
  induction k with
  | nil => intro k' id _ h; cases h
  | cons x k ih =>
    intro k' id hk h
    have hk2 : ∀ y ∈ k, itemOk an n y = true := fun y hy => hk y (List.mem_cons_of_mem _ hy)
    cases x with
    | inBlock id' =>
      simp only [exitTo] at h
      split at h
      · injection h with h; subst h; exact hk2
      · exact ih hk2 h
    | _ => exact ih hk2 h
theorem readV.run {α : Type} (s : Sem α) : ∀ {w : World} {v : α}, readV P s w.heap = some v → s.run P w = .ok v w := by
  induction s <;> intro w v h <;> simp only [readV] at h <;> (try simp only [Sem.run]) <;> (try (cases h; done))
  case pure => injection h with h; rw [h]
  case load ih =>
    split at h
    · rename_i u hu
      have : w.cell? _ = some u := hu
      rw [this]
      exact ih u h
    · cases h
  case shape ih => split at h; exact ih _ h; cases h
  case frozen ih => split at h; exact ih _ h; cases h
  case getObj ih =>
    split at h
    · rename_i o ho
      split at h
      · cases h
      · rename_i hc
        rw [ho]
        cases o <;> first | exact (hc rfl).elim | exact ih _ h
    · cases h
  case program ih => exact ih _ h
  case mark ih => exact ih h
theorem resD.run {fn : Func} {H : Heap} {w : World} (hw : w.heap = H) {a : Act} {ρ : Env} (ha : Abs n a ρ) : ∀ {rs : List ResultVar} {k : List Value → Prop}, resD P rs ρ H k →
    ∃ vs, k vs ∧ (rs.mapM fun (x : ResultVar) => match x with
      | .tmp t => (pure (a.tmps.getD t undef) : Sem Value)
      | .cell a' t => do loadVar t (← asAddr (a.tmps.getD a' undef))).run P w = .ok vs w := by
  intro rs
  induction rs with
  | nil => intro k h; exact ⟨[], h, rfl⟩
  | cons r rs ih =>
    intro k h
    unfold resD at h
    split at h
    · rename_i t
      obtain ⟨vs, h1, h2⟩ := ih h
      refine ⟨ρ t :: vs, h1, ?_⟩
      rw [List.mapM_cons]
      simp only [ha.slot]
      rw [Sem.run_bind, Sem.run_pure, Result.andThen_ok, Sem.run_bind]
      simp only [ha.slot] at h2
      rw [h2]
      rfl
    · rename_i a' t
      split at h
      · rename_i p hp
        split at h
        · rename_i ad
          obtain ⟨v, h1, h2⟩ := ldD.spec h
          obtain ⟨vs, h3, h4⟩ := ih h2
          refine ⟨v :: vs, h3, ?_⟩
          rw [List.mapM_cons]
          simp only [ha.slot, hp]
          have hl : (loadVar t ad).run P w = .ok v w := by
            exact readV.run _ (by rw [hw]; exact h1)
          have ha' : (asAddr (.pointer (some ad))).run P w = .ok ad w := rfl
          simp only [ha.slot] at h4
          rw [Sem.run_bind, Sem.run_bind, ha', Result.andThen_ok, hl, Result.andThen_ok, Sem.run_bind, h4]
          rfl
        · exact h.elim
      · exact h.elim
theorem endD.spec {ρ : Env} {H : Heap} {R : Ending → Heap → Prop} {w : World} {a : Act} (h : endD P f ρ H R) (hw : w.heap = H) (ha : Abs n a ρ) :
    ∃ fn v, P.funcs[f]? = some fn ∧ (results fn a.tmps).run P w = .ok v w ∧ R (.returned v) H := by
  unfold endD at h
  split at h
  · rename_i fn hfn
    obtain ⟨vs, h1, h2⟩ := resD.run (fn := fn) hw ha h
    have hm : (fn.results.mapM fun (x : ResultVar) => match x with
      | .tmp t => (pure (a.tmps.getD t undef) : Sem Value)
      | .cell a' t => do loadVar t (← asAddr (a.tmps.getD a' undef))).run P w = .ok ⟨vs⟩ w := by
      rw [Array.mapM_eq_mapM_toList, Sem.run_map, h2]
      rfl
    have e : results fn a.tmps = (fn.results.mapM fun (x : ResultVar) => match x with
      | .tmp t => (pure (a.tmps.getD t undef) : Sem Value)
      | .cell a' t => do loadVar t (← asAddr (a.tmps.getD a' undef))) >>= fun vs => pure (if h : vs.size = 1 then vs[0] else .tuple vs) := rfl
    split at h1
    · rename_i v
      refine ⟨fn, v, hfn, ?_, h1⟩
      rw [e, Sem.run_bind, hm]
      rfl
    · rename_i hv
      refine ⟨fn, .tuple ⟨vs⟩, hfn, ?_, h1⟩
      rw [e, Sem.run_bind, hm, Result.andThen_ok]
      cases vs with
      | nil => rfl
      | cons x r => cases r with
        | nil => exact (hv x rfl).elim
        | cons y r => rfl
  · exact h.elim

/-- The function leaves: what was deferred does nothing. -/
theorem leave_by {b : Frame} {a : Act} {cs : List Frame} {w : World} {todo todo' : List Item} {fn : Func} {v : Value} {R : Ending → Heap → Prop} (hb : b.fn = f) (hk : b.kind = .normal) (hd : Df P R a.defers) (hf : P.funcs[f]? = some fn) (hr : (results fn a.tmps).run P w = .ok v w) (h : R (.returned v) w.heap)
    (hs : step P (lone (b.at a todo) cs w) = .next (lone { b.at a todo' with mode := .returning } cs w)) : ∃ e w' fr, (Same w w' ∧ R e w'.heap) ∧ Comes P (lone (b.at a todo) cs w) (lone fr cs w') e ∧ fr.fn = f ∧ fr.leaving P w' e := by
  have hl : Leaves P fn a.tmps (fun e w' => Same w w' ∧ R e w'.heap) a.defers .returning w := by
    rcases hd with hd | ⟨hd, _⟩
    · rw [hd]; exact ⟨v, hr, Same.refl w, h⟩
    · exact idle_leaves hd ⟨v, hr, Same.refl w, h⟩
  obtain ⟨e', w', fr', h1, h2, h3, h4⟩ := leaves_steps a.defers .returning w { b.at a todo' with mode := .returning } cs rfl rfl rfl (hb ▸ hf) hk hl
  exact ⟨e', w', fr', h1, Comes.of_steps (.one hs) h2, h3.trans hb, h4⟩
theorem deferOf.spec {ops : Array Oper} {g : FuncId} (h : deferOf ops = some g) : ∃ o c, ops[ops.size - 1]? = some o ∧ o.guard = none ∧ o.dst = none ∧ o.op = .defer c ∧ c.callee = .value (.func g) := by
  unfold deferOf at h
  split at h
  · rename_i o ho
    split at h
    · rename_i hgd
      split at h
      · rename_i hds
        split at h
        · rename_i c hop
          split at h
          · rename_i x hcal
            split at h
            · rename_i f' 
              injection h with h; subst h
              exact ⟨o, c, ho, hgd, hds, hop, hcal⟩
            · cases h
          · cases h
        · cases h
      · cases h
    · cases h
  · cases h
theorem GoS.defer {ops : Array Oper} {kd : Nat → Kind} {k : List Item} {ρ : Env} {H : Heap} {R : Ending → Heap → Prop} {fn : Func} {g : FuncId} {id : Nat} (hfn : P.funcs[f]? = some fn) (hg : deferOf ops = some g) (hidle : idleF P g = true)
    (hb : ∀ i ∈ List.range (ops.size - 1), ∀ o, ops[i]? = some o → ∀ d, o.dst = some d → d < n) (hnp : ∀ ch H, ¬ R (.panicked ch) H)
    (h : runK P ops kd (List.range (ops.size - 1)) ρ H (fun ρ' H' => GoS P f n k ρ' H' R) fun ch H' => R (.panicked ch) H') : GoS P f n (.code (.region id ops false) :: k) ρ H R := by
  intro b a cs w hbf hbk ha hd hw
  subst hw
  obtain ⟨o, c, ho, hog, hod, hop, hcal⟩ := deferOf.spec hg
  have hs : ops.size = (ops.size - 1) + 1 := by
    have : ops.size - 1 < ops.size := by
      rcases Nat.lt_or_ge (ops.size - 1) ops.size with h | h
      · exact h
      · rw [Array.getElem?_eq_none h] at ho; cases ho
    omega
  let Qx : Exit → Act → World → Prop := fun e a' w' => match e with
    | .normal => ∃ ρ', Abs n a' ρ' ∧ Df P R a'.defers ∧ Same w w' ∧ GoS P f n k ρ' w'.heap R
    | _ => False
  have hdi : ∀ d ∈ a.defers, Idle P d := by
    rcases hd with hd | ⟨hd, _⟩
    · rw [hd]; intro d hd; cases hd
    · exact hd
  have hwp : wpOps P ops Qx (List.range ops.size) a w := by
    rw [hs, List.range_succ]
    refine wpOps_append (runK_wp (n := n) (w0 := w) (ds := a.defers) _ hb ha rfl (Same.refl w) (fun ρ' a' w' h1 h2 h3 h4 => ?_) (fun ch a' w' h1 h2 h3 => (hnp _ _ h3).elim) h)
    show wpOps P ops Qx [ops.size - 1] a' w'
    rw [wpOps_cons]
    unfold wpOp
    rw [ho]
    simp only
    have hw : Region.wanted o (yielded ops a'.tmps) = true := by unfold Region.wanted; rw [hog]
    rw [if_pos hw]
    left
    unfold Oper.wp execOp
    rw [hop]
    simp only
    unfold resolve
    rw [hcal]
    have e1 : a'.eval (.func g) = .func (.func g) #[] #[] := rfl
    simp only [e1, Deferred.ofValue]
    show o.upon P a' (wpOps P ops Qx []) Qx (.ok (.defer { target := .fn (.func g) #[], args := #[] ++ c.args.map a'.eval }) w')
    rw [Oper.upon_defer]
    have : o.dst = none := hod
    show Qx .normal (Act.put { a' with defers := _ } o.dst undef) w'
    rw [this]
    refine ⟨ρ', ⟨h1.size, h1.slot⟩, .inr ⟨?_, hnp⟩, h3, h4⟩
    intro d hd
    have hd : d ∈ ({ target := .fn (.func g) #[], args := #[] ++ c.args.map a'.eval } : Deferred) :: a'.defers := hd
    rcases List.mem_cons.1 hd with rfl | hd
    · exact ⟨g, _, rfl, hidle⟩
    · rw [h2] at hd; exact hdi d hd
  obtain ⟨e, a', w', hq, harr⟩ := wp_ops _ a w hwp b k cs
  cases e with
  | normal =>
    obtain ⟨ρ', h1, h2, h3, h4⟩ := hq
    obtain ⟨e2, w2, fr, ⟨g1, g1'⟩, g2, g3⟩ := h4 b a' cs w' hbf hbk h1 h2 rfl
    exact ⟨e2, w2, fr, ⟨h3.trans g1, g1'⟩, .of_steps (.one step_region) (.of_steps harr g2), g3⟩
  | _ => exact hq.elim
theorem step_cond_abs {c : Operand} {x y : Code} {k : List Item} {ρ : Env} {t : Bool} (h : evalE ρ c = .bool t) (b : Frame) (a : Act) (cs : List Frame) (w : World) (ha : Abs n a ρ) :
    step P (lone (b.at a (.code (.cond c x y) :: k)) cs w) = .next (lone (b.at a (.code (if t then x else y) :: k)) cs w) := step_cond (by rw [ha.eval]; exact h)

theorem denT.go (hmx : P.follows .mixedOrders = true) {fn : Func} (hfn : P.funcs[f]? = some fn) : ∀ {fuel : Nat} {chk : Bool} {todo : List Item} {ρ : Env} {H : Heap} {R : Ending → Heap → Prop}, (∀ x ∈ todo, itemOk an n x = true) → denT P f n an fuel chk todo ρ H R → GoS P f n todo ρ H R := by
  intro fuel
  induction fuel with
  | zero => intro chk todo ρ H R _ h; exact h
  | succ fuel ih =>
    intro chk todo ρ H R hok h
    unfold denT at h
    split at h
    · rename_i live hl
      exact h.go
    · split at h
      · -- the end
        intro b a cs w hb hk ha hd hw
        obtain ⟨fn', v, h1, h2, h3⟩ := endD.spec h hw ha
        exact leave_by hb hk hd h1 h2 (hw ▸ h3) step_end
      · rename_i c k hn
        have hc : codeOk an n c = true := hok _ (List.mem_cons_self ..)
        have hk : ∀ x ∈ k, itemOk an n x = true := fun x hx => hok x (List.mem_cons_of_mem _ hx)
        split at h
        · exact .step (fun b a cs w ha => step_skip) (ih hk h)
        · rename_i x y
          simp only [codeOk, Bool.and_eq_true] at hc
          refine .step (fun b a cs w ha => step_seq) (ih (fun z hz => ?_) h)
          rcases List.mem_cons.1 hz with rfl | hz
          · exact hc.1
          · rcases List.mem_cons.1 hz with rfl | hz
            · exact hc.2
            · exact hk z hz
        · rename_i id ops draw
          simp only [codeOk, Bool.and_eq_true] at hc
          split at h
          · split at h
            · have h1 := (denOps.run h)
              have h2 : runK P ops (kindAt an ops id) (List.range ops.size) ρ H (fun ρ' H' => GoS P f n k ρ' H' R) (fun ch H' => R (.panicked ch) H') := h1.mono _ (fun ρ' H' h => ih hk h)
              intro b a cs w hb hbk ha hd hw
              obtain ⟨e, w', fr, g1, g2, g3⟩ := GoS.ops hfn (dstOk.spec hc.1 _) h2 b a cs w hb hbk ha hd hw
              exact ⟨e, w', fr, g1, .of_steps (.one step_region) g2, g3⟩
            · rename_i g hg
              obtain ⟨hnp, h⟩ := h
              unfold guardB at h
              split at h
              · rename_i hidle
                intro b a cs w hb hbk ha hd hw
                exact GoS.defer hfn hg hidle (dstOk.spec hc.1 _) hnp ((denOps.run h).mono _ (fun ρ' H' h => ih hk h)) b a cs w hb hbk ha hd hw
              · exact h.elim
          · have hr := hc.2
            simp only at hr
            intro b a cs w hb hbk ha hd hw
            have h2 : ∀ τ ∈ an.tau id, runK P ops (kindAt an ops id) τ ρ H (fun ρ' H' => GoS P f n k ρ' H' R) (fun ch H' => R (.panicked ch) H') :=
              fun τ hτ => (denOps.run (h.spec τ hτ)).mono _ (fun ρ' H' h => ih hk h)
            have h3 := regionOk_run hr h2 (w.tape w.drawn (.order b.fn id))
            have h4 : Region.schedule (P.follows .mixedOrders) ops (w.tape w.drawn (.order b.fn id)) = Region.linearise .any ops (w.tape w.drawn (.order b.fn id)) := by
              unfold Region.schedule; rw [hmx]; simp
            have w2 : World := { w with drawn := w.drawn + 1 }
            obtain ⟨e, w', fr, ⟨g0, g1⟩, g2, g3⟩ := GoS.ops hfn (dstOk.spec hc.1 _) h3 b a cs { w with drawn := w.drawn + 1 } hb hbk ha hd hw
            refine ⟨e, w', fr, ⟨⟨g0.os, g0.tape, g0.output⟩, g1⟩, .of_steps (.one step_region_draw) ?_, g3⟩
            rw [h4]
            exact g2
        · rename_i c x y
          simp only [codeOk, Bool.and_eq_true] at hc
          split at h
          · rename_i t ht
            refine .step (todo' := .code (if t then x else y) :: k) (fun b a cs w ha => step_cond_abs ht b a cs w ha) ?_
            cases t with
            | true =>
              refine ih (fun z hz => ?_) h
              rcases List.mem_cons.1 hz with rfl | hz
              · exact hc.1
              · exact hk z hz
            | false =>
              refine ih (fun z hz => ?_) h
              rcases List.mem_cons.1 hz with rfl | hz
              · exact hc.2
              · exact hk z hz
          · exact h.elim
        · rename_i id c
          simp only [codeOk] at hc
          refine .step (fun b a cs w ha => step_block) (ih (fun z hz => ?_) h)
          rcases List.mem_cons.1 hz with rfl | hz
          · exact hc
          · rcases List.mem_cons.1 hz with rfl | hz
            · rfl
            · exact hk z hz
        · rename_i c
          simp only [codeOk] at hc
          refine .step (fun b a cs w ha => step_loop) (ih (fun z hz => ?_) h)
          rcases List.mem_cons.1 hz with rfl | hz
          · exact hc
          · rcases List.mem_cons.1 hz with rfl | hz
            · exact hc
            · exact hk z hz
        · rename_i id
          split at h
          · rename_i k' hk'
            exact .step (fun b a cs w ha => step_exit hk') (ih (exitTo_ok hk hk') h)
          · exact h.elim
        · intro b a cs w hb hbk ha hd hw
          obtain ⟨fn', v, h1, h2, h3⟩ := endD.spec h hw ha
          exact leave_by hb hbk hd h1 h2 (hw ▸ h3) step_ret
        · exact h.elim
      · rename_i id k
        exact .step (fun b a cs w ha => step_inBlock) (ih (fun x hx => hok x (List.mem_cons_of_mem _ hx)) h)
      · rename_i c k hn
        refine .step (fun b a cs w ha => step_inLoop) (ih (fun z hz => ?_) h)
        rcases List.mem_cons.1 hz with rfl | hz
        · exact hok (.inLoop c) (List.mem_cons_self ..)
        · rcases List.mem_cons.1 hz with rfl | hz
          · exact hok _ (List.mem_cons_self ..)
          · exact hok z (List.mem_cons_of_mem _ hz)
      · exact h.elim

/-- The slots when a function begins. -/
def env0 (args : List Value) : Env := fun t => args.getD t undef
theorem callsH_of_den (hmx : P.follows .mixedOrders = true) {fn : Func} {c : Code} (hfn : P.funcs[f]? = some fn) (hb : fn.body = some c) (hn : fn.ntmps = n) {args : List Value} {fuel : Nat} {H : Heap} {R : Ending → Heap → Prop}
    (hl : Nat.ble args.length n = true) (hok : codeOk an n c = true) {X : Prop} (he : denT P f n an fuel false [.code c] (env0 args) H R = X) (hX : X) : CallsH P f ⟨args⟩ H R := by
  subst he
  subst hn
  have hl := Nat.le_of_ble_eq_true hl
  intro w hw cs
  have h1 := denT.go hmx hfn (fun x hx => by rcases List.mem_singleton.1 hx with rfl; exact hok) hX
  let b : Frame := { (default : Frame) with fn := f, kind := .normal }
  have henter : Frame.enter P f ⟨args⟩ .normal = b.at { tmps := ⟨args⟩ ++ Array.replicate (fn.ntmps - args.length) undef, defers := [] } [.code c] := by
    simp [Frame.enter, Frame.at, hfn, hb, b]
  rw [henter]
  obtain ⟨e, w', fr, g1, g2, g3, g4⟩ := h1 b { tmps := ⟨args⟩ ++ Array.replicate (fn.ntmps - args.length) undef, defers := [] } cs w rfl rfl ⟨by simp; omega, fun t => by
    unfold env0
    simp only [Array.getD_eq_getD_getElem?, List.getD_eq_getElem?_getD]
    rcases Nat.lt_or_ge t args.length with ht | ht
    · rw [Array.getElem?_append_left (by simpa using ht)]
      simp
    · rw [Array.getElem?_append_right (by simpa using ht)]
      rw [List.getElem?_eq_none ht]
      simp only [Option.getD_none]
      rcases Nat.lt_or_ge (t - args.length) (fn.ntmps - args.length) with h2 | h2
      · simp [h2]
      · simp [Nat.not_lt.2 h2]⟩ (.inl rfl) hw
  exact ⟨e, w', fr, g1, g2, g3, g4⟩
theorem goL_of_den (hmx : P.follows .mixedOrders = true) {fn : Func} (hfn : P.funcs[f]? = some fn) {todo : List Item} {live : List Nat} {vals : List Value} {fuel : Nat} {H : Heap} {R : Ending → Heap → Prop} {X : Prop}
    (hok : (todo.all (itemOk an n)) = true) (he : ∀ ρ0, denT P f n an fuel false todo (updL ρ0 live vals) H R = X) (hX : X) : GoL P f n todo live vals H R :=
  fun ρ0 => denT.go hmx hfn (fun x hx => (List.all_eq_true.1 hok) x hx) ((he ρ0).symm ▸ hX)
end
end Go.Den
