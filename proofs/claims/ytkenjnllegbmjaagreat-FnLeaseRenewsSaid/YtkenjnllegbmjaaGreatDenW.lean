/- A plain reading of Go functions, proved to be what they do; no condition. -/
/- That the text run through is the function's. -/
import Derived.Test.YtkenjnllegbmjaaGreatDenV
set_option linter.unusedVariables false
set_option linter.unusedSimpArgs false
namespace Go.Den
open Go
section
variable {P : Program} {f : FuncId} {n : Nat} {an : Ann}

theorem dstOk.spec {ops : Array Oper} (h : dstOk n ops = true) (l : List Nat) : ∀ i ∈ l, ∀ o, ops[i]? = some o → ∀ d, o.dst = some d → d < n := by
  intro i _ o ho d hd
  unfold dstOk at h
  rw [List.all_eq_true] at h
  have := h o (Array.mem_toList_iff.2 (Array.mem_of_getElem? ho))
  rw [hd] at this
  simpa using this
theorem exitTo_ok : ∀ {k k' : List Item} {id : Nat}, (∀ x ∈ k, itemOk an n x = true) → exitTo id k = some k' → ∀ x ∈ k', itemOk an n x = true := by
  intro k
  induction k with
  | nil => intro k' id _ h; cases h
  | cons x k ih =>
    intro k' id hk h
    have hk2 : ∀ y ∈ k, itemOk an n y = true := fun y hy => hk y (List.mem_cons_of_mem _ hy)
    cases x with
    | inBlock id' =>
      simp only [exitTo] at h
      split at h
      · injection h with h; subst h; exact hk2
      · exact ih hk2 h
    | _ => exact ih hk2 h
theorem readV.run {α : Type} (s : Sem α) : ∀ {w : World} {v : α}, readV P s w.heap = some v → s.run P w = .ok v w := by
  induction s <;> intro w v h <;> simp only [readV] at h <;> (try simp only [Sem.run]) <;> (try (cases h; done))
  case pure => injection h with h; rw [h]
  case load ih =>
    split at h
    · rename_i u hu
      have : w.cell? _ = some u := hu
      rw [this]
      exact ih u h
    · cases h
  case shape ih => split at h; exact ih _ h; cases h
  case frozen ih => split at h; exact ih _ h; cases h
  case getObj ih =>
    split at h
    · rename_i o ho
      split at h
      · cases h
      · rename_i hc
        rw [ho]
        cases o <;> first | exact (hc rfl).elim | exact ih _ h
    · cases h
  case program ih => exact ih _ h
  case mark ih => exact ih h
theorem resD.run {fn : Func} {H : Heap} {w : World} (hw : w.heap = H) {a : Act} {ρ : Env} (ha : Abs n a ρ) : ∀ {rs : List ResultVar} {k : List Value → Prop}, resD P rs ρ H k →
    ∃ vs, k vs ∧ (rs.mapM fun (x : ResultVar) => match x with
      | .tmp t => (pure (a.tmps.getD t undef) : Sem Value)
      | .cell a' t => do loadVar t (← asAddr (a.tmps.getD a' undef))).run P w = .ok vs w := by
  intro rs
  induction rs with
  | nil => intro k h; exact ⟨[], h, rfl⟩
  | cons r rs ih =>
    intro k h
    unfold resD at h
    split at h
    · rename_i t
      obtain ⟨vs, h1, h2⟩ := ih h
      refine ⟨ρ t :: vs, h1, ?_⟩
      rw [List.mapM_cons]
      simp only [ha.slot]
      rw [Sem.run_bind, Sem.run_pure, Result.andThen_ok, Sem.run_bind]
      simp only [ha.slot] at h2
      rw [h2]
      rfl
    · rename_i a' t
      split at h
      · rename_i p hp
        split at h
        · rename_i ad
          obtain ⟨v, h1, h2⟩ := ldD.spec h
          obtain ⟨vs, h3, h4⟩ := ih h2
          refine ⟨v :: vs, h3, ?_⟩
          rw [List.mapM_cons]
          simp only [ha.slot, hp]
          have hl : (loadVar t ad).run P w = .ok v w := by
            exact readV.run _ (by rw [hw]; exact h1)
          have ha' : (asAddr (.pointer (some ad))).run P w = .ok ad w := rfl
          simp only [ha.slot] at h4
          rw [Sem.run_bind, Sem.run_bind, ha', Result.andThen_ok, hl, Result.andThen_ok, Sem.run_bind, h4]
          rfl
        · exact h.elim
      · exact h.elim
theorem endD.spec {ρ : Env} {H : Heap} {R : Ending → Heap → Prop} {w : World} {a : Act} (h : endD P f ρ H R) (hw : w.heap = H) (ha : Abs n a ρ) :
    ∃ fn v, P.funcs[f]? = some fn ∧ (results fn a.tmps).run P w = .ok v w ∧ R (.returned v) H := by
  unfold endD at h
  split at h
  · rename_i fn hfn
    obtain ⟨vs, h1, h2⟩ := resD.run (fn := fn) hw ha h
    have hm : (fn.results.mapM fun (x : ResultVar) => match x with
      | .tmp t => (pure (a.tmps.getD t undef) : Sem Value)
      | .cell a' t => do loadVar t (← asAddr (a.tmps.getD a' undef))).run P w = .ok ⟨vs⟩ w := by
      rw [Array.mapM_eq_mapM_toList, Sem.run_map, h2]
      rfl
    have e : results fn a.tmps = (fn.results.mapM fun (x : ResultVar) => match x with
      | .tmp t => (pure (a.tmps.getD t undef) : Sem Value)
      | .cell a' t => do loadVar t (← asAddr (a.tmps.getD a' undef))) >>= fun vs => pure (if h : vs.size = 1 then vs[0] else .tuple vs) := rfl
    split at h1
    · rename_i v
      refine ⟨fn, v, hfn, ?_, h1⟩
      rw [e, Sem.run_bind, hm]
      rfl
    · rename_i hv
      refine ⟨fn, .tuple ⟨vs⟩, hfn, ?_, h1⟩
      rw [e, Sem.run_bind, hm, Result.andThen_ok]
      cases vs with
      | nil => rfl
      | cons x r => cases r with
        | nil => exact (hv x rfl).elim
        | cons y r => rfl
  · exact h.elim

/-- The function leaves: what was deferred is called. -/
theorem leave_by {b : Frame} {a : Act} {cs : List Frame} {w : World} {todo todo' : List Item} {fn : Func} {v : Value} {R Rf : Ending → Heap → Prop} (hb : b.fn = f) (hk : Kd b.kind) (hd : Df P f R Rf a.defers) (hf : P.funcs[f]? = some fn) (hr : (results fn a.tmps).run P w = .ok v w) (h : R (.returned v) w.heap)
    (hs : step P (lone (b.at a todo) cs w) = .next (lone { b.at a todo' with mode := .returning } cs w)) : ∃ e w' fr, (Same w w' ∧ Rf e w'.heap) ∧ Comes P (lone (b.at a todo) cs w) (lone fr cs w') e ∧ fr.fn = f ∧ Gone P b.kind fr w' e := by
  have hl : Leaves P fn a.tmps (fun e w' => Same w w' ∧ Rf e w'.heap) a.defers .returning w := by
    rcases hd with ⟨hd, hR⟩ | ⟨_, hd⟩
    · rw [hd]; exact ⟨v, hr, Same.refl w, hR _ _ h⟩
    · exact hd fn a.tmps v w hf hr h
  obtain ⟨e', w', fr', h1, h2, h3, h4⟩ := leavesK hk a.defers .returning w { b.at a todo' with mode := .returning } cs rfl rfl rfl (hb ▸ hf) rfl hl
  exact ⟨e', w', fr', h1, Comes.of_steps (.one hs) h2, h3.trans hb, h4⟩
theorem deferOf.spec {ops : Array Oper} {g : FuncId} (h : deferOf ops = some g) : ∃ o c, ops[ops.size - 1]? = some o ∧ o.guard = none ∧ o.dst = none ∧ o.op = .defer c ∧ c.callee = .value (.func g) := by
  unfold deferOf at h
  split at h
  · rename_i o ho
    split at h
    · rename_i hgd
      split at h
      · rename_i hds
        split at h
        · rename_i c hop
          split at h
          · rename_i x hcal
            split at h
            · rename_i f' 
              injection h with h; subst h
              exact ⟨o, c, ho, hgd, hds, hop, hcal⟩
            · cases h
          · cases h
        · cases h
      · cases h
    · cases h
  · cases h
theorem deferIf.spec {ops : Array Oper} {r : Operand} {nm : String} {as : Array Operand} (h : deferIf ops = some (r, nm, as)) : ∃ o c, ops[ops.size - 1]? = some o ∧ o.guard = none ∧ o.dst = none ∧ o.op = .defer c ∧ c.callee = .invoke r nm ∧ c.args = as := by
  unfold deferIf at h
  split at h
  · rename_i o ho
    split at h
    · rename_i hgd
      split at h
      · rename_i hds
        split at h
        · rename_i c hop
          split at h
          · rename_i r' nm' hcal
            cases h
            exact ⟨o, c, ho, hgd, hds, hop, hcal, rfl⟩
          · cases h
        · cases h
      · cases h
    · cases h
  · cases h
theorem leaves_mono {fn : Func} {tmps : Array Value} {R R' : Ending → World → Prop} (hr : ∀ e w, R e w → R' e w) : ∀ (ds : List Deferred) (u : FrameMode) (w : World), Leaves P fn tmps R ds u w → Leaves P fn tmps R' ds u w := by
  intro ds
  induction ds with
  | nil =>
    intro u w h
    cases u with
    | run => exact h
    | returning => obtain ⟨v, h1, h2⟩ := h; exact ⟨v, h1, hr _ _ h2⟩
    | panicking chain => exact hr _ _ h
  | cons d ds ih =>
    intro u w h
    obtain ⟨h0, fv, cap, f, args, h1, h2, h3⟩ := h
    refine ⟨h0, fv, cap, f, args, h1, h2, h3.mono ?_⟩
    intro e u' w' he
    cases e with
    | returned v => exact ih _ _ he
    | panicked ch => exact ih _ _ he
    | outgrown => exact hr _ _ he
/-- One more call is deferred: what it does at the end. -/
theorem GoS.deferred {ops : Array Oper} {kd : Nat → Kind} {k : List Item} {ρ : Env} {H : Heap} {R : Ending → Heap → Prop} {R' : Env → Ending → Heap → Prop} {fn : Func} {id : Nat} {o : Oper} {c : Call} (hfn : P.funcs[f]? = some fn) (ho : ops[ops.size - 1]? = some o) (hog : o.guard = none) (hod : o.dst = none) (hop : o.op = .defer c)
    {d : Act → Deferred} (hdd : ∀ a' w', (resolve a'.eval c o.type).run P w' = .ok (d a') w')
    (hdf : ∀ ρ' a' Rf ds, Abs n a' ρ' → Df P f R Rf ds → Df P f (R' ρ') Rf (d a' :: ds))
    (hb : ∀ i ∈ List.range (ops.size - 1), ∀ o, ops[i]? = some o → ∀ d, o.dst = some d → d < n) (hnp : ∀ ch H, ¬ R (.panicked ch) H)
    (h : runK P ops kd (List.range (ops.size - 1)) ρ H (fun ρ' H' => GoS P f n k ρ' H' (R' ρ')) fun ch H' => R (.panicked ch) H') : GoS P f n (.code (.region id ops false) :: k) ρ H R := by
  intro b a cs w Rf hbf hbk ha hd hw
  subst hw
  have hs : ops.size = (ops.size - 1) + 1 := by
    have : ops.size - 1 < ops.size := by
      rcases Nat.lt_or_ge (ops.size - 1) ops.size with h | h
      · exact h
      · rw [Array.getElem?_eq_none h] at ho; cases ho
    omega
  let Qx : Exit → Act → World → Prop := fun e a' w' => match e with
    | .normal => ∃ ρ', Abs n a' ρ' ∧ Df P f (R' ρ') Rf a'.defers ∧ Same w w' ∧ GoS P f n k ρ' w'.heap (R' ρ')
    | _ => False
  have hwp : wpOps P ops Qx (List.range ops.size) a w := by
    rw [hs, List.range_succ]
    refine wpOps_append (runK_wp (n := n) (w0 := w) (ds := a.defers) _ hb ha rfl (Same.refl w) (fun ρ' a' w' h1 h2 h3 h4 => ?_) (fun ch a' w' h1 h2 h3 => (hnp _ _ h3).elim) h)
    show wpOps P ops Qx [ops.size - 1] a' w'
    rw [wpOps_cons]
    unfold wpOp
    rw [ho]
    simp only
    have hw : Region.wanted o (yielded ops a'.tmps) = true := by unfold Region.wanted; rw [hog]
    rw [if_pos hw]
    left
    unfold Oper.wp execOp
    rw [hop]
    show o.upon P a' (wpOps P ops Qx []) Qx ((resolve a'.eval c o.type >>= fun d => pure (.defer d)).run P w')
    rw [Sem.run_bind, hdd a' w', Result.andThen_ok]
    show o.upon P a' (wpOps P ops Qx []) Qx (.ok (.defer (d a')) w')
    rw [Oper.upon_defer]
    have : o.dst = none := hod
    show Qx .normal (Act.put { a' with defers := _ } o.dst undef) w'
    rw [this]
    refine ⟨ρ', ⟨h1.size, h1.slot⟩, ?_, h3, h4⟩
    show Df P f (R' ρ') Rf (d a' :: a'.defers)
    rw [h2]
    exact hdf ρ' a' Rf a.defers h1 hd
  obtain ⟨e, a', w', hq, harr⟩ := wp_ops _ a w hwp b k cs
  cases e with
  | normal =>
    obtain ⟨ρ', h1, h2, h3, h4⟩ := hq
    obtain ⟨e2, w2, fr, ⟨g1, g1'⟩, g2, g3⟩ := h4 b a' cs w' Rf hbf hbk h1 h2 rfl
    exact ⟨e2, w2, fr, ⟨h3.trans g1, g1'⟩, .of_steps (.one step_region) (.of_steps harr g2), g3⟩
  | _ => exact hq.elim
theorem GoS.defer {ops : Array Oper} {kd : Nat → Kind} {k : List Item} {ρ : Env} {H : Heap} {R : Ending → Heap → Prop} {fn : Func} {g : FuncId} {id : Nat} (hfn : P.funcs[f]? = some fn) (hg : deferOf ops = some g) (hidle : idleF P g = true)
    (hb : ∀ i ∈ List.range (ops.size - 1), ∀ o, ops[i]? = some o → ∀ d, o.dst = some d → d < n) (hnp : ∀ ch H, ¬ R (.panicked ch) H)
    (h : runK P ops kd (List.range (ops.size - 1)) ρ H (fun ρ' H' => GoS P f n k ρ' H' R) fun ch H' => R (.panicked ch) H') : GoS P f n (.code (.region id ops false) :: k) ρ H R := by
  obtain ⟨o, c, ho, hog, hod, hop, hcal⟩ := deferOf.spec hg
  refine GoS.deferred (R' := fun _ => R) (d := fun a' => { target := .fn (.func g) #[], args := #[] ++ c.args.map a'.eval }) hfn ho hog hod hop ?_ ?_ hb hnp h
  · intro a' w'
    unfold resolve
    rw [hcal]
    rfl
  · intro ρ' a' Rf ds _ hd
    have hi : Idle P { target := .fn (.func g) #[], args := #[] ++ c.args.map a'.eval } := ⟨g, _, rfl, hidle⟩
    rcases hd with ⟨rfl, hR⟩ | ⟨hd1, hd2⟩
    · exact .inr ⟨hnp, fun fn tmps v w h1 h2 h3 => idle_one hi ⟨v, h2, Same.refl w, hR _ _ h3⟩⟩
    · exact .inr ⟨hnp, fun fn tmps v w h1 h2 h3 => idle_one hi (hd2 fn tmps v w h1 h2 h3)⟩
theorem noRes.run {fn : Func} (h : noRes P f = true) (hf : P.funcs[f]? = some fn) (tmps : Array Value) (w : World) : (results fn tmps).run P w = .ok (.tuple #[]) w := by
  unfold noRes at h
  rw [hf] at h
  have : fn.results = #[] := by
    have h := List.isEmpty_iff.1 h
    cases hfr : fn.results with
    | mk l => rw [hfr] at h; simp at h; rw [h]
  unfold results
  rw [this, Array.mapM_eq_mapM_toList]
  rfl
theorem GoS.deferI {ops : Array Oper} {kd : Nat → Kind} {k : List Item} {ρ : Env} {H : Heap} {R : Ending → Heap → Prop} {fn : Func} {r : Operand} {nm : String} {as : Array Operand} {id : Nat} (hfn : P.funcs[f]? = some fn) (hg : deferIf ops = some (r, nm, as)) (hno : noRes P f = true)
    (hb : ∀ i ∈ List.range (ops.size - 1), ∀ o, ops[i]? = some o → ∀ d, o.dst = some d → d < n) (hnp : ∀ ch H, ¬ R (.panicked ch) H)
    (h : runK P ops kd (List.range (ops.size - 1)) ρ H (fun ρ' H' => GoS P f n k ρ' H' (aftI P f (evalE ρ' r) nm (as.toList.map (evalE ρ')) R)) fun ch H' => R (.panicked ch) H') : GoS P f n (.code (.region id ops false) :: k) ρ H R := by
  obtain ⟨o, c, ho, hog, hod, hop, hcal, rfl⟩ := deferIf.spec hg
  refine GoS.deferred (R' := fun ρ' => aftI P f (evalE ρ' r) nm (c.args.toList.map (evalE ρ')) R) (d := fun a' => { target := .fn (.method nm) #[], args := #[a'.eval r] ++ c.args.map a'.eval }) hfn ho hog hod hop ?_ ?_ hb hnp h
  · intro a' w'
    unfold resolve
    rw [hcal]
    rfl
  · intro ρ' a' Rf ds ha hd
    refine .inr ⟨(fun ch H hh => by cases hh.1), fun fn tmps v w h1 h2 h3 => ?_⟩
    obtain ⟨he, g, recv, hm, hc⟩ := h3
    have hargs : (#[a'.eval r] ++ c.args.map a'.eval : Array Value) = ⟨evalE ρ' r :: c.args.toList.map (evalE ρ')⟩ := by
      apply Array.ext'
      simp [ha.eval]
    have hv : v = .tuple #[] := by injection he
    subst hv
    refine leaves_cons (f := g) (args := ⟨recv :: c.args.toList.map (evalE ρ')⟩) (by intro hh; cases hh) ?_ ((hc w rfl).mono ?_)
    · rw [hargs]
      have := hm w rfl
      have ht : List.take c.args.size (List.map (evalE ρ') c.args.toList) = List.map (evalE ρ') c.args.toList := List.take_of_length_le (by simp)
      unfold invoke
      simp
      rw [ht]
      exact this
    · rintro e u' w' ⟨rfl, hsame, ⟨u, rfl⟩, hR⟩
      show Leaves P fn tmps _ ds (settle .returning) w'
      show Leaves P fn tmps _ ds .returning w'
      rcases hd with ⟨rfl, hRf⟩ | ⟨hd1, hd2⟩
      · exact ⟨.tuple #[], noRes.run hno h1 tmps w', hsame, hRf _ _ hR⟩
      · exact leaves_mono (fun e w2 hh => ⟨hsame.trans hh.1, hh.2⟩) ds .returning w' (hd2 fn tmps (.tuple #[]) w' h1 (noRes.run hno h1 tmps w') hR)
theorem step_cond_abs {c : Operand} {x y : Code} {k : List Item} {ρ : Env} {t : Bool} (h : evalE ρ c = .bool t) (b : Frame) (a : Act) (cs : List Frame) (w : World) (ha : Abs n a ρ) :
    step P (lone (b.at a (.code (.cond c x y) :: k)) cs w) = .next (lone (b.at a (.code (if t then x else y) :: k)) cs w) := step_cond (by rw [ha.eval]; exact h)

/-! ### Operations that stand ahead in any order -/
theorem runK_append {ops : Array Oper} {kd : Nat → Kind} {Q : List PanicEntry → Heap → Prop} : ∀ {l m : List Nat} {ρ : Env} {H : Heap} {K : Env → Heap → Prop}, runK P ops kd l ρ H (fun ρ' H' => runK P ops kd m ρ' H' K Q) Q → runK P ops kd (l ++ m) ρ H K Q := by
  intro l
  induction l with
  | nil => intro m ρ H K h; exact h
  | cons i l ih => intro m ρ H K h; exact stepK.mono h fun ρ' H' h => ih h
def envF (ops : Array Oper) (ρ : Env) (g : Nat → Value) (D : List Nat) : Env := D.foldr (fun i ρ => putE ρ (dstAt ops i) (g i)) ρ
theorem envF_congr {ops : Array Oper} {ρ : Env} {g g' : Nat → Value} : ∀ {D : List Nat}, (∀ i ∈ D, g i = g' i) → envF ops ρ g D = envF ops ρ g' D := by
  intro D
  induction D with
  | nil => intro _; rfl
  | cons i D ih =>
    intro h
    show putE (envF ops ρ g D) _ _ = putE (envF ops ρ g' D) _ _
    rw [ih fun j hj => h j (List.mem_cons_of_mem _ hj), h i (List.mem_cons_self ..)]
theorem look_freeL {ops : Array Oper} {kd : Nat → Kind} {ρ : Env} {Q : List PanicEntry → Heap → Prop} {i : Nat} {s : Stp} : ∀ {F : List (Nat × TypeId)}, look i (freeL P ops kd ρ Q F) = some s → s = opAt P ops kd ρ Q i := by
  intro F
  induction F with
  | nil => intro h; cases h
  | cons x F ih =>
    intro h
    simp only [freeL, look] at h
    split at h
    · rename_i hb
      have : x.1 = i := Nat.eq_of_beq_eq_true hb
      injection h with h
      rw [← h, this]
    · exact ih h
theorem freeO.spec {ops : Array Oper} {i j : Nat} (h : freeO ops i j = true) : ∃ oi oj, ops[i]? = some oi ∧ ops[j]? = some oj ∧ notSelect oj.op = true ∧ oj.guard = none ∧ (i = j ∨ oi.apart ops oj = true) := by
  unfold freeO at h
  split at h
  · rename_i oi oj hi hj
    simp only [Bool.and_eq_true, Bool.or_eq_true, Option.isNone_iff_eq_none, beq_iff_eq] at h
    exact ⟨oi, oj, hi, hj, h.1.1, h.1.2, h.2⟩
  · cases h
theorem stepV_env {ops : Array Oper} {k : Kind} {ρ : Env} {g : Nat → Value} {j : Nat} {o : Oper} (ho : ops[j]? = some o) {H : Heap} {K : Value → Heap → Prop} {Q : List PanicEntry → Heap → Prop} : ∀ {D : List Nat}, (∀ i ∈ D, freeO ops i j = true ∧ i ≠ j) →
    stepV P ops k o (envF ops ρ g D) H K Q = stepV P ops k o ρ H K Q := by
  intro D
  induction D with
  | nil => intro _; rfl
  | cons i D ih =>
    intro h
    obtain ⟨h1, h2⟩ := h i (List.mem_cons_self ..)
    obtain ⟨oi, oj, hi, hj, hs, hg, hor⟩ := freeO.spec h1
    rw [ho] at hj
    injection hj with hj
    subst hj
    have ha := (Oper.apart_spec (hor.resolve_left h2)).1
    show stepV P ops k o (putE (envF ops ρ g D) (dstAt ops i) (g i)) H K Q = _
    have hd : dstAt ops i = oi.dst := by unfold dstAt; rw [hi]
    rw [hd, stepV_put ha hs, ih fun x hx => h x (List.mem_cons_of_mem _ hx)]
theorem seqO.run {ops : Array Oper} {kd : Nat → Kind} {Q : List PanicEntry → Heap → Prop} {ρ : Env} {F : List (Nat × TypeId)} {A : List Nat} (hA : ∀ i ∈ A, ∀ j ∈ A, freeO ops i j = true) {K : (Nat → Value) → Heap → Prop} :
    ∀ {π D : List Nat} {g : Nat → Value} {H : Heap}, (π ++ D).Nodup → (∀ i ∈ π ++ D, i ∈ A) → seqO (freeL P ops kd ρ Q F) π g H K → runK P ops kd π (envF ops ρ g D) H (fun ρ' H' => ∃ g', ρ' = envF ops ρ g' (π.reverse ++ D) ∧ K g' H') Q := by
  intro π
  induction π with
  | nil => intro D g H _ _ h; exact ⟨g, rfl, h⟩
  | cons i π ih =>
    intro D g H hn hm h
    simp only [seqO] at h
    split at h
    · rename_i s hs
      rw [look_freeL hs] at h
      unfold opAt at h
      have hi : i ∈ A := hm i (List.mem_cons_self ..)
      obtain ⟨o, _, ho, _, _, _, _⟩ := freeO.spec (hA i hi i hi)
      obtain ⟨_, _, _, ho', hsel, hg, _⟩ := freeO.spec (hA i hi i hi)
      rw [ho] at ho'
      injection ho' with ho'
      subst ho'
      rw [ho] at h
      simp only at h
      simp only [runK, stepK, ho]
      have hn' : i ∉ π ++ D ∧ (π ++ D).Nodup := List.nodup_cons.1 hn
      have hiD : i ∉ D := fun hd => hn'.1 (List.mem_append.2 (.inr hd))
      rw [stepV_env ho (fun x hx => ⟨hA x (hm x (List.mem_cons_of_mem _ (List.mem_append.2 (.inr hx)))) i hi, fun e => hiD (e ▸ hx)⟩)]
      unfold stepV
      have hw : wantedE ops ρ o = true := by unfold wantedE; rw [hg]
      rw [if_pos hw]
      refine (opD.core h).mono (fun v H' h => ?_) fun _ _ => id
      have e : putE (envF ops ρ g D) o.dst v = envF ops ρ (fun j => if j = i then v else g j) (i :: D) := by
        show _ = putE (envF ops ρ (fun j => if j = i then v else g j) D) (dstAt ops i) (if i = i then v else g i)
        have hd : dstAt ops i = o.dst := by unfold dstAt; rw [ho]
        rw [hd, if_pos rfl]
        congr 1
        refine envF_congr fun j hj => ?_
        have : j ≠ i := by rintro rfl; exact hiD hj
        simp only [if_neg this]
      rw [e]
      have := ih (D := i :: D) (List.perm_middle.nodup_iff.2 (List.nodup_cons.2 hn')) (fun x hx => hm x (List.perm_middle.mem_iff.1 hx)) h
      refine runK.mono _ this fun ρ' H' ⟨g', h1, h2⟩ => ⟨g', ?_, h2⟩
      rw [h1, List.reverse_cons, List.append_assoc]
      rfl
    · exact h.elim
theorem putL_env {ops : Array Oper} {ρ : Env} {g : Nat → Value} : ∀ {F : List (Nat × TypeId)}, putL ops F ((fstL F).map g) ρ = envF ops ρ g (fstL F) := by
  intro F
  induction F with
  | nil => rfl
  | cons x F ih => show putE (putL ops F ((fstL F).map g) ρ) _ _ = putE (envF ops ρ g (fstL F)) _ _; rw [ih]
theorem freeL_fst {ops : Array Oper} {kd : Nat → Kind} {ρ : Env} {Q : List PanicEntry → Heap → Prop} : ∀ {F : List (Nat × TypeId)}, (freeL P ops kd ρ Q F).map Prod.fst = fstL F := by
  intro F
  induction F with
  | nil => rfl
  | cons x F ih => simp only [freeL, List.map_cons, fstL, ih]
theorem two_append {a b : Nat} {l m : List Nat} : List.Sublist [a, b] (l ++ m) ↔ List.Sublist [a, b] l ∨ (a ∈ l ∧ b ∈ m) ∨ List.Sublist [a, b] m := by
  constructor
  · intro h
    obtain ⟨s, u, e, h1, h2⟩ := List.sublist_append_iff.1 h
    cases s with
    | nil => rw [List.nil_append] at e; rw [← e] at h2; exact .inr (.inr h2)
    | cons x s =>
      rw [List.cons_append] at e
      injection e with e1 e2
      subst e1
      cases s with
      | nil => rw [List.nil_append] at e2; rw [← e2] at h2; exact .inr (.inl ⟨List.singleton_sublist.1 h1, List.singleton_sublist.1 h2⟩)
      | cons y s =>
        rw [List.cons_append] at e2
        injection e2 with e3 e4
        subst e3
        have : s = [] ∧ u = [] := by simpa using e4.symm
        rw [this.1] at h1
        exact .inl h1
  · rintro (h | ⟨h1, h2⟩ | h)
    · exact h.trans (List.sublist_append_left _ _)
    · exact (List.singleton_sublist.2 h1).append (List.singleton_sublist.2 h2)
    · exact h.trans (List.sublist_append_right _ _)
theorem sub3 {a b : Nat} {pre F F' rest : List Nat} (hp : F'.Perm F) (h : List.Sublist [a, b] (pre ++ (F' ++ rest))) : List.Sublist [a, b] (pre ++ (F ++ rest)) ∨ (a ∈ F ∧ b ∈ F ∧ List.Sublist [a, b] F') := by
  rcases two_append.1 h with h | ⟨h1, h2⟩ | h
  · exact .inl (two_append.2 (.inl h))
  · exact .inl (two_append.2 (.inr (.inl ⟨h1, (List.Perm.append_right rest hp).mem_iff.1 h2⟩)))
  · rcases two_append.1 h with h | ⟨h1, h2⟩ | h
    · exact .inr ⟨hp.mem_iff.1 (h.subset (by simp)), hp.mem_iff.1 (h.subset (by simp)), h⟩
    · exact .inl (two_append.2 (.inr (.inr (two_append.2 (.inr (.inl ⟨hp.mem_iff.1 h1, h2⟩))))))
    · exact .inl (two_append.2 (.inr (.inr (two_append.2 (.inr (.inr h))))))
theorem freeD.run {ops : Array Oper} {kd : Nat → Kind} {Q : List PanicEntry → Heap → Prop} {ρ : Env} {H : Heap} {K : Env → Heap → Prop} {F : List (Nat × TypeId)} {pre rest : List Nat} (hok : freeOk ops kd pre (fstL F) rest = true)
    {K0 : Env → Heap → Prop} (hK : ∀ ρ1 H1, K0 ρ1 H1 → runK P ops kd rest ρ1 H1 K Q) (h : runK P ops kd pre ρ H (fun ρ0 H0 => freeD P ops kd F ρ0 H0 K0 Q) Q) (t : Nat) : runK P ops kd (Region.linearise .any ops t) ρ H K Q := by
  unfold freeOk at hok
  simp only [Bool.and_eq_true, List.all_eq_true] at hok
  obtain ⟨⟨⟨hb, hp⟩, hF⟩, hpairs⟩ := hok
  have hsch := schedule_any hb t
  generalize Region.linearise .any ops t = σ at hsch ⊢
  have hnσ : σ.Nodup := hsch.perm.nodup_iff.2 List.nodup_range
  have hmask : ∀ x y, ((masks ops.toList []).getD x 0).testBit y = true → y < x ∧ ¬ List.Sublist [x, y] σ := by
    refine masks_spec (ops := ops.toList) (σ := σ) (fun x o ho => hsch.edges x o (by simpa using ho)) (fun x hx => hsch.perm.mem_iff.2 (List.mem_range.2 (by simpa using hx)))
      (fun x o ho => edgesBack_spec hb x o (by simpa using ho)) ops.toList [] (by simp) (by simp) (by simp)
  have hpA : (pre ++ (fstL F ++ rest)).Perm (List.range ops.size) := List.isPerm_iff.1 hp
  have hnA : (pre ++ (fstL F ++ rest)).Nodup := hpA.nodup_iff.2 List.nodup_range
  have hσA : σ.Perm (pre ++ (fstL F ++ rest)) := hsch.perm.trans hpA.symm
  have hnA2 := List.nodup_append.1 hnA
  have hnA3 := List.nodup_append.1 hnA2.2.1
  have hnF : (fstL F).Nodup := hnA3.1
  let p : Nat → Bool := fun i => (fstL F).contains i
  have hp1 : ∀ i ∈ fstL F, p i = true := fun i hi => List.contains_iff_mem.2 hi
  have hp2 : ∀ i ∈ rest, p i = false := by
    intro i hi
    cases hc : p i with
    | false => rfl
    | true => exact (hnA3.2.2 _ (List.contains_iff_mem.1 hc) _ hi rfl).elim
  have hp3 : ∀ i ∈ pre, p i = false := by
    intro i hi
    cases hc : p i with
    | false => rfl
    | true => exact (hnA2.2.2 _ hi _ (List.mem_append.2 (.inl (List.contains_iff_mem.1 hc))) rfl).elim
  have hπ : (σ.filter p).Perm (fstL F) := by
    have h1 := hσA.filter p
    have e1 : (fstL F).filter p = fstL F := List.filter_eq_self.2 fun i hi => hp1 i hi
    have e2 : rest.filter p = [] := List.filter_eq_nil_iff.2 fun i hi => by simp [hp2 i hi]
    have e3 : pre.filter p = [] := List.filter_eq_nil_iff.2 fun i hi => by simp [hp3 i hi]
    rw [List.filter_append, List.filter_append, e1, e2, e3, List.append_nil, List.nil_append] at h1
    exact h1
  have hA : ∀ i ∈ fstL F, ∀ j ∈ fstL F, freeO ops i j = true := fun i hi j hj => hF i hi j hj
  have h1 : runK P ops kd (pre ++ (σ.filter p ++ rest)) ρ H K Q := by
    refine runK_append (runK.mono _ h ?_)
    intro ρ0 H0 h
    have hseq := h (σ.filter p) (by rw [freeL_fst]; exact hπ)
    have hrun := seqO.run (A := fstL F) (D := []) hA (by rw [List.append_nil]; exact hπ.nodup_iff.2 hnF) (by intro i hi; rw [List.append_nil] at hi; exact hπ.mem_iff.1 hi) hseq
    refine runK_append (runK.mono _ hrun ?_)
    rintro ρ' H' ⟨g, rfl, hg⟩
    rw [freeL_fst] at hg
    have := tL.spec hg
    rw [putL_env] at this
    have e : envF ops ρ0 g ((σ.filter p).reverse ++ []) = envF ops ρ0 g (fstL F) := by
      have hpp : ((σ.filter p).reverse ++ []).Perm (fstL F) := by rw [List.append_nil]; exact (List.reverse_perm _).trans hπ
      refine List.Perm.foldr_eq' hpp (fun x hx y hy z => ?_) ρ0
      by_cases hxy : x = y
      · rw [hxy]
      · have hx' := hpp.mem_iff.1 hx
        have hy' := hpp.mem_iff.1 hy
        obtain ⟨ox, oy, hox, hoy, _, _, hor⟩ := freeO.spec (hA x hx' y hy')
        have hap := (Oper.apart_spec (hor.resolve_left hxy)).2.1
        have dx : dstAt ops x = ox.dst := by unfold dstAt; rw [hox]
        have dy : dstAt ops y = oy.dst := by unfold dstAt; rw [hoy]
        rw [dx, dy]
        exact putE_comm z (g x) (g y) hap
    rw [e]
    exact hK _ _ this
  refine runK_perm σ (pre ++ (σ.filter p ++ rest)) ?_ hnσ (fun a b hab hba => ?_) h1
  · exact hσA.trans ((hπ.symm.append_right rest).append_left pre)
  · have absurd2 : List.Sublist [a, b] σ → False := fun h1 => by
      have i1 := idxOf_sublist hnσ h1
      have i2 := idxOf_sublist hnσ hba
      omega
    rcases sub3 hπ hab with hs | ⟨h1, h2, h3⟩
    · have hpair := pairsOk_spec _ hpairs a b hs
      simp only [Bool.or_eq_true, Bool.and_eq_true] at hpair
      rcases hpair with (⟨h1, h2⟩ | hpair) | hpair
      · -- both are free: in their own order
        have hf := hab.filter p
        have e2 : rest.filter p = [] := List.filter_eq_nil_iff.2 fun i hi => by simp [hp2 i hi]
        have e3 : pre.filter p = [] := List.filter_eq_nil_iff.2 fun i hi => by simp [hp3 i hi]
        have e0 : [a, b].filter p = [a, b] := by simp only [List.filter_cons, List.filter_nil]; rw [show p a = true from h1, show p b = true from h2]; rfl
        rw [e0, List.filter_append, List.filter_append, e2, e3, List.append_nil, List.nil_append] at hf
        exact (absurd2 ((hf.trans List.filter_sublist).trans List.filter_sublist)).elim
      · exact absurd hba (hmask b a hpair).2
      · exact hpair
    · exact (absurd2 (h3.trans List.filter_sublist)).elim
theorem denT.go (hmx : P.follows .mixedOrders = true) {fn : Func} (hfn : P.funcs[f]? = some fn) : ∀ {fuel : Nat} {chk : Bool} {todo : List Item} {ρ : Env} {H : Heap} {R : Ending → Heap → Prop}, (∀ x ∈ todo, itemOk an n x = true) → denT P f n an fuel chk todo ρ H R → GoS P f n todo ρ H R := by
  intro fuel
  induction fuel with
  | zero => intro chk todo ρ H R _ h; exact h
  | succ fuel ih =>
    intro chk todo ρ H R hok h
    unfold denT at h
    split at h
    · rename_i live hl
      exact h.go
    · split at h
      · -- the end
        intro b a cs w Rf hb hk ha hd hw
        obtain ⟨fn', v, h1, h2, h3⟩ := endD.spec h hw ha
        exact leave_by hb hk hd h1 h2 (hw ▸ h3) step_end
      · rename_i c k hn
        have hc : codeOk an n c = true := hok _ (List.mem_cons_self ..)
        have hk : ∀ x ∈ k, itemOk an n x = true := fun x hx => hok x (List.mem_cons_of_mem _ hx)
        split at h
        · exact .step (fun b a cs w ha => step_skip) (ih hk h)
        · rename_i x y
          simp only [codeOk, Bool.and_eq_true] at hc
          refine .step (fun b a cs w ha => step_seq) (ih (fun z hz => ?_) h)
          rcases List.mem_cons.1 hz with rfl | hz
          · exact hc.1
          · rcases List.mem_cons.1 hz with rfl | hz
            · exact hc.2
            · exact hk z hz
        · rename_i id ops draw
          simp only [codeOk, Bool.and_eq_true] at hc
          split at h
          · split at h
            · split at h
              · have h1 := (denOps.run h)
                have h2 : runK P ops (kindAt an ops id) (List.range ops.size) ρ H (fun ρ' H' => GoS P f n k ρ' H' R) (fun ch H' => R (.panicked ch) H') := h1.mono _ (fun ρ' H' h => ih hk h)
                intro b a cs w Rf hb hbk ha hd hw
                obtain ⟨e, w', fr, g1, g2, g3⟩ := GoS.ops hfn (dstOk.spec hc.1 _) h2 b a cs w Rf hb hbk ha hd hw
                exact ⟨e, w', fr, g1, .of_steps (.one step_region) g2, g3⟩
              · rename_i r nm as hg
                obtain ⟨hnp, h⟩ := h
                unfold guardB at h
                split at h
                · rename_i hno
                  exact GoS.deferI hfn hg hno (dstOk.spec hc.1 _) hnp ((denOps.run h).mono _ (fun ρ' H' h => ih hk h))
                · exact h.elim
            · rename_i g hg
              obtain ⟨hnp, h⟩ := h
              unfold guardB at h
              split at h
              · rename_i hidle
                exact GoS.defer hfn hg hidle (dstOk.spec hc.1 _) hnp ((denOps.run h).mono _ (fun ρ' H' h => ih hk h))
              · exact h.elim
          · split at h
            · rename_i F hF
              have hr := hc.2
              simp only [hF] at hr
              intro b a cs w Rf hb hbk ha hd hw
              have h3 : runK P ops (kindAt an ops id) (Region.linearise .any ops (w.tape w.drawn (.order b.fn id))) ρ H (fun ρ' H' => GoS P f n k ρ' H' R) (fun ch H' => R (.panicked ch) H') :=
                freeD.run hr (fun ρ1 H1 h2 => (denOps.run h2).mono _ (fun ρ' H' h => ih hk h)) (denOps.run h) _
              have h4 : Region.schedule (P.follows .mixedOrders) ops (w.tape w.drawn (.order b.fn id)) = Region.linearise .any ops (w.tape w.drawn (.order b.fn id)) := by
                unfold Region.schedule; rw [hmx]; simp
              obtain ⟨e, w', fr, ⟨g0, g1⟩, g2, g3⟩ := GoS.ops hfn (dstOk.spec hc.1 _) h3 b a cs { w with drawn := w.drawn + 1 } Rf hb hbk ha hd hw
              refine ⟨e, w', fr, ⟨⟨g0.os, g0.tape, g0.output⟩, g1⟩, .of_steps (.one step_region_draw) ?_, g3⟩
              rw [h4]
              exact g2
            rename_i hF
            have hr := hc.2
            simp only [hF] at hr
            intro b a cs w Rf hb hbk ha hd hw
            have h2 : ∀ τ ∈ an.tau id, runK P ops (kindAt an ops id) τ ρ H (fun ρ' H' => GoS P f n k ρ' H' R) (fun ch H' => R (.panicked ch) H') :=
              fun τ hτ => (denOps.run (h.spec τ hτ)).mono _ (fun ρ' H' h => ih hk h)
            have h3 := regionOk_run hr h2 (w.tape w.drawn (.order b.fn id))
            have h4 : Region.schedule (P.follows .mixedOrders) ops (w.tape w.drawn (.order b.fn id)) = Region.linearise .any ops (w.tape w.drawn (.order b.fn id)) := by
              unfold Region.schedule; rw [hmx]; simp
            have w2 : World := { w with drawn := w.drawn + 1 }
            obtain ⟨e, w', fr, ⟨g0, g1⟩, g2, g3⟩ := GoS.ops hfn (dstOk.spec hc.1 _) h3 b a cs { w with drawn := w.drawn + 1 } Rf hb hbk ha hd hw
            refine ⟨e, w', fr, ⟨⟨g0.os, g0.tape, g0.output⟩, g1⟩, .of_steps (.one step_region_draw) ?_, g3⟩
            rw [h4]
            exact g2
        · rename_i c x y
          simp only [codeOk, Bool.and_eq_true] at hc
          split at h
          · rename_i t ht
            refine .step (todo' := .code (if t then x else y) :: k) (fun b a cs w ha => step_cond_abs ht b a cs w ha) ?_
            cases t with
            | true =>
              refine ih (fun z hz => ?_) h
              rcases List.mem_cons.1 hz with rfl | hz
              · exact hc.1
              · exact hk z hz
            | false =>
              refine ih (fun z hz => ?_) h
              rcases List.mem_cons.1 hz with rfl | hz
              · exact hc.2
              · exact hk z hz
          · exact h.elim
        · rename_i id c
          simp only [codeOk] at hc
          refine .step (fun b a cs w ha => step_block) (ih (fun z hz => ?_) h)
          rcases List.mem_cons.1 hz with rfl | hz
          · exact hc
          · rcases List.mem_cons.1 hz with rfl | hz
            · rfl
            · exact hk z hz
        · rename_i c
          simp only [codeOk] at hc
          refine .step (fun b a cs w ha => step_loop) (ih (fun z hz => ?_) h)
          rcases List.mem_cons.1 hz with rfl | hz
          · exact hc
          · rcases List.mem_cons.1 hz with rfl | hz
            · exact hc
            · exact hk z hz
        · rename_i id
          split at h
          · rename_i k' hk'
            exact .step (fun b a cs w ha => step_exit hk') (ih (exitTo_ok hk hk') h)
          · exact h.elim
        · intro b a cs w Rf hb hbk ha hd hw
          obtain ⟨fn', v, h1, h2, h3⟩ := endD.spec h hw ha
          exact leave_by hb hbk hd h1 h2 (hw ▸ h3) step_ret
        · exact h.elim
      · rename_i id k
        exact .step (fun b a cs w ha => step_inBlock) (ih (fun x hx => hok x (List.mem_cons_of_mem _ hx)) h)
      · rename_i c k hn
        refine .step (fun b a cs w ha => step_inLoop) (ih (fun z hz => ?_) h)
        rcases List.mem_cons.1 hz with rfl | hz
        · exact hok (.inLoop c) (List.mem_cons_self ..)
        · rcases List.mem_cons.1 hz with rfl | hz
          · exact hok _ (List.mem_cons_self ..)
          · exact hok z (List.mem_cons_of_mem _ hz)
      · exact h.elim

/-- The slots when a function begins. -/
def env0 (args : List Value) : Env := fun t => args.getD t undef
theorem callsH_of_den (hmx : P.follows .mixedOrders = true) {fn : Func} {c : Code} (hfn : P.funcs[f]? = some fn) (hb : fn.body = some c) (hn : fn.ntmps = n) {args : List Value} {fuel : Nat} {H : Heap} {R : Ending → Heap → Prop}
    (hl : Nat.ble args.length n = true) (hok : codeOk an n c = true) {X : Prop} (he : denT P f n an fuel false [.code c] (env0 args) H R = X) (hX : X) : CallsH P f ⟨args⟩ H R := by
  subst he
  subst hn
  have hl := Nat.le_of_ble_eq_true hl
  intro w hw cs
  have h1 := denT.go hmx hfn (fun x hx => by rcases List.mem_singleton.1 hx with rfl; exact hok) hX
  let b : Frame := { (default : Frame) with fn := f, kind := .normal }
  have henter : Frame.enter P f ⟨args⟩ .normal = b.at { tmps := ⟨args⟩ ++ Array.replicate (fn.ntmps - args.length) undef, defers := [] } [.code c] := by
    simp [Frame.enter, Frame.at, hfn, hb, b]
  rw [henter]
  obtain ⟨e, w', fr, g1, g2, g3, g4⟩ := h1 b { tmps := ⟨args⟩ ++ Array.replicate (fn.ntmps - args.length) undef, defers := [] } cs w R rfl (.inl rfl) ⟨by simp; omega, fun t => by
    unfold env0
    simp only [Array.getD_eq_getD_getElem?, List.getD_eq_getElem?_getD]
    rcases Nat.lt_or_ge t args.length with ht | ht
    · rw [Array.getElem?_append_left (by simpa using ht)]
      simp
    · rw [Array.getElem?_append_right (by simpa using ht)]
      rw [List.getElem?_eq_none ht]
      simp only [Option.getD_none]
      rcases Nat.lt_or_ge (t - args.length) (fn.ntmps - args.length) with h2 | h2
      · simp [h2]
      · simp [Nat.not_lt.2 h2]⟩ (.inl ⟨rfl, fun _ _ h => h⟩) hw
  exact ⟨e, w', fr, g1, g2, g3, g4⟩
theorem callsHD_of_den (hmx : P.follows .mixedOrders = true) {fn : Func} {c : Code} (hfn : P.funcs[f]? = some fn) (hb : fn.body = some c) (hn : fn.ntmps = n) {args : List Value} {fuel : Nat} {H : Heap} {R : Ending → Heap → Prop}
    (hl : Nat.ble args.length n = true) (hok : codeOk an n c = true) {X : Prop} (he : denT P f n an fuel false [.code c] (env0 args) H R = X) (hX : X) : CallsHD P f ⟨args⟩ H R := by
  subst he
  subst hn
  have hl := Nat.le_of_ble_eq_true hl
  intro w hw c₀ cs hu
  have h1 := denT.go hmx hfn (fun x hx => by rcases List.mem_singleton.1 hx with rfl; exact hok) hX
  let b : Frame := { (default : Frame) with fn := f, kind := .deferred }
  have henter : Frame.enter P f ⟨args⟩ .deferred = b.at { tmps := ⟨args⟩ ++ Array.replicate (fn.ntmps - args.length) undef, defers := [] } [.code c] := by
    simp [Frame.enter, Frame.at, hfn, hb, b]
  have hc : ({ c₀ with mode := .returning } : Frame) = c₀ := by
    cases c₀
    simp at hu
    subst hu
    rfl
  rw [henter]
  obtain ⟨e, w', fr, g1, g2, g3, g4⟩ := h1 b { tmps := ⟨args⟩ ++ Array.replicate (fn.ntmps - args.length) undef, defers := [] } (c₀ :: cs) w R rfl (.inr rfl) ⟨by simp; omega, fun t => by
    unfold env0
    simp only [Array.getD_eq_getD_getElem?, List.getD_eq_getElem?_getD]
    rcases Nat.lt_or_ge t args.length with ht | ht
    · rw [Array.getElem?_append_left (by simpa using ht)]
      simp
    · rw [Array.getElem?_append_right (by simpa using ht)]
      rw [List.getElem?_eq_none ht]
      simp only [Option.getD_none]
      rcases Nat.lt_or_ge (t - args.length) (fn.ntmps - args.length) with h2 | h2
      · simp [h2]
      · simp [Nat.not_lt.2 h2]⟩ (.inl ⟨rfl, fun _ _ h => h⟩) hw
  refine ⟨e, .returning, w', fr, ⟨rfl, g1.1, g1.2⟩, ?_, g4.1, g4.2⟩
  rw [hc]
  exact g2
theorem goL_of_den (hmx : P.follows .mixedOrders = true) {fn : Func} (hfn : P.funcs[f]? = some fn) {todo : List Item} {live : List Nat} {vals : List Value} {fuel : Nat} {H : Heap} {R : Ending → Heap → Prop} {X : Prop}
    (hok : (todo.all (itemOk an n)) = true) (he : ∀ ρ0, denT P f n an fuel false todo (updL ρ0 live vals) H R = X) (hX : X) : GoL P f n todo live vals H R :=
  fun ρ0 => denT.go hmx hfn (fun x hx => (List.all_eq_true.1 hok) x hx) ((he ρ0).symm ▸ hX)
end
end Go.Den
