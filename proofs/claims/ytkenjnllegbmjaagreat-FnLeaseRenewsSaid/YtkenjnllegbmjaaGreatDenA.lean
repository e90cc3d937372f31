/- A plain reading of Go functions, proved to be what they do; no condition. -/
/- The heap's view of the machine: what an operation, a region, a call does, said of the heap alone. -/
import Derived.Orders
import Derived.Below
set_option linter.unusedVariables false
set_option linter.unusedSimpArgs false
namespace Go.Den
open Go

abbrev Heap := Array Obj
abbrev Env := Nat → Value

structure Same (w w' : World) : Prop where
  os : w'.os = w.os
  tape : w'.tape = w.tape
  output : w'.output = w.output
theorem Same.refl (w : World) : Same w w := ⟨rfl, rfl, rfl⟩
theorem Same.trans {a b c : World} (h : Same a b) (k : Same b c) : Same a c := ⟨k.os.trans h.os, k.tape.trans h.tape, k.output.trans h.output⟩

def hcell (H : Heap) (a : Addr) : Option Value :=
  match H[a.block]? with
  | some (.cells c _ _) => if a.spot.isSome then none else c[a.off]?
  | _ => none
def hshape (H : Heap) (r : Nat) : Option (TypeId × Nat) :=
  match H[r]? with
  | some (.cells c elem _) => some (elem, c.size)
  | _ => none
def hfrozen (H : Heap) (a : Addr) : Bool :=
  match H[a.block]? with
  | some (.cells _ _ (lo, hi)) => lo ≤ a.off && a.off < hi
  | _ => false
def hset (H : Heap) (a : Addr) (v : Value) : Heap :=
  H.modify a.block fun
    | .cells c elem frozen => .cells (if a.spot.isSome then c else c.setIfInBounds a.off v) elem frozen
    | o => o
def hfreeze (H : Heap) (a : Addr) (n : Nat) : Heap :=
  if n = 0 then H else
  H.modify a.block fun
    | .cells c elem (lo, hi) => .cells c elem (if lo == hi then (a.off, a.off + n) else (min lo a.off, max hi (a.off + n)))
    | o => o
def isCell : Value → Bool
  | .agg _ => false
  | .tuple _ => false
  | _ => true
def isCells : Obj → Bool
  | .cells .. => true
  | _ => false

def SemH (P : Program) {α : Type} : Sem α → Heap → (α → Heap → Prop) → (Value → Heap → Prop) → Prop
  | .pure a, H, K, _ => K a H
  | .load _ a k, H, K, Q => ∃ v, hcell H a = some v ∧ SemH P (k v) H K Q
  | .store _ a v k, H, K, Q => isCell v = true ∧ (∃ u, hcell H a = some u) ∧ hfrozen H a = false ∧ SemH P k (hset H a v) K Q
  | .new o k, H, K, Q => SemH P (k H.size) (H.push o) K Q
  | .shape r k, H, K, Q => SemH P (k (hshape H r)) H K Q
  | .freeze a n k, H, K, Q => SemH P k (hfreeze H a n) K Q
  | .frozen a k, H, K, Q => SemH P (k (hfrozen H a)) H K Q
  | .getObj r k, H, K, Q => ∃ o, H[r]? = some o ∧ isCells o = false ∧ SemH P (k o) H K Q
  | .setObj r o k, H, K, Q => ∃ o', H[r]? = some o' ∧ isCells o' = false ∧ SemH P k (H.setIfInBounds r o) K Q
  | .choose q k, H, K, Q => ∀ t, SemH P (k (if q.forced then 0 else q.cut t)) H K Q
  | .sys _ _, _, _, _ => False
  | .program k, H, K, Q => SemH P (k P) H K Q
  | .mark _ k, H, K, Q => SemH P k H K Q
  | .halt h, H, _, Q => match h with | .panic v => Q v H | _ => False

theorem SemH.mono {P : Program} {α : Type} (s : Sem α) : ∀ {H : Heap} {K K' : α → Heap → Prop} {Q Q' : Value → Heap → Prop}, SemH P s H K Q →
    (∀ a H, K a H → K' a H) → (∀ v H, Q v H → Q' v H) → SemH P s H K' Q' := by
  induction s with
  | pure a => intro H K K' Q Q' h hk _; exact hk _ _ h
  | load m a k ih => intro H K K' Q Q' h hk hq; obtain ⟨v, hv, h⟩ := h; exact ⟨v, hv, ih v h hk hq⟩
  | store m a v k ih => intro H K K' Q Q' h hk hq; obtain ⟨h1, h2, h3, h⟩ := h; exact ⟨h1, h2, h3, ih h hk hq⟩
  | new o k ih => intro H K K' Q Q' h hk hq; exact ih _ h hk hq
  | shape r k ih => intro H K K' Q Q' h hk hq; exact ih _ h hk hq
  | freeze a n k ih => intro H K K' Q Q' h hk hq; exact ih h hk hq
  | frozen a k ih => intro H K K' Q Q' h hk hq; exact ih _ h hk hq
  | getObj r k ih => intro H K K' Q Q' h hk hq; obtain ⟨o, h1, h2, h⟩ := h; exact ⟨o, h1, h2, ih o h hk hq⟩
  | setObj r o k ih => intro H K K' Q Q' h hk hq; obtain ⟨o', h1, h2, h⟩ := h; exact ⟨o', h1, h2, ih h hk hq⟩
  | choose q k ih => intro H K K' Q Q' h hk hq t; exact ih _ (h t) hk hq
  | sys c k ih => intro H K K' Q Q' h; exact h.elim
  | program k ih => intro H K K' Q Q' h hk hq; exact ih _ h hk hq
  | mark m k ih => intro H K K' Q Q' h hk hq; exact ih h hk hq
  | halt x => intro H K K' Q Q' h hk hq; cases x <;> first | exact hq _ _ h | exact h.elim

theorem SemH_bind {P : Program} {α β : Type} (s : Sem α) (f : α → Sem β) : ∀ (H : Heap) (K : β → Heap → Prop) (Q : Value → Heap → Prop),
    SemH P (s >>= f) H K Q = SemH P s H (fun a H' => SemH P (f a) H' K Q) Q := by
  induction s with
  | pure a => intro H K Q; rfl
  | load m a k ih => intro H K Q; show (∃ v, _ ∧ SemH P (k v >>= f) H K Q) = _; simp only [ih]; rfl
  | store m a v k ih => intro H K Q; show (_ ∧ _ ∧ _ ∧ SemH P (k >>= f) _ K Q) = _; simp only [ih]; rfl
  | new o k ih => intro H K Q; exact ih _ _ _ _
  | shape r k ih => intro H K Q; exact ih _ _ _ _
  | freeze a n k ih => intro H K Q; exact ih _ _ _
  | frozen a k ih => intro H K Q; exact ih _ _ _ _
  | getObj r k ih => intro H K Q; show (∃ o, _ ∧ _ ∧ SemH P (k o >>= f) H K Q) = _; simp only [ih]; rfl
  | setObj r o k ih => intro H K Q; show (∃ o', _ ∧ _ ∧ SemH P (k >>= f) _ K Q) = _; simp only [ih]; rfl
  | choose q k ih => intro H K Q; show (∀ t, SemH P (k _ >>= f) H K Q) = _; simp only [ih]; rfl
  | sys c k ih => intro H K Q; rfl
  | program k ih => intro H K Q; exact ih _ _ _ _
  | mark m k ih => intro H K Q; exact ih _ _ _
  | halt x => intro H K Q; cases x <;> rfl

theorem SemH_pure {P : Program} {α : Type} (a : α) (H : Heap) (K : α → Heap → Prop) (Q : Value → Heap → Prop) : SemH P (pure a) H K Q = K a H := rfl

/-- What the heap's view says of a run. -/
def Ran {α : Type} (w : World) (K : α → Heap → Prop) (Q : Value → Heap → Prop) : Result α → Prop
  | .ok a w' => Same w w' ∧ K a w'.heap
  | .halt (.panic v) w' => Same w w' ∧ Q v w'.heap
  | .halt _ _ => False
theorem Ran.same {α : Type} {w w1 : World} {K : α → Heap → Prop} {Q : Value → Heap → Prop} {r : Result α} (h : Same w w1) (hr : Ran w1 K Q r) : Ran w K Q r := by
  cases r with
  | ok a w' => exact ⟨h.trans hr.1, hr.2⟩
  | halt x w' => cases x <;> first | exact ⟨h.trans hr.1, hr.2⟩ | exact hr.elim

theorem SemH.sound {P : Program} {α : Type} (s : Sem α) : ∀ {w : World} {K : α → Heap → Prop} {Q : Value → Heap → Prop}, SemH P s w.heap K Q → Ran w K Q (s.run P w) := by
  induction s with
  | pure a => intro w K Q h; exact ⟨Same.refl w, h⟩
  | load m a k ih =>
    intro w K Q h
    obtain ⟨v, hv, h⟩ := h
    have : w.cell? a = some v := hv
    simp only [Sem.run, this]
    exact ih v h
  | store m a v k ih =>
    intro w K Q h
    obtain ⟨h1, ⟨u, h2⟩, h3, h⟩ := h
    have e2 : w.cell? a = some u := h2
    have e3 : w.frozen? a = false := h3
    cases v <;> first
      | (simp [isCell] at h1; done)
      | (simp only [Sem.run, e2, e3, Bool.false_eq_true, if_false]; exact Ran.same (w1 := w.setCell a _) ⟨rfl, rfl, rfl⟩ (ih h))
  | new o k ih => intro w K Q h; exact Ran.same (w1 := { w with heap := w.heap.push o }) ⟨rfl, rfl, rfl⟩ (ih _ h)
  | shape r k ih => intro w K Q h; exact ih _ h
  | freeze a n k ih =>
    intro w K Q h
    have e : (w.freeze a n).heap = hfreeze w.heap a n := by unfold World.freeze hfreeze; split <;> rfl
    have : Same w (w.freeze a n) := by unfold World.freeze; split <;> exact ⟨rfl, rfl, rfl⟩
    exact Ran.same (w1 := w.freeze a n) this (ih (by rw [e]; exact h))
  | frozen a k ih => intro w K Q h; exact ih _ h
  | getObj r k ih =>
    intro w K Q h
    obtain ⟨o, h1, h2, h⟩ := h
    simp only [Sem.run, h1]
    cases o <;> first | (simp [isCells] at h2; done) | exact ih _ h
  | setObj r o k ih =>
    intro w K Q h
    obtain ⟨o', h1, h2, h⟩ := h
    simp only [Sem.run, h1]
    cases o' <;> first | (simp [isCells] at h2; done) | exact Ran.same (w1 := { w with heap := w.heap.setIfInBounds r o }) ⟨rfl, rfl, rfl⟩ (ih h)
  | choose q k ih =>
    intro w K Q h
    simp only [Sem.run]
    split
    · rename_i hf
      have := h 0
      simp only [hf, if_true] at this
      exact ih _ this
    · rename_i hf
      have := h (w.tape w.drawn q)
      simp only [hf] at this
      exact Ran.same (w1 := { w with drawn := w.drawn + 1 }) ⟨rfl, rfl, rfl⟩ (ih _ this)
  | sys c k ih => intro w K Q h; exact h.elim
  | program k ih => intro w K Q h; exact ih _ h
  | mark m k ih => intro w K Q h; exact ih h
  | halt x => intro w K Q h; cases x <;> first | exact ⟨Same.refl w, h⟩ | exact h.elim

/-- From a heap on, a call comes to an ending and a heap of which R holds. -/
def CallsH (P : Program) (f : FuncId) (args : Array Value) (H : Heap) (R : Ending → Heap → Prop) : Prop :=
  ∀ w : World, w.heap = H → Calls P f args w fun e w' => Same w w' ∧ R e w'.heap
theorem CallsH.mono {P : Program} {f : FuncId} {args : Array Value} {H : Heap} {R R' : Ending → Heap → Prop} (h : CallsH P f args H R)
    (hr : ∀ e H', R e H' → R' e H') : CallsH P f args H R' := fun w hw => (h w hw).mono fun e w' ⟨a, b⟩ => ⟨a, hr _ _ b⟩

/-- What comes behind a call, by its ending. -/
def retK (K : Value → Heap → Prop) (Q : List PanicEntry → Heap → Prop) : Ending → Heap → Prop
  | .returned v, H => K v H
  | .panicked ch, H => Q ch H
  | .outgrown, _ => False
theorem retK.mono {K K' : Value → Heap → Prop} {Q Q' : List PanicEntry → Heap → Prop} {e : Ending} {H : Heap} (h : retK K Q e H) (hk : ∀ v H, K v H → K' v H) (hq : ∀ v H, Q v H → Q' v H) : retK K' Q' e H := by
  cases e <;> first | exact hk _ _ h | exact hq _ _ h | exact h.elim

def nextH (P : Program) (K : Value → Heap → Prop) (Q : List PanicEntry → Heap → Prop) : Next → Heap → Prop
  | .value v, H => K v H
  | .skip, H => K undef H
  | .enter f args, H => CallsH P f args H (retK K Q)
  | _, _ => False
theorem nextH.mono {P : Program} {K K' : Value → Heap → Prop} {Q Q' : List PanicEntry → Heap → Prop} {n : Next} {H : Heap} (h : nextH P K Q n H) (hk : ∀ v H, K v H → K' v H) (hq : ∀ v H, Q v H → Q' v H) : nextH P K' Q' n H := by
  cases n <;> first | exact hk _ _ h | exact h.elim | exact CallsH.mono h fun e H' he => he.mono hk hq

def OperH (P : Program) (o : Oper) (ev : Operand → Value) (H : Heap) (K : Value → Heap → Prop) (Q : List PanicEntry → Heap → Prop) : Prop :=
  SemH P (execOp ev o) H (nextH P K Q) fun v H' => Q [{ v, recovered := false }] H'
theorem OperH.mono {P : Program} {o : Oper} {ev : Operand → Value} {H : Heap} {K K' : Value → Heap → Prop} {Q Q' : List PanicEntry → Heap → Prop} (h : OperH P o ev H K Q) (hk : ∀ v H, K v H → K' v H)
    (hq : ∀ v H, Q v H → Q' v H) : OperH P o ev H K' Q' := SemH.mono _ h (fun n H hn => hn.mono hk hq) (fun v H hv => hq _ _ hv)

theorem OperH.wp {P : Program} {o : Oper} {a : Act} {w : World} {K : Value → Heap → Prop} {Q : List PanicEntry → Heap → Prop} {Qx : Exit → Act → World → Prop} (h : OperH P o a.eval w.heap K Q)
    (hq : ∀ ch w', Same w w' → Q ch w'.heap → Qx (.panic ch) a w') : o.wp P a w (fun a' w' => ∃ v, a' = a.put o.dst v ∧ Same w w' ∧ K v w'.heap) Qx := by
  unfold Oper.wp
  have hr := SemH.sound (P := P) _ h
  generalize (execOp a.eval o).run P w = r at hr
  cases r with
  | ok n w' =>
    obtain ⟨hs, hn⟩ := hr
    cases n <;> simp only [Oper.upon] <;> try exact hn.elim
    · exact ⟨_, rfl, hs, hn⟩
    · exact ⟨_, rfl, hs, hn⟩
    · refine (hn w' rfl).mono ?_
      rintro e w'' ⟨hs', he⟩
      cases e with
      | returned v => exact ⟨v, rfl, hs.trans hs', he⟩
      | panicked ch => exact hq _ _ (hs.trans hs') he
      | outgrown => exact he.elim
  | halt x w' => cases x <;> first | exact hq _ _ hr.1 hr.2 | exact hr.elim

/-! ### Slots -/
def upd (ρ : Env) (d : Nat) (v : Value) : Env := fun t => if t = d then v else ρ t
theorem upd_same (ρ : Env) (d : Nat) (v : Value) : upd ρ d v d = v := by simp [upd]
theorem upd_ne (ρ : Env) {d t : Nat} (v : Value) (h : t ≠ d) : upd ρ d v t = ρ t := by simp [upd, h]
theorem upd_self (ρ : Env) (d : Nat) : upd ρ d (ρ d) = ρ := by funext t; unfold upd; split <;> simp_all
theorem upd_comm (ρ : Env) {d e : Nat} (v u : Value) (h : d ≠ e) : upd (upd ρ d v) e u = upd (upd ρ e u) d v := by
  funext t; unfold upd; split <;> split <;> simp_all
def putE (ρ : Env) (dst : Option Tmp) (v : Value) : Env := match dst with | some d => upd ρ d v | none => ρ
def evalE (ρ : Env) : Operand → Value
  | .tmp t => ρ t
  | .const v => v
  | .global g => .pointer (some ⟨g, 0, none⟩)
  | .func f => .func (.func f) #[] #[]
structure Abs (n : Nat) (a : Act) (ρ : Env) : Prop where
  size : a.tmps.size = n
  slot : ∀ t, a.tmps.getD t undef = ρ t
theorem Abs.eval {n : Nat} {a : Act} {ρ : Env} (h : Abs n a ρ) : a.eval = evalE ρ := by
  funext x; cases x <;> first | rfl | exact h.slot _
theorem Abs.put {n : Nat} {a : Act} {ρ : Env} (h : Abs n a ρ) (dst : Option Tmp) (v : Value) (hd : ∀ d, dst = some d → d < n) : Abs n (a.put dst v) (putE ρ dst v) := by
  cases dst with
  | none => exact h
  | some d =>
    refine ⟨by simp [Act.put, h.size], fun t => ?_⟩
    have hs := h.slot t
    have hd := hd d rfl
    have hn := h.size
    simp only [Act.put, putE, upd, Array.getD_eq_getD_getElem?] at hs ⊢
    by_cases ht : t = d
    · subst ht; simp [hn, hd]
    · simp [ht, Array.getElem?_setIfInBounds_ne (Ne.symm ht), hs]
theorem Act.put_defers' (a : Act) (dst : Option Tmp) (v : Value) : (a.put dst v).defers = a.defers := by cases dst <;> rfl
def yieldedE (ops : Array Oper) (ρ : Env) (j : Nat) : Option Bool :=
  match (ops[j]?).bind (·.dst) with
  | some d => match ρ d with | .bool b => some b | _ => none
  | none => none
theorem yielded_abs {n : Nat} {a : Act} {ρ : Env} {ops : Array Oper} (h : Abs n a ρ) : yielded ops a.tmps = yieldedE ops ρ := by
  funext j
  unfold yielded yieldedE
  cases hd : (ops[j]?).bind (·.dst) with
  | none => simp
  | some d =>
    have hs := h.slot d
    simp only [Array.getD_eq_getD_getElem?] at hs
    simp only [Option.bind_some]
    rw [← hs]
    cases hc : a.tmps[d]? with
    | none => simp [undef]
    | some v => simp only [Option.getD_some]; cases v <;> rfl
end Go.Den
