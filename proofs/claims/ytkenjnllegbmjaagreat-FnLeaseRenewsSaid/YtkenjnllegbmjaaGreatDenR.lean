/- A plain reading of Go functions, proved to be what they do; no condition. -/
/- Regions: one order of a region's operations stands for all orders that its edges allow. -/
import Derived.Test.YtkenjnllegbmjaaGreatDenA
set_option linter.unusedVariables false
set_option linter.unusedSimpArgs false
namespace Go.Den
open Go

/-- All blocks that were there are as they were. -/
structure ExtH (H H' : Heap) : Prop where
  size : H.size ≤ H'.size
  block : ∀ b, b < H.size → H'[b]? = H[b]?
theorem ExtH.refl (H : Heap) : ExtH H H := ⟨Nat.le_refl _, fun _ _ => rfl⟩
theorem ExtH.trans {a b c : Heap} (h : ExtH a b) (k : ExtH b c) : ExtH a c :=
  ⟨Nat.le_trans h.size k.size, fun i hi => (k.block i (Nat.lt_of_lt_of_le hi h.size)).trans (h.block i hi)⟩
theorem ExtH.push (H : Heap) (o : Obj) : ExtH H (H.push o) := ⟨by simp, fun b hb => by rw [Array.getElem?_push, if_neg (by omega)]⟩
theorem ExtH.block_some {H H' : Heap} (h : ExtH H H') {b : Nat} {o : Obj} (hb : H[b]? = some o) : H'[b]? = some o := by
  have : b < H.size := by
    rcases Nat.lt_or_ge b H.size with h1 | h1
    · exact h1
    · rw [Array.getElem?_eq_none h1] at hb; cases hb
  rw [h.block b this, hb]
theorem ExtH.cell {H H' : Heap} (h : ExtH H H') {a : Addr} {v : Value} (hc : hcell H a = some v) : hcell H' a = some v := by
  unfold hcell at hc ⊢
  cases hb : H[a.block]? with
  | none => rw [hb] at hc; cases hc
  | some o => rw [h.block_some hb]; rw [hb] at hc; exact hc

def pureV (P : Program) {α : Type} : Sem α → Option α
  | .pure a => some a
  | .program k => pureV P (k P)
  | .mark _ k => pureV P k
  | _ => none
def readV (P : Program) {α : Type} : Sem α → Heap → Option α
  | .pure a, _ => some a
  | .load _ a k, H => match hcell H a with | some v => readV P (k v) H | none => none
  | .shape r k, H => if r < H.size then readV P (k (hshape H r)) H else none
  | .frozen a k, H => if a.block < H.size then readV P (k (hfrozen H a)) H else none
  | .getObj r k, H => match H[r]? with | some o => if isCells o then none else readV P (k o) H | none => none
  | .program k, H => readV P (k P) H
  | .mark _ k, H => readV P k H
  | _, _ => none

theorem pureV.sem {P : Program} {α : Type} (s : Sem α) : ∀ {a : α} {H : Heap} {K : α → Heap → Prop} {Q : Value → Heap → Prop}, pureV P s = some a → K a H → SemH P s H K Q := by
  induction s <;> intro x H K Q h hk <;> simp only [pureV] at h <;> try cases h
  case pure => exact hk
  case program ih => exact ih _ h hk
  case mark ih => exact ih h hk
theorem readV.sem {P : Program} {α : Type} (s : Sem α) : ∀ {a : α} {H : Heap} {K : α → Heap → Prop} {Q : Value → Heap → Prop}, readV P s H = some a → K a H → SemH P s H K Q := by
  induction s <;> intro x H K Q h hk <;> simp only [readV] at h
  case pure => cases h; exact hk
  case load ih =>
    split at h
    · rename_i v hv; exact ⟨v, hv, ih v h hk⟩
    · cases h
  case shape ih => split at h; exact ih _ h hk; cases h
  case frozen ih => split at h; exact ih _ h hk; cases h
  case getObj ih =>
    split at h
    · rename_i o ho
      split at h
      · cases h
      · rename_i hc; exact ⟨o, ho, by simpa using hc, ih o h hk⟩
    · cases h
  case program ih => exact ih _ h hk
  case mark ih => exact ih h hk
  all_goals cases h
theorem readV.ext {P : Program} {α : Type} (s : Sem α) : ∀ {a : α} {H H' : Heap}, ExtH H H' → readV P s H = some a → readV P s H' = some a := by
  induction s <;> intro x H H' he h <;> simp only [readV] at h ⊢
  case pure => exact h
  case load ih =>
    split at h
    · rename_i v hv; rw [he.cell hv]; exact ih v he h
    · cases h
  case shape r k ih =>
    split at h
    · rename_i hr
      rw [if_pos (Nat.lt_of_lt_of_le hr he.size)]
      have : hshape H' r = hshape H r := by unfold hshape; rw [he.block r hr]
      rw [this]; exact ih _ he h
    · cases h
  case frozen a k ih =>
    split at h
    · rename_i hr
      rw [if_pos (Nat.lt_of_lt_of_le hr he.size)]
      have : hfrozen H' a = hfrozen H a := by unfold hfrozen; rw [he.block _ hr]
      rw [this]; exact ih _ he h
    · cases h
  case getObj ih =>
    split at h
    · rename_i o ho
      rw [he.block_some ho]
      dsimp only
      split at h
      · cases h
      · rename_i hc; rw [if_neg hc]; exact ih o he h
    · cases h
  case program ih => exact ih _ he h
  case mark ih => exact ih he h
  all_goals cases h
theorem pureV_bind {P : Program} {α β : Type} (s : Sem α) (f : α → Sem β) : pureV P (s >>= f) = (pureV P s).bind fun a => pureV P (f a) := by
  induction s <;> first | rfl | (rename_i ih; exact ih) | (rename_i ih; exact ih _)
theorem readV_bind {P : Program} {α β : Type} (s : Sem α) (f : α → Sem β) (H : Heap) : readV P (s >>= f) H = (readV P s H).bind fun a => readV P (f a) H := by
  induction s
  case pure => rfl
  case load m a k ih =>
    rw [show (Sem.load m a k >>= f) = Sem.load m a (fun v => k v >>= f) from rfl]
    simp only [readV]
    cases hcell H a with
    | none => rfl
    | some v => exact ih v
  case shape r k ih =>
    rw [show (Sem.shape r k >>= f) = Sem.shape r (fun v => k v >>= f) from rfl]
    simp only [readV]
    split
    · exact ih _
    · rfl
  case frozen a k ih =>
    rw [show (Sem.frozen a k >>= f) = Sem.frozen a (fun v => k v >>= f) from rfl]
    simp only [readV]
    split
    · exact ih _
    · rfl
  case getObj r k ih =>
    rw [show (Sem.getObj r k >>= f) = Sem.getObj r (fun v => k v >>= f) from rfl]
    simp only [readV]
    cases H[r]? with
    | none => rfl
    | some o =>
      dsimp only
      split
      · rfl
      · exact ih o
  case program k ih => exact ih _
  case mark m k ih => exact ih
  all_goals rfl
theorem pureV.read {P : Program} {α : Type} (s : Sem α) {a : α} (H : Heap) (h : pureV P s = some a) : readV P s H = some a := by
  induction s <;> simp only [pureV] at h <;> try cases h
  case pure => rfl
  case program ih => exact ih _ h
  case mark ih => exact ih h

theorem SemH.some {P : Program} {α : Type} (s : Sem α) : ∀ {H : Heap} {K : α → Heap → Prop} {Q : Value → Heap → Prop}, SemH P s H K Q → (∀ v H, ¬ Q v H) → ∃ a H', K a H' := by
  induction s <;> intro H K Q h hq <;> simp only [SemH] at h
  case pure => exact ⟨_, _, h⟩
  case load ih => obtain ⟨v, _, h⟩ := h; exact ih v h hq
  case store ih => exact ih h.2.2.2 hq
  case new ih => exact ih _ h hq
  case shape ih => exact ih _ h hq
  case freeze ih => exact ih h hq
  case frozen ih => exact ih _ h hq
  case getObj ih => obtain ⟨o, _, _, h⟩ := h; exact ih o h hq
  case setObj ih => obtain ⟨o, _, _, h⟩ := h; exact ih h hq
  case choose ih => exact ih _ (h 0) hq
  case program ih => exact ih _ h hq
  case mark ih => exact ih h hq
  case halt x => cases x <;> first | exact (hq _ _ h).elim | exact h.elim
theorem CallsH.some {P : Program} {f : FuncId} {args : Array Value} {H : Heap} {R : Ending → Heap → Prop} (h : CallsH P f args H R) : ∃ e H', R e H' := by
  obtain ⟨e, w', fr, hR, _⟩ := h { (default : World) with heap := H } rfl []
  exact ⟨e, _, hR.2⟩
theorem OperH.some {P : Program} {o : Oper} {ev : Operand → Value} {H : Heap} {K : Value → Heap → Prop} {Q : List PanicEntry → Heap → Prop} (h : OperH P o ev H K Q) (hq : ∀ v H, ¬ Q v H) : ∃ v H', K v H' := by
  obtain ⟨n, H1, hn⟩ := SemH.some _ h (fun v H => hq _ _)
  cases n <;> simp only [nextH] at hn <;> try exact hn.elim
  · exact ⟨_, _, hn⟩
  · exact ⟨_, _, hn⟩
  · obtain ⟨e, H', he⟩ := CallsH.some hn
    cases e with
    | returned v => exact ⟨v, H', he⟩
    | panicked ch => exact (hq _ _ he).elim
    | outgrown => exact he.elim

inductive Kind where
  | pure | read | grow | loud
  | heavy (t : TypeId)

def nope : List PanicEntry → Heap → Prop := fun _ _ => False

/-- One operation, as its kind has it. -/
def coreK (P : Program) (kd : Kind) (o : Oper) (ev : Operand → Value) (H : Heap) (K : Value → Heap → Prop) (Q : List PanicEntry → Heap → Prop) : Prop :=
  match kd with
  | .pure => ∃ v, (∀ w, (execOp ev o).run P w = .ok (.value v) w) ∧ K v H
  | .read => ∃ v, readV P (execOp ev o) H = some (.value v) ∧ K v H
  | .grow => OperH P o ev H (fun v H' => ExtH H H' ∧ K v H') nope
  | .loud => OperH P o ev H K Q
  | .heavy _ => OperH P o ev H K Q
theorem coreK.mono {P : Program} {kd : Kind} {o : Oper} {ev : Operand → Value} {H : Heap} {K K' : Value → Heap → Prop} {Q Q' : List PanicEntry → Heap → Prop} (h : coreK P kd o ev H K Q) (hk : ∀ v H, K v H → K' v H) (hq : ∀ v H, Q v H → Q' v H) :
    coreK P kd o ev H K' Q' := by
  cases kd with
  | pure => obtain ⟨v, h1, h2⟩ := h; exact ⟨v, h1, hk _ _ h2⟩
  | read => obtain ⟨v, h1, h2⟩ := h; exact ⟨v, h1, hk _ _ h2⟩
  | grow => exact OperH.mono h (fun v H' ⟨a, b⟩ => ⟨a, hk _ _ b⟩) (fun v H => id)
  | loud => exact OperH.mono h hk hq
  | heavy t => exact OperH.mono h hk hq
theorem coreK.wp {P : Program} {kd : Kind} {o : Oper} {a : Act} {w : World} {K : Value → Heap → Prop} {Q : List PanicEntry → Heap → Prop} {Qx : Exit → Act → World → Prop} (h : coreK P kd o a.eval w.heap K Q)
    (hq : ∀ ch w', Same w w' → Q ch w'.heap → Qx (.panic ch) a w') : o.wp P a w (fun a' w' => ∃ v, a' = a.put o.dst v ∧ Same w w' ∧ K v w'.heap) Qx := by
  cases kd with
  | pure =>
    obtain ⟨v, h1, h2⟩ := h
    unfold Oper.wp
    rw [h1 w]
    exact ⟨v, rfl, Same.refl w, h2⟩
  | read => obtain ⟨v, h1, h2⟩ := h; exact OperH.wp (readV.sem (K := nextH P K Q) _ h1 h2) hq
  | grow => exact OperH.wp (OperH.mono h (fun v H' h => h.2) (fun v H h => h.elim)) hq
  | loud => exact OperH.wp h hq
  | heavy t => exact OperH.wp h hq

def indepK : Kind → Kind → Bool
  | .pure, _ => true
  | .read, .loud => false
  | .read, .heavy _ => false
  | .read, _ => true
  | .grow, .pure => true
  | _, _ => false
theorem coreK.swap {P : Program} {ky kx : Kind} {oy ox : Oper} {ey ex : Operand → Value} {H : Heap} {M : Value → Value → Heap → Prop} {Q : List PanicEntry → Heap → Prop} (hi : indepK ky kx = true)
    (h : coreK P ky oy ey H (fun vy Hy => coreK P kx ox ex Hy (fun vx Hx => M vx vy Hx) Q) Q) : coreK P kx ox ex H (fun vx Hx => coreK P ky oy ey Hx (fun vy Hy => M vx vy Hy) Q) Q := by
  cases ky with
  | pure =>
    obtain ⟨vy, h1, h2⟩ := h
    exact h2.mono (fun vx Hx h => ⟨vy, h1, h⟩) (fun _ _ => id)
  | read =>
    obtain ⟨vy, h1, h2⟩ := h
    cases kx with
    | pure => obtain ⟨vx, h3, h4⟩ := h2; exact ⟨vx, h3, vy, h1, h4⟩
    | read => obtain ⟨vx, h3, h4⟩ := h2; exact ⟨vx, h3, vy, h1, h4⟩
    | grow => exact OperH.mono h2 (fun vx Hx ⟨he, hm⟩ => ⟨he, vy, readV.ext _ he h1, hm⟩) (fun _ _ => id)
    | loud => cases hi
    | heavy t => cases hi
  | grow =>
    cases kx with
    | pure =>
      obtain ⟨vy, Hy, _, vx, hx, _⟩ := OperH.some h (fun _ _ => id)
      refine ⟨vx, hx, OperH.mono h (fun vy Hy ⟨he, vx', hx', hm⟩ => ⟨he, ?_⟩) (fun _ _ => id)⟩
      have e := (hx default).symm.trans (hx' default)
      injection e with e
      injection e with e
      subst e
      exact hm
    | _ => cases hi
  | loud => cases hi
  | heavy t => cases hi

def wantedE (ops : Array Oper) (ρ : Env) (o : Oper) : Bool :=
  match o.guard with
  | none => true
  | some (j, want) => yieldedE ops ρ j == some want
theorem wantedE_eq {n : Nat} {a : Act} {ρ : Env} {ops : Array Oper} (h : Abs n a ρ) (o : Oper) : Region.wanted o (yielded ops a.tmps) = wantedE ops ρ o := by
  unfold Region.wanted wantedE; rw [yielded_abs h]; cases o.guard <;> rfl

/-- The step at an operation: its value, and the heap behind it. -/
def stepV (P : Program) (ops : Array Oper) (kd : Kind) (o : Oper) (ρ : Env) (H : Heap) (K : Value → Heap → Prop) (Q : List PanicEntry → Heap → Prop) : Prop :=
  if wantedE ops ρ o = true then coreK P kd o (evalE ρ) H K Q else K undef H
def stepK (P : Program) (ops : Array Oper) (kd : Nat → Kind) (i : Nat) (ρ : Env) (H : Heap) (K : Env → Heap → Prop) (Q : List PanicEntry → Heap → Prop) : Prop :=
  match ops[i]? with
  | none => K ρ H
  | some o => stepV P ops (kd i) o ρ H (fun v H' => K (putE ρ o.dst v) H') Q
def runK (P : Program) (ops : Array Oper) (kd : Nat → Kind) : List Nat → Env → Heap → (Env → Heap → Prop) → (List PanicEntry → Heap → Prop) → Prop
  | [], ρ, H, K, _ => K ρ H
  | i :: l, ρ, H, K, Q => stepK P ops kd i ρ H (fun ρ' H' => runK P ops kd l ρ' H' K Q) Q

section
variable {P : Program} {ops : Array Oper} {kd : Nat → Kind} {Q : List PanicEntry → Heap → Prop}
theorem stepV.mono {k : Kind} {o : Oper} {ρ : Env} {H : Heap} {K K' : Value → Heap → Prop} (h : stepV P ops k o ρ H K Q) (hk : ∀ v H, K v H → K' v H) : stepV P ops k o ρ H K' Q := by
  unfold stepV at *; split
  · rename_i hw; rw [if_pos hw] at h; exact h.mono hk fun _ _ => id
  · rename_i hw; rw [if_neg hw] at h; exact hk _ _ h
theorem stepK.mono {i : Nat} {ρ : Env} {H : Heap} {K K' : Env → Heap → Prop} (h : stepK P ops kd i ρ H K Q) (hk : ∀ ρ H, K ρ H → K' ρ H) : stepK P ops kd i ρ H K' Q := by
  unfold stepK at *; split
  · rename_i ho; simp only [ho] at h; exact hk _ _ h
  · rename_i o ho; simp only [ho] at h; exact h.mono fun v H => hk _ _
theorem runK.mono : ∀ (l : List Nat) {ρ : Env} {H : Heap} {K K' : Env → Heap → Prop}, runK P ops kd l ρ H K Q → (∀ ρ H, K ρ H → K' ρ H) → runK P ops kd l ρ H K' Q := by
  intro l; induction l with
  | nil => intro ρ H K K' h hk; exact hk _ _ h
  | cons i l ih => intro ρ H K K' h hk; exact stepK.mono h fun ρ H h => ih h hk

theorem putE_comm (ρ : Env) {x y : Option Tmp} (v u : Value) (h : ∀ d, x = some d → y ≠ some d) : putE (putE ρ x v) y u = putE (putE ρ y u) x v := by
  cases x with
  | none => rfl
  | some d => cases y with
    | none => rfl
    | some e => exact upd_comm ρ v u fun he => h d rfl (he ▸ rfl)
theorem evalE_put {ρ : Env} {dst : Option Tmp} {v : Value} {x : Operand} (h : ∀ d, dst = some d → x ≠ .tmp d) : evalE (putE ρ dst v) x = evalE ρ x := by
  cases dst with
  | none => rfl
  | some d => cases x with
    | tmp t => exact upd_ne ρ v fun e => h d rfl (e ▸ rfl)
    | _ => rfl
def notSelect : Op → Bool | .select _ _ => false | _ => true
theorem wantedE_put {ρ : Env} {dst : Option Tmp} {v : Value} {o : Oper} (h : ∀ d, dst = some d → d ∉ o.looksAt ops) : wantedE ops (putE ρ dst v) o = wantedE ops ρ o := by
  unfold wantedE
  cases hg : o.guard with
  | none => rfl
  | some gw =>
    obtain ⟨g, want⟩ := gw
    dsimp only
    unfold yieldedE
    cases hd : (ops[g]?).bind (·.dst) with
    | none => rfl
    | some e =>
      dsimp only
      cases dst with
      | none => rfl
      | some d =>
        have : e ≠ d := by
          rintro rfl
          exact h e rfl (by simp [Oper.looksAt, hg, hd])
        simp [putE, upd_ne ρ v this]
theorem execOp_put {ρ : Env} {dst : Option Tmp} {v : Value} {o : Oper} (h : ∀ d, dst = some d → d ∉ o.looksAt ops) (hs : notSelect o.op = true) : execOp (evalE (putE ρ dst v)) o = execOp (evalE ρ) o := by
  refine execOp_congr o (fun cs b e => by rw [e] at hs; cases hs) fun x hx => evalE_put fun d hd e => ?_
  subst e
  exact h d hd (List.mem_append.2 (.inl (List.mem_filterMap.2 ⟨_, Array.mem_toList_iff.2 hx, rfl⟩)))
theorem stepV_put {k : Kind} {ρ : Env} {dst : Option Tmp} {v : Value} {o : Oper} {H : Heap} {K : Value → Heap → Prop} (h : ∀ d, dst = some d → d ∉ o.looksAt ops) (hs : notSelect o.op = true) :
    stepV P ops k o (putE ρ dst v) H K Q = stepV P ops k o ρ H K Q := by
  unfold stepV
  rw [wantedE_put h]
  unfold coreK OperH
  rw [execOp_put h hs]

def indepI (ops : Array Oper) (kd : Nat → Kind) (y x : Nat) : Bool :=
  match ops[y]?, ops[x]? with
  | some oy, some ox => indepK (kd y) (kd x) && oy.apart ops ox && notSelect oy.op && notSelect ox.op
  | _, _ => false
theorem stepK_swap {y x : Nat} {ρ : Env} {H : Heap} {K : Env → Heap → Prop} (hi : indepI ops kd y x = true)
    (h : stepK P ops kd y ρ H (fun ρ1 H1 => stepK P ops kd x ρ1 H1 K Q) Q) : stepK P ops kd x ρ H (fun ρ1 H1 => stepK P ops kd y ρ1 H1 K Q) Q := by
  unfold indepI at hi
  split at hi
  · rename_i oy ox hy hx
    simp only [Bool.and_eq_true] at hi
    obtain ⟨⟨⟨hk, ha⟩, hsy⟩, hsx⟩ := hi
    obtain ⟨h1, h2, h3⟩ := Oper.apart_spec ha
    simp only [stepK, hy, hx] at h ⊢
    have e1 : ∀ v H1 (K1 : Value → Heap → Prop), stepV P ops (kd x) ox (putE ρ oy.dst v) H1 K1 Q = stepV P ops (kd x) ox ρ H1 K1 Q := fun v H1 K1 => stepV_put h1 hsx
    have e2 : ∀ v H1 (K1 : Value → Heap → Prop), stepV P ops (kd y) oy (putE ρ ox.dst v) H1 K1 Q = stepV P ops (kd y) oy ρ H1 K1 Q := fun v H1 K1 => stepV_put h3 hsy
    simp only [e1] at h
    simp only [e2]
    have ec : ∀ vx vy, putE (putE ρ ox.dst vx) oy.dst vy = putE (putE ρ oy.dst vy) ox.dst vx := fun vx vy => (putE_comm ρ vy vx h2).symm
    simp only [ec]
    unfold stepV at h ⊢
    by_cases hwy : wantedE ops ρ oy = true <;> by_cases hwx : wantedE ops ρ ox = true <;> simp only [hwy, hwx, if_true, if_false, Bool.false_eq_true] at h ⊢
    · exact coreK.swap (M := fun vx vy Hx => K (putE (putE ρ oy.dst vy) ox.dst vx) Hx) hk h
    · exact h
    · exact h
    · exact h
  · cases hi
theorem runK_bubble {x : Nat} {post : List Nat} : ∀ (pre : List Nat) {ρ : Env} {H : Heap} {K : Env → Heap → Prop}, (∀ y ∈ pre, indepI ops kd y x = true) →
    runK P ops kd (pre ++ x :: post) ρ H K Q → runK P ops kd (x :: (pre ++ post)) ρ H K Q := by
  intro pre; induction pre with
  | nil => intro ρ H K _ h; exact h
  | cons y pre ih =>
    intro ρ H K hi h
    have h' : stepK P ops kd y ρ H (fun ρ1 H1 => stepK P ops kd x ρ1 H1 (fun ρ2 H2 => runK P ops kd (pre ++ post) ρ2 H2 K Q) Q) Q :=
      stepK.mono h fun ρ1 H1 h1 => ih (fun z hz => hi z (List.mem_cons_of_mem _ hz)) h1
    exact stepK_swap (hi y (List.mem_cons_self ..)) h'
theorem runK_perm : ∀ (σ τ : List Nat) {ρ : Env} {H : Heap} {K : Env → Heap → Prop}, σ.Perm τ → σ.Nodup → (∀ a b, List.Sublist [a, b] τ → List.Sublist [b, a] σ → indepI ops kd a b = true) →
    runK P ops kd τ ρ H K Q → runK P ops kd σ ρ H K Q := by
  intro σ; induction σ with
  | nil =>
    intro τ ρ H K hp _ _ h
    have : τ = [] := hp.symm.eq_nil
    subst this
    exact h
  | cons x σ ih =>
    intro τ ρ H K hp hn hi h
    have hx : x ∈ τ := hp.mem_iff.1 (List.mem_cons_self ..)
    obtain ⟨pre, post, rfl⟩ := List.append_of_mem hx
    have hn' : (pre ++ x :: post).Nodup := hp.nodup_iff.1 hn
    have hp' : σ.Perm (pre ++ post) := (hp.trans List.perm_middle).cons_inv
    have hb := runK_bubble pre (fun y hy => ?_) h
    · refine stepK.mono hb fun ρ1 H1 h1 => ih _ hp' (List.nodup_cons.1 hn).2 (fun a b hab hba => hi a b ?_ (hba.trans (List.sublist_cons_self ..))) h1
      exact hab.trans (List.Sublist.append (List.Sublist.refl _) (List.sublist_cons_self ..))
    · refine hi y x ?_ ?_
      · have h1 : List.Sublist [y] pre := List.singleton_sublist.2 hy
        have h2 : List.Sublist [x] (x :: post) := List.singleton_sublist.2 (List.mem_cons_self ..)
        exact h1.append h2
      · have : y ∈ σ := hp'.mem_iff.2 (List.mem_append.2 (.inl hy))
        exact (List.singleton_sublist.2 this).cons_cons x

/-- The region as the model runs it, out of the heap's view. -/
theorem runK_wp {n : Nat} {Qx : Exit → Act → World → Prop} {w0 : World} {ds : List Deferred} : ∀ (l : List Nat) {ρ : Env} {K : Env → Heap → Prop} {a : Act} {w : World},
    (∀ i ∈ l, ∀ o, ops[i]? = some o → ∀ d, o.dst = some d → d < n) → Abs n a ρ → a.defers = ds → Same w0 w →
    (∀ ρ' a' w', Abs n a' ρ' → a'.defers = ds → Same w0 w' → K ρ' w'.heap → Qx .normal a' w') → (∀ ch a' w', a'.defers = ds → Same w0 w' → Q ch w'.heap → Qx (.panic ch) a' w') →
    runK P ops kd l ρ w.heap K Q → wpOps P ops Qx l a w := by
  intro l; induction l with
  | nil => intro ρ K a w _ ha hd hs hk _ h; exact hk ρ a w ha hd hs h
  | cons i l ih =>
    intro ρ K a w hb ha hd hs hk hq h
    rw [wpOps_cons]
    unfold wpOp
    simp only [runK, stepK] at h
    cases ho : ops[i]? with
    | none =>
      simp only [ho] at h
      exact ih (fun j hj => hb j (List.mem_cons_of_mem _ hj)) ha hd hs hk hq h
    | some o =>
      simp only [ho] at h ⊢
      unfold stepV at h
      rw [wantedE_eq ha]
      have hbo := hb i (List.mem_cons_self ..) o ho
      by_cases hw : wantedE ops ρ o = true
      · rw [if_pos hw] at h ⊢
        rw [← ha.eval] at h
        refine .inl (Oper.wp_mono ?_ (coreK.wp (Qx := Qx) h fun ch w' hs' hq' => hq ch a w' hd (hs.trans hs') hq'))
        rintro a' w' ⟨v, rfl, hs', hr⟩
        exact ih (fun j hj => hb j (List.mem_cons_of_mem _ hj)) (ha.put o.dst v hbo) (by rw [Act.put_defers']; exact hd) (hs.trans hs') hk hq hr
      · rw [if_neg hw] at h ⊢
        exact ih (fun j hj => hb j (List.mem_cons_of_mem _ hj)) (ha.put o.dst undef hbo) (by rw [Act.put_defers']; exact hd) hs hk hq h
end
end Go.Den
