/- What functions of this seat do, each proved by a walk; no condition. -/
import Derived.Test.YtpjnmdeeoafclaaKE
set_option linter.unusedVariables false
namespace Go.Proofs.Ytpjnmdeeoafclaa
open Go Go.Den Go.Proofs
/-! A generation from behind. -/
/-- The last one of the first k revisions whose main number is at most a number. -/
def wkO (t : Int) (rs : List Rv) : Nat → Option Nat
  | 0 => none
  | k + 1 => match rs[k]? with
    | none => none
    | some x => if x.1 ≤ t then some k else wkO t rs k
def wkI : Option Nat → Int
  | none => -1
  | some k => (k : Int)
def wkP (A : HP) (B : Rv → HP) (rs : List Rv) : Option Nat → HP
  | none => A
  | some k => B (rs.getD k (0, 0))
theorem walk_loop {A : HP} {B : Rv → HP} {t : Int} {g : Addr} {l : List HP} {p : Option Addr} {n c : Nat} {rs : List Rv} {f : FuncId} {cap : List Value} (hn : n < 100000)
    (F : SlAt p l (sl rvC 60 2 p n c rs)) (hl : rs.length = n) (hg : ∀ H, Sat H (A :: l) → hcell H (Addr.add g 3) = some (.slice p n c)) (hfn : fnOk Try.prog f = true)
    (hf : ∀ (x : Rv) H, Sat H (A :: l) → CallsH Try.prog f ⟨[] ++ [.agg ⟨[.int .i64 x.1, .int .i64 x.2]⟩] ++ cap⟩ H (fun e H1 => if x.1 ≤ t then e = .returned (.bool false) ∧ Sat H1 (B x :: l) else e = .returned (.bool true) ∧ Sat H1 (A :: l))) :
    ∀ (k : Nat) (s : Int) (H : Heap), k ≤ n → s = ((n - k : Nat) : Int) → Sat H (A :: l) →
    F53.L0 (some g) (FV.mk (.func f) ⟨[]⟩ ⟨cap⟩) (n : Int) (n : Int) s H (fun e H1 => e = .returned (.int .i64 (wkI (wkO t rs k))) ∧ Sat H1 (wkP A B rs (wkO t rs k) :: l)) := by
  intro k
  induction k with
  | zero =>
    intro s H hk hs S
    refine F53.L0_step ?_
    unfold F53.L0n
    refine iteB_f (by rw [decide_eq_false_iff_not]; omega) ?_
    exact ⟨rfl, S⟩
  | succ k ih =>
    intro s H hk hs S
    refine F53.L0_step ?_
    unfold F53.L0n
    refine iteB_t (by rw [decide_eq_true_iff]; omega) ?_
    have w0 : IntKind.wrap .i64 ((n : Int) - s) = (n : Int) - s := wr (by omega) (by omega)
    have w1 : IntKind.wrap .i64 (((n : Int) - s) - 1) = (k : Int) := by rw [wr (by omega) (by omega)]; omega
    have w2 : IntKind.wrap .i64 (s + 1) = ((n - k : Nat) : Int) := by rw [wr (by omega) (by omega)]; omega
    obtain ⟨x, hx⟩ := get_of (l := rs) (i := k) (by omega)
    have A1 : HasI rs (k : Int) x := ⟨by simpa using hx⟩
    have ew : wkO t rs (k + 1) = if x.1 ≤ t then some k else wkO t rs k := by
      show (match rs[k]? with | none => _ | some x => _) = _
      rw [hx]
    refine nilD_i ?_
    refine ⟨p, n, c, hg H S, ?_⟩
    rw [w0, w1, w2]
    refine S.idx ⟨by omega, by omega, ?_⟩
    rintro r o rfl
    refine Step.go ?_
    refine Step.go ?_
    refine callV_i hfn ?_
    refine call_of (hf x H S) ?_
    intro e H1 h
    rw [ew]
    by_cases hx2 : x.1 ≤ t
    · rw [if_pos hx2] at h ⊢
      obtain ⟨rfl, S1⟩ := h
      (repeat (first | (refine Step.go ?_; intros) | refine iteB_t (by decide) ?_ | refine iteB_f (by decide) ?_ | (refine Duo.mk (by first | omega | exact rfl | decide) ?_; intros) | (refine Duo.mk (Clo.mk (by kernel_rfl)) ?_; intros)))
      refine ⟨rfl, ?_⟩
      show Sat H1 (B (rs.getD k (0, 0)) :: l)
      rw [List.getD_eq_getElem?_getD, hx]
      exact S1
    · rw [if_neg hx2] at h ⊢
      obtain ⟨rfl, S1⟩ := h
      (repeat (first | (refine Step.go ?_; intros) | refine iteB_t (by decide) ?_ | refine iteB_f (by decide) ?_ | (refine Duo.mk (by first | omega | exact rfl | decide) ?_; intros) | (refine Duo.mk (Clo.mk (by kernel_rfl)) ?_; intros)))
      exact ih _ H1 (by omega) rfl S1
theorem walk_ok {A : HP} {B : Rv → HP} {t : Int} {g : Addr} {l : List HP} {p : Option Addr} {n c : Nat} {rs : List Rv} {f : FuncId} {cap : List Value} {H : Heap} (hn : n < 100000)
    (F : SlAt p l (sl rvC 60 2 p n c rs)) (hl : rs.length = n) (hg : ∀ H, Sat H (A :: l) → hcell H (Addr.add g 3) = some (.slice p n c)) (hfn : fnOk Try.prog f = true)
    (hf : ∀ (x : Rv) H, Sat H (A :: l) → CallsH Try.prog f ⟨[] ++ [.agg ⟨[.int .i64 x.1, .int .i64 x.2]⟩] ++ cap⟩ H (fun e H1 => if x.1 ≤ t then e = .returned (.bool false) ∧ Sat H1 (B x :: l) else e = .returned (.bool true) ∧ Sat H1 (A :: l)))
    (S : Sat H (A :: l)) : CallsH Try.prog 53 ⟨[.pointer (some g), .func (.func f) ⟨[]⟩ ⟨cap⟩]⟩ H (fun e H1 => e = .returned (.int .i64 (wkI (wkO t rs rs.length))) ∧ Sat H1 (wkP A B rs (wkO t rs rs.length) :: l)) := by
  refine F53.calls (f := FV.mk (.func f) ⟨[]⟩ ⟨cap⟩) ?_
  unfold F53.go
  refine nilD_i ?_
  refine ⟨p, n, c, hg H S, ?_⟩
  refine nilD_i ?_
  refine ⟨p, n, c, hg H S, ?_⟩
  rw [hl]
  exact walk_loop hn F hl hg hfn hf n 0 H (Nat.le_refl _) (by simp) S
theorem above_ok {x : Rv} {t : Int} {a : Nat} {l : List HP} {H : Heap} (S : Sat H (pt a (.cells ⟨[.int .i64 t]⟩ 2) :: l)) : CallsH Try.prog 70 ⟨[] ++ [.agg ⟨[.int .i64 x.1, .int .i64 x.2]⟩] ++ [.pointer (some ⟨a, 0, none⟩)]⟩ H
    (fun e H1 => if x.1 ≤ t then e = .returned (.bool false) ∧ Sat H1 (pt a (.cells ⟨[.int .i64 t]⟩ 2) :: l) else e = .returned (.bool true) ∧ Sat H1 (pt a (.cells ⟨[.int .i64 t]⟩ 2) :: l)) := by
  refine F70.calls ?_
  unfold F70.go
  (repeat (first | (refine Step.go ?_; intros) | refine iteB_t (by decide) ?_ | refine iteB_f (by decide) ?_ | (refine Duo.mk (by first | omega | exact rfl | decide) ?_; intros) | (refine Duo.mk (Clo.mk (by kernel_rfl)) ?_; intros)))
  rename_i S1
  by_cases h : x.1 ≤ t
  · refine (if_pos h).mpr ⟨?_, S1.to (Ent.drop .refl)⟩
    rw [show decide (x.1 > t) = false by rw [decide_eq_false_iff_not]; omega]
  · refine (if_neg h).mpr ⟨?_, S1.to (Ent.drop .refl)⟩
    rw [show decide (x.1 > t) = true by rw [decide_eq_true_iff]; omega]
end Go.Proofs.Ytpjnmdeeoafclaa
