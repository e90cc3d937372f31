/- What functions of this seat do, each proved by a walk; no condition. -/
import Derived.Test.YtjdaencapbjmdaaSC
set_option linter.unusedVariables false
set_option linter.unusedSimpArgs false
set_option linter.unnecessarySimpa false
namespace Go.Proofs.Ytjdaencapbjmdaa
open Go Go.Den Go.Proofs
/-! What meets, and what stands ahead. -/
def meetS (o : Int) (s t : SP) : Bool := ltE o s.B t.E && ltE o t.B s.E
def aheadS (o : Int) (s t : SP) : Bool := ltE o s.B t.B || (!ltE o t.B s.B && ltE o s.E t.E)
theorem cmpE_neg {o : Int} {x y : EN} : decide (cmpE o x y < 0) = ltE o x y := by
  unfold cmpE
  cases h : ltE o x y with
  | true => simp
  | false => simp only [Bool.false_eq_true, if_false]; split <;> simp
theorem cmpE_zero {o : Int} {x y : EN} : (cmpE o x y == 0) = (!ltE o x y && !ltE o y x) := by
  unfold cmpE
  cases h : ltE o x y with
  | true => simp
  | false => simp only [Bool.false_eq_true, if_false]; cases h2 : ltE o y x <;> simp
section
variable {H0 H : Heap} {o : Int} {s t : SP} {a b : Nat}
theorem meet_l0 (h1 : H[a]? = some (.cells ⟨(plainS s).cells⟩ 25)) (h2 : H[b]? = some (.cells ⟨(plainS t).cells⟩ 25)) (E : ExtH H0 H) : F8.L0 o a b H (Gives (.bool (meetS o s t)) H0) := by
  have S := Sat.start H
  have A1 := atOld h1
  have A2 := atOld h2
  refine F8.L0_step ?_
  unfold F8.L0n
  unfold meetS
  (repeat (first | (refine Step.go ?_; intros) | refine iteB_t (by decide) ?_ | refine iteB_f (by decide) ?_ | (refine Duo.mk (by first | omega | exact rfl | decide) ?_; intros) | (refine Duo.mk (Clo.mk (by kernel_rfl)) ?_; intros)))
  refine gives_i S (ends_ok o _ _ _ _) ?_
  intro H1 E1 S1
  (repeat (first | (refine Step.go ?_; intros) | refine iteB_t (by decide) ?_ | refine iteB_f (by decide) ?_ | (refine Duo.mk (by first | omega | exact rfl | decide) ?_; intros) | (refine Duo.mk (Clo.mk (by kernel_rfl)) ?_; intros)))
  rw [cmpE_neg]
  refine iteB_i (fun h => ?_) (fun h => ?_)
  · have h : ltE o s.B t.E = true := h
    rw [h]
    (repeat (first | (refine Step.go ?_; intros) | refine iteB_t (by decide) ?_ | refine iteB_f (by decide) ?_ | (refine Duo.mk (by first | omega | exact rfl | decide) ?_; intros) | (refine Duo.mk (Clo.mk (by kernel_rfl)) ?_; intros)))
    refine gives_i S1 (ends_ok o _ _ _ _) ?_
    intro H2 E2 S2
    (repeat (first | (refine Step.go ?_; intros) | refine iteB_t (by decide) ?_ | refine iteB_f (by decide) ?_ | (refine Duo.mk (by first | omega | exact rfl | decide) ?_; intros) | (refine Duo.mk (Clo.mk (by kernel_rfl)) ?_; intros)))
    rw [cmpE_neg]
    exact ⟨rfl, (E.trans E1).trans E2⟩
  · have h : ltE o s.B t.E = false := h
    rw [h]
    exact ⟨rfl, E.trans E1⟩
theorem ahead_l0 (h1 : H[a]? = some (.cells ⟨(plainS s).cells⟩ 25)) (h2 : H[b]? = some (.cells ⟨(plainS t).cells⟩ 25)) (E : ExtH H0 H) : F9.L0 o a b H (Gives (.bool (aheadS o s t)) H0) := by
  have S := Sat.start H
  have A1 := atOld h1
  have A2 := atOld h2
  refine F9.L0_step ?_
  unfold F9.L0n
  unfold aheadS
  (repeat (first | (refine Step.go ?_; intros) | refine iteB_t (by decide) ?_ | refine iteB_f (by decide) ?_ | (refine Duo.mk (by first | omega | exact rfl | decide) ?_; intros) | (refine Duo.mk (Clo.mk (by kernel_rfl)) ?_; intros)))
  refine gives_i S (ends_ok o _ _ _ _) ?_
  intro H1 E1 S1
  (repeat (first | (refine Step.go ?_; intros) | refine iteB_t (by decide) ?_ | refine iteB_f (by decide) ?_ | (refine Duo.mk (by first | omega | exact rfl | decide) ?_; intros) | (refine Duo.mk (Clo.mk (by kernel_rfl)) ?_; intros)))
  rw [cmpE_neg, cmpE_zero]
  refine iteB_i (fun h => ?_) (fun h => ?_)
  · have h : ltE o s.B t.B = true := h
    rw [h]
    exact ⟨rfl, E.trans E1⟩
  · have h : ltE o s.B t.B = false := h
    rw [h]
    refine iteB_i (fun h2 => ?_) (fun h2 => ?_)
    · have h2 : (!ltE o s.B t.B && !ltE o t.B s.B) = true := h2
      rw [h] at h2
      have h3 : (!ltE o t.B s.B) = true := by simpa using h2
      rw [h3]
      (repeat (first | (refine Step.go ?_; intros) | refine iteB_t (by decide) ?_ | refine iteB_f (by decide) ?_ | (refine Duo.mk (by first | omega | exact rfl | decide) ?_; intros) | (refine Duo.mk (Clo.mk (by kernel_rfl)) ?_; intros)))
      refine gives_i S1 (ends_ok o _ _ _ _) ?_
      intro H2 E2 S2
      (repeat (first | (refine Step.go ?_; intros) | refine iteB_t (by decide) ?_ | refine iteB_f (by decide) ?_ | (refine Duo.mk (by first | omega | exact rfl | decide) ?_; intros) | (refine Duo.mk (Clo.mk (by kernel_rfl)) ?_; intros)))
      rw [cmpE_neg]
      exact ⟨rfl, (E.trans E1).trans E2⟩
    · have h2 : (!ltE o s.B t.B && !ltE o t.B s.B) = false := h2
      rw [h] at h2
      have h3 : (!ltE o t.B s.B) = false := by simpa using h2
      rw [h3]
      exact ⟨rfl, E.trans E1⟩
theorem meet_ok (z1 : s.b.size ≤ 2147483647) (z2 : t.b.size ≤ 2147483647) : CallsH Try.prog 8 ⟨[.int .i64 o, .agg ⟨s.cells⟩, .agg ⟨t.cells⟩]⟩ H (Gives (.bool (meetS o s t)) H) := by
  have S := Sat.start H
  refine F8.calls ?_
  unfold F8.go
  (repeat (first | (refine Step.go ?_; intros) | refine iteB_t (by decide) ?_ | refine iteB_f (by decide) ?_ | (refine Duo.mk (by first | omega | exact rfl | decide) ?_; intros) | (refine Duo.mk (Clo.mk (by kernel_rfl)) ?_; intros)))
  refine ⟨?_, ?_, ?_, ?_, ?_, ?_, ?_, ?_, ?_, ?_, ?_, ?_⟩
  all_goals
    ((repeat (first | (refine Step.go ?_; intros) | refine iteB_t (by decide) ?_ | refine iteB_f (by decide) ?_ | (refine Duo.mk (by first | omega | exact rfl | decide) ?_; intros) | (refine Duo.mk (Clo.mk (by kernel_rfl)) ?_; intros)))
     refine gives_i (by assumption) (plain_ok (by assumption)) ?_
     intro _ _ _
     (repeat (first | (refine Step.go ?_; intros) | refine iteB_t (by decide) ?_ | refine iteB_f (by decide) ?_ | (refine Duo.mk (by first | omega | exact rfl | decide) ?_; intros) | (refine Duo.mk (Clo.mk (by kernel_rfl)) ?_; intros)))
     refine gives_i (by assumption) (plain_ok (by assumption)) ?_
     intro _ _ _
     (repeat (first | (refine Step.go ?_; intros) | refine iteB_t (by decide) ?_ | refine iteB_f (by decide) ?_ | (refine Duo.mk (by first | omega | exact rfl | decide) ?_; intros) | (refine Duo.mk (Clo.mk (by kernel_rfl)) ?_; intros)))
     have S9 := ‹Sat _ _›
     exact meet_l0 (s := s) (t := t) S9.obj S9.obj Sat.grown)
theorem ahead_ok (z1 : s.b.size ≤ 2147483647) (z2 : t.b.size ≤ 2147483647) : CallsH Try.prog 9 ⟨[.int .i64 o, .agg ⟨s.cells⟩, .agg ⟨t.cells⟩]⟩ H (Gives (.bool (aheadS o s t)) H) := by
  have S := Sat.start H
  refine F9.calls ?_
  unfold F9.go
  (repeat (first | (refine Step.go ?_; intros) | refine iteB_t (by decide) ?_ | refine iteB_f (by decide) ?_ | (refine Duo.mk (by first | omega | exact rfl | decide) ?_; intros) | (refine Duo.mk (Clo.mk (by kernel_rfl)) ?_; intros)))
  refine ⟨?_, ?_, ?_, ?_, ?_, ?_, ?_, ?_, ?_, ?_, ?_, ?_⟩
  all_goals
    ((repeat (first | (refine Step.go ?_; intros) | refine iteB_t (by decide) ?_ | refine iteB_f (by decide) ?_ | (refine Duo.mk (by first | omega | exact rfl | decide) ?_; intros) | (refine Duo.mk (Clo.mk (by kernel_rfl)) ?_; intros)))
     refine gives_i (by assumption) (plain_ok (by assumption)) ?_
     intro _ _ _
     (repeat (first | (refine Step.go ?_; intros) | refine iteB_t (by decide) ?_ | refine iteB_f (by decide) ?_ | (refine Duo.mk (by first | omega | exact rfl | decide) ?_; intros) | (refine Duo.mk (Clo.mk (by kernel_rfl)) ?_; intros)))
     refine gives_i (by assumption) (plain_ok (by assumption)) ?_
     intro _ _ _
     (repeat (first | (refine Step.go ?_; intros) | refine iteB_t (by decide) ?_ | refine iteB_f (by decide) ?_ | (refine Duo.mk (by first | omega | exact rfl | decide) ?_; intros) | (refine Duo.mk (Clo.mk (by kernel_rfl)) ?_; intros)))
     have S9 := ‹Sat _ _›
     exact ahead_l0 (s := s) (t := t) S9.obj S9.obj Sat.grown)
end
/-! The law itself. -/
theorem spans_law {o : Int} {s t : SP} (hs : ltE o s.B s.E = true) (ht : ltE o t.B t.E = true) :
    (if cmpE o s.B t.B < 0 ∧ cmpE o s.E t.B ≤ 0 then (-1 : Int) else if 0 ≤ cmpE o s.B t.E then 1 else 0) = (if meetS o s t then 0 else if aheadS o s t then -1 else 1) := by
  have c1 : cmpE o s.B t.B < 0 ↔ ltE o s.B t.B = true := by rw [← cmpE_neg, decide_eq_true_iff]
  have c2 : cmpE o s.E t.B ≤ 0 ↔ ltE o t.B s.E = false := by
    unfold cmpE
    constructor
    · intro h
      cases h2 : ltE o s.E t.B with
      | true => exact ltE_asymm h2
      | false =>
        rw [h2] at h
        cases h3 : ltE o t.B s.E with
        | true => rw [h3] at h; simp at h
        | false => rfl
    · intro h
      rw [h]
      split <;> simp
  have c3 : 0 ≤ cmpE o s.B t.E ↔ ltE o s.B t.E = false := by
    have : cmpE o s.B t.E < 0 ↔ ltE o s.B t.E = true := by rw [← cmpE_neg, decide_eq_true_iff]
    constructor
    · intro h
      cases h2 : ltE o s.B t.E with
      | true => have := this.2 h2; omega
      | false => rfl
    · intro h
      have h3 : ¬ cmpE o s.B t.E < 0 := by rw [this, h]; simp
      omega
  simp only [c1, c2, c3]
  unfold meetS aheadS
  cases h1 : ltE o t.B s.E with
  | false =>
    have h2 : ltE o s.B t.B = true := ltE_trans hs h1
    simp [h2]
  | true =>
    cases h2 : ltE o s.B t.E with
    | true => simp
    | false =>
      have h3 : ltE o t.B s.B = true := ltE_trans ht h2
      have h4 := ltE_asymm h3
      simp [h3, h4]
end Go.Proofs.Ytjdaencapbjmdaa
