/- What functions of this seat do, each proved by a walk; no condition. -/
import Derived.Test.YtjdaencapbjmdaaSI
set_option linter.unusedVariables false
set_option linter.unusedSimpArgs false
set_option linter.unnecessarySimpa false
namespace Go.Proofs.Ytjdaencapbjmdaa
open Go Go.Den Go.Proofs
/-! FnSpans. -/
theorem live_end {H H1 : Heap} {l : List HP} (E : ExtH H H1) (S : Sat H1 l) : callD Try.prog 6 [] H1 (panK (Gives (.bool true) H)) fun v H2 => tBool v fun b => Gives (.bool true) H (.returned (.bool b)) H2 := by
  refine gives_i S trLive_ok ?_
  intro H2 E2 S2
  (repeat (first | (refine Step.go ?_; intros) | refine iteB_t (by decide) ?_ | refine iteB_f (by decide) ?_ | (refine Duo.mk (by first | omega | exact rfl | decide) ?_; intros) | (refine Duo.mk (Clo.mk (by kernel_rfl)) ?_; intros)))
  exact ⟨rfl, E.trans E2⟩
theorem spans_ok {H : Heap} {o : Int} (s t : SP) : CallsH Try.prog 3 ⟨[.int .i64 o, .agg ⟨s.cells⟩, .agg ⟨t.cells⟩]⟩ H (Gives (.bool true) H) := by
  have S := Sat.start H
  refine F3.calls ?_
  unfold F3.go
  (repeat (first | (refine Step.go ?_; intros) | refine iteB_t (by decide) ?_ | refine iteB_f (by decide) ?_ | (refine Duo.mk (by first | omega | exact rfl | decide) ?_; intros) | (refine Duo.mk (Clo.mk (by kernel_rfl)) ?_; intros)))
  rename_i r H1 S1 r1 H2 S2
  have E2 : ExtH H H2 := Sat.grown
  refine callD_i (fit36 s) ?_
  rintro e H3 ⟨E3, b1, rfl, hb1⟩
  have S3 := Sat.later S2 E3
  (repeat (first | (refine Step.go ?_; intros) | refine iteB_t (by decide) ?_ | refine iteB_f (by decide) ?_ | (refine Duo.mk (by first | omega | exact rfl | decide) ?_; intros) | (refine Duo.mk (Clo.mk (by kernel_rfl)) ?_; intros)))
  refine iteB_i (fun h => ⟨rfl, E2.trans E3⟩) (fun h => ?_)
  have hz := hb1 (by simpa using h)
  (repeat (first | (refine Step.go ?_; intros) | refine iteB_t (by decide) ?_ | refine iteB_f (by decide) ?_ | (refine Duo.mk (by first | omega | exact rfl | decide) ?_; intros) | (refine Duo.mk (Clo.mk (by kernel_rfl)) ?_; intros)))
  refine callD_i (fit36 t) ?_
  rintro e H4 ⟨E4, b2, rfl, hb2⟩
  have S4 := Sat.later S3 E4
  have E24 := (E2.trans E3).trans E4
  (repeat (first | (refine Step.go ?_; intros) | refine iteB_t (by decide) ?_ | refine iteB_f (by decide) ?_ | (refine Duo.mk (by first | omega | exact rfl | decide) ?_; intros) | (refine Duo.mk (Clo.mk (by kernel_rfl)) ?_; intros)))
  refine iteB_i (fun h => ⟨rfl, E24⟩) (fun h => ?_)
  have hz2 := hb2 (by simpa using h)
  refine F3.L0_step ?_
  unfold F3.L0n
  refine iteB_i (fun h => live_end E24 S4) (fun g1 => ?_)
  have g1 := of_decide_eq_false g1
  refine iteB_i (fun h => live_end E24 S4) (fun g2 => ?_)
  have g2 := of_decide_eq_false g2
  have ho : 0 ≤ o ∧ o ≤ 3 := by omega
  (repeat (first | (refine Step.go ?_; intros) | refine iteB_t (by decide) ?_ | refine iteB_f (by decide) ?_ | (refine Duo.mk (by first | omega | exact rfl | decide) ?_; intros) | (refine Duo.mk (Clo.mk (by kernel_rfl)) ?_; intros)))
  refine callD_i (trProper_ok s hz) ?_
  rintro e H5 ⟨E5, b3, rfl, hb3⟩
  have S5 := Sat.later S4 E5
  have E25 := E24.trans E5
  (repeat (first | (refine Step.go ?_; intros) | refine iteB_t (by decide) ?_ | refine iteB_f (by decide) ?_ | (refine Duo.mk (by first | omega | exact rfl | decide) ?_; intros) | (refine Duo.mk (Clo.mk (by kernel_rfl)) ?_; intros)))
  refine iteB_i (fun h => live_end E25 S5) (fun h => ?_)
  obtain ⟨p1, n1⟩ := hb3 (by simpa using h)
  (repeat (first | (refine Step.go ?_; intros) | refine iteB_t (by decide) ?_ | refine iteB_f (by decide) ?_ | (refine Duo.mk (by first | omega | exact rfl | decide) ?_; intros) | (refine Duo.mk (Clo.mk (by kernel_rfl)) ?_; intros)))
  refine callD_i (trProper_ok t hz2) ?_
  rintro e H6 ⟨E6, b4, rfl, hb4⟩
  have S6 := Sat.later S5 E6
  have E26 := E25.trans E6
  (repeat (first | (refine Step.go ?_; intros) | refine iteB_t (by decide) ?_ | refine iteB_f (by decide) ?_ | (refine Duo.mk (by first | omega | exact rfl | decide) ?_; intros) | (refine Duo.mk (Clo.mk (by kernel_rfl)) ?_; intros)))
  refine iteB_i (fun h => live_end E26 S6) (fun h => ?_)
  obtain ⟨p2, n2⟩ := hb4 (by simpa using h)
  refine F3.L1_step ?_
  unfold F3.L1n
  (repeat (first | (refine Step.go ?_; intros) | refine iteB_t (by decide) ?_ | refine iteB_f (by decide) ?_ | (refine Duo.mk (by first | omega | exact rfl | decide) ?_; intros) | (refine Duo.mk (Clo.mk (by kernel_rfl)) ?_; intros)))
  refine gives_i S6 (compareSpans_ok (s := s) (t := t) ho hz hz2 n1 n2 p1 p2) ?_
  intro H7 E7 S7
  (repeat (first | (refine Step.go ?_; intros) | refine iteB_t (by decide) ?_ | refine iteB_f (by decide) ?_ | (refine Duo.mk (by first | omega | exact rfl | decide) ?_; intros) | (refine Duo.mk (Clo.mk (by kernel_rfl)) ?_; intros)))
  refine gives_i S7 (meet_ok (s := s) (t := t) hz.1 hz2.1) ?_
  intro H8 E8 S8
  have E28 := (E26.trans E7).trans E8
  (repeat (first | (refine Step.go ?_; intros) | refine iteB_t (by decide) ?_ | refine iteB_f (by decide) ?_ | (refine Duo.mk (by first | omega | exact rfl | decide) ?_; intros) | (refine Duo.mk (Clo.mk (by kernel_rfl)) ?_; intros)))
  refine iteB_i (fun h => ?_) (fun hm => ?_)
  · rw [h]
    refine iteB_t rfl ?_
    exact live_end E28 S8
  rw [hm]
  (repeat (first | (refine Step.go ?_; intros) | refine iteB_t (by decide) ?_ | refine iteB_f (by decide) ?_ | (refine Duo.mk (by first | omega | exact rfl | decide) ?_; intros) | (refine Duo.mk (Clo.mk (by kernel_rfl)) ?_; intros)))
  refine gives_i S8 (ahead_ok (s := s) (t := t) hz.1 hz2.1) ?_
  intro H9 E9 S9
  have E29 := E28.trans E9
  (repeat (first | (refine Step.go ?_; intros) | refine iteB_t (by decide) ?_ | refine iteB_f (by decide) ?_ | (refine Duo.mk (by first | omega | exact rfl | decide) ?_; intros) | (refine Duo.mk (Clo.mk (by kernel_rfl)) ?_; intros)))
  refine iteB_i (fun h => ?_) (fun h => ?_)
  · rw [h]
    refine iteB_t rfl ?_
    exact live_end E29 S9
  · rw [h]
    refine iteB_t rfl ?_
    exact live_end E29 S9
end Go.Proofs.Ytjdaencapbjmdaa
