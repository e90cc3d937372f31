/- What functions of this seat do, each proved by a walk; no condition. -/
import Derived.Test.YtkenjnllegbmjaaQG
set_option linter.unusedVariables false
namespace Go.Proofs.Ytkenjnllegbmjaa
open Go Go.Den Go.Proofs
abbrev timeV (t : Int) : Value := .agg ⟨[.int .i64 (t / G9), .int .i64 (t % G9), .bool true]⟩
theorem add_ok (t : Int) (h0 : 0 ≤ t) (h1 : t ≤ 1152921504606846976) (H : Heap) : CallsH Try.prog 19 ⟨[.agg ⟨[.int .i64 0, .int .i64 0, .bool true]⟩, .int .i64 t]⟩ H (Gives (timeV t) H) := by
  refine F19.calls ?_
  unfold F19.go
  have S := Sat.start H
  have e1 : IntKind.wrap .i64 (0 + IntKind.wrap .i64 (Int.tdiv t 1000000000)) = t / G9 := by
    rw [Int.tdiv_eq_ediv_of_nonneg h0, wr (i := t / 1000000000) (by omega) (by omega), wr (by omega) (by omega)]; simp [G9]
  have e2 : IntKind.wrap .i64 (0 + Int.tmod t 1000000000) = t % G9 := by
    rw [Int.tmod_eq_emod_of_nonneg h0, wr (by omega) (by omega)]; simp [G9]
  have hm : 0 ≤ t % G9 ∧ t % G9 < G9 := by unfold G9; omega
  (repeat (first | (refine Step.go ?_; intros) | refine iteB_t (by decide) ?_ | refine iteB_f (by decide) ?_ | (refine Duo.mk (by first | omega | exact rfl | decide) ?_; intros) | (refine Duo.mk (Clo.mk (by kernel_rfl)) ?_; intros)))
  simp only [e1, e2] at *
  refine iteB_f (by simp; exact hm.2) ?_
  refine F19.L0_step ?_
  unfold F19.L0n
  (repeat (first | (refine Step.go ?_; intros) | refine iteB_t (by decide) ?_ | refine iteB_f (by decide) ?_ | (refine Duo.mk (by first | omega | exact rfl | decide) ?_; intros) | (refine Duo.mk (Clo.mk (by kernel_rfl)) ?_; intros)))
  refine iteB_f (by simp; exact hm.1) ?_
  (repeat (first | (refine Step.go ?_; intros) | refine iteB_t (by decide) ?_ | refine iteB_f (by decide) ?_ | (refine Duo.mk (by first | omega | exact rfl | decide) ?_; intros) | (refine Duo.mk (Clo.mk (by kernel_rfl)) ?_; intros)))
  exact ⟨rfl, Sat.grown⟩
theorem at_ok (t : Int) (h0 : 0 ≤ t) (h1 : t ≤ 1152921504606846976) (H : Heap) : CallsH Try.prog 10 ⟨[.int .i64 t]⟩ H (Gives (timeV t) H) := by
  refine F10.calls ?_
  unfold F10.go
  have S := Sat.start H
  (repeat (first | (refine Step.go ?_; intros) | refine iteB_t (by decide) ?_ | refine iteB_f (by decide) ?_ | (refine Duo.mk (by first | omega | exact rfl | decide) ?_; intros) | (refine Duo.mk (Clo.mk (by kernel_rfl)) ?_; intros)))
  refine gives_i ‹_› (add_ok t h0 h1 _) ?_
  intro H1 _ S1
  (repeat (first | (refine Step.go ?_; intros) | refine iteB_t (by decide) ?_ | refine iteB_f (by decide) ?_ | (refine Duo.mk (by first | omega | exact rfl | decide) ?_; intros) | (refine Duo.mk (Clo.mk (by kernel_rfl)) ?_; intros)))
  exact ⟨rfl, Sat.grown⟩
theorem nanos_ok (t : Int) (h0 : 0 ≤ t) (h1 : t ≤ 1152921504606846976) (H : Heap) : CallsH Try.prog 13 ⟨[timeV t]⟩ H (Gives (.int .i64 t) H) := by
  refine F13.calls ?_
  unfold F13.go
  have S := Sat.start H
  (repeat (first | (refine Step.go ?_; intros) | refine iteB_t (by decide) ?_ | refine iteB_f (by decide) ?_ | (refine Duo.mk (by first | omega | exact rfl | decide) ?_; intros) | (refine Duo.mk (Clo.mk (by kernel_rfl)) ?_; intros)))
  refine ⟨?_, Sat.grown⟩
  rw [wr (i := t / G9 * 1000000000) (by unfold G9; omega) (by unfold G9; omega), wr (by unfold G9; omega) (by unfold G9; omega)]
  congr 2
  unfold G9; omega
theorem item_ok (id t : Int) (H : Heap) (l : List HP) (S : Sat H l) : CallsH Try.prog 9 ⟨[.int .i64 id, timeV t]⟩ H (fun e H1 => ∃ b, e = .returned (.pointer (some ⟨b, 0, none⟩)) ∧ Sat H1 (itB ⟨b, id, t⟩ 0 :: l)) := by
  refine F9.calls ?_
  unfold F9.go
  (repeat (first | (refine Step.go ?_; intros) | refine iteB_t (by decide) ?_ | refine iteB_f (by decide) ?_ | (refine Duo.mk (by first | omega | exact rfl | decide) ?_; intros) | (refine Duo.mk (Clo.mk (by kernel_rfl)) ?_; intros)))
  exact ⟨_, rfl, Sat.fin⟩
theorem of_ok (x : It) (i : Int) (H : Heap) (hx : H[x.b]? = some (.cells ⟨itemCells x i⟩ 52)) : CallsH Try.prog 12 ⟨[.pointer (some ⟨x.b, 0, none⟩)]⟩ H (Gives (.tuple ⟨[.int .i64 x.id, timeV x.t]⟩) H) := by
  refine F12.calls ?_
  unfold F12.go
  have S := Sat.start H
  have A : At x.b (.cells ⟨itemCells x i⟩ 52) [old H] := ⟨fun k hk => by obtain ⟨g, h1, h2, _⟩ := hk; exact h2 _ _ (h1 _ _ hx)⟩
  (repeat (first | (refine Step.go ?_; intros) | refine iteB_t (by decide) ?_ | refine iteB_f (by decide) ?_ | (refine Duo.mk (by first | omega | exact rfl | decide) ?_; intros) | (refine Duo.mk (Clo.mk (by kernel_rfl)) ?_; intros)))
  exact ⟨rfl, Sat.grown⟩
end Go.Proofs.Ytkenjnllegbmjaa
