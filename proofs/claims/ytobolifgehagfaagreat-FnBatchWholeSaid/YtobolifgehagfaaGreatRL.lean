/- What functions of this seat do, each proved by a walk; no condition. -/
import Derived.Test.YtobolifgehagfaaGreatRG
import Derived.Test.YtobolifgehagfaaGreatRK
set_option linter.unusedVariables false
set_option linter.unusedSimpArgs false
set_option linter.unnecessarySimpa false
namespace Go.Proofs.YtobolifgehagfaaGreat
open Go Go.Den Go.Proofs
/-! FnBatchWhole. -/
section
variable {H H0 : Heap} {l : List HP}
theorem live_end (E : ExtH H0 H) : callD Tryz.prog 9 [] H (panK (Gives (.bool true) H0)) fun v H2 => tBool v fun b => Gives (.bool true) H0 (.returned (.bool b)) H2 := by
  refine gives_i (Sat.start H) live_ok fun H2 E2 S2 => ?_
  refine tBool_i ?_
  exact ⟨rfl, E.trans E2⟩
theorem batchWhole_ok {xs : List EV} {p : Option Addr} {n c : Nat} (hR : RowsAt EV.cells 7 H0 p xs) (hn : xs.length = n) (hc : n ≤ c) : CallsH Tryz.prog 5 ⟨[.slice p n c]⟩ H0 (Gives (.bool true) H0) := by
  refine F5.calls ?_
  unfold F5.go
  refine callD_i (fit18 hR hn) ?_
  rintro _ H1 ⟨E1, b1, rfl, hb1⟩
  (repeat (first | (refine Step.go ?_; intros) | refine iteB_t (by decide) ?_ | refine iteB_f (by decide) ?_ | (refine Duo.mk (by first | omega | exact rfl | decide) ?_; intros) | (refine Duo.mk (Clo.mk (by kernel_rfl)) ?_; intros)))
  refine iteB_i (fun h => ⟨rfl, E1⟩) (fun h => ?_)
  obtain ⟨hnb, hok⟩ := hb1 (by simpa using h)
  have loop : ∀ (k i : Nat) (H : Heap), i + k = n → i ≤ 4000 → ExtH H0 H → F5.L0 p n c p n c (n : Nat) (i : Nat) H (Gives (.bool true) H0) := by
    intro k
    induction k with
    | zero =>
      intro i H hi hle E
      obtain rfl : i = n := by omega
      refine F5.L0_step ?_
      unfold F5.L0n
      refine iteB_f (by simp) ?_
      refine callD_i (Batch_ok (hR.ext E) hn (by omega) hok) ?_
      rintro _ H2 ⟨q, qc, ps, hps, rfl, E2, S2⟩
      obtain ⟨N, hN, hle2, hevs, hfull, hpart⟩ := batch_law hps
      rw [← hN] at S2 ⊢
      rw [hevs] at S2
      generalize hmo : (runB ps).more = mo at hfull hpart S2 ⊢
      generalize (runB ps).revs = rv
      have E02 := E.trans E2
      (repeat (first | (refine Step.go ?_; intros) | refine iteB_t (by decide) ?_ | refine iteB_f (by decide) ?_ | (refine Duo.mk (by first | omega | exact rfl | decide) ?_; intros) | (refine Duo.mk (Clo.mk (by kernel_rfl)) ?_; intros)))
      rename_i r1 _ _ _ _ _ _ _ _ H3 S3
      have E03 : ExtH H0 H3 := E.trans Sat.grown
      refine iteB_f (by simp; omega) ?_
      refine ⟨by omega, by omega, ?_⟩
      (repeat (first | (refine Step.go ?_; intros) | refine iteB_t (by decide) ?_ | refine iteB_f (by decide) ?_ | (refine Duo.mk (by first | omega | exact rfl | decide) ?_; intros) | (refine Duo.mk (Clo.mk (by kernel_rfl)) ?_; intros)))
      rw [slP_zero]
      have hq : RowsAt EV.cells 7 H3 q (xs.take N) := S3.rowsAt (E := 36) (n := N) (k := qc) (by simp)
      refine gives_i S3 (same_ok hq (RowsAt.pre (hR.ext E03) N) (by rw [List.length_take]; omega) (by omega)) fun H4 E4 S4 => ?_
      clear S3 S2
      (repeat (first | (refine Step.go ?_; intros) | refine iteB_t (by decide) ?_ | refine iteB_f (by decide) ?_ | (refine Duo.mk (by first | omega | exact rfl | decide) ?_; intros) | (refine Duo.mk (Clo.mk (by kernel_rfl)) ?_; intros)))
      have E04 := E03.trans E4
      have R4 : RowsC H p EV.cells 7 xs := ⟨hR.ext E⟩
      refine F5.L1_step ?_
      unfold F5.L1n
      refine iteB_i (fun h5 => ?_) (fun h5 => ?_)
      · have hNn : N = xs.length := by have := eq_of_beq h5; omega
        have h0 := hfull (by omega)
        (repeat (first | (refine Step.go ?_; intros) | refine iteB_t (by decide) ?_ | refine iteB_f (by decide) ?_ | (refine Duo.mk (by first | omega | exact rfl | decide) ?_; intros) | (refine Duo.mk (Clo.mk (by kernel_rfl)) ?_; intros)))
        refine iteB_t (by rw [h0]; rfl) ?_
        exact live_end E04
      · have hNn : N < xs.length := by
          have : N ≠ xs.length := by
            intro h6; rw [h6, hn] at h5; simp at h5
          omega
        obtain ⟨hp, x, y, hx, hy, hxy, hmx⟩ := hpart hNn
        have hI1 := HasI.nat hx
        have hI2 := HasI.nat hy
        have eI : IntKind.wrap .i64 (((N : Nat) : Int) - (1 : Int)) = ((N - 1 : Nat) : Int) := by
          rw [wr64 (by omega) (by omega)]; omega
        rw [eI]
        refine iteB_t (by simp; omega) ?_
        refine R4.idx hn ⟨by omega, by omega, ?_⟩
        intro a ha
        subst ha
        (repeat (first | (refine Step.go ?_; intros) | refine iteB_t (by decide) ?_ | refine iteB_f (by decide) ?_ | (refine Duo.mk (by first | omega | exact rfl | decide) ?_; intros) | (refine Duo.mk (Clo.mk (by kernel_rfl)) ?_; intros)))
        refine iteB_t (decide_eq_true hxy) ?_
        (repeat (first | (refine Step.go ?_; intros) | refine iteB_t (by decide) ?_ | refine iteB_f (by decide) ?_ | (refine Duo.mk (by first | omega | exact rfl | decide) ?_; intros) | (refine Duo.mk (Clo.mk (by kernel_rfl)) ?_; intros)))
        refine iteB_t (by rw [hmx]; simp) ?_
        exact live_end E04
    | succ k ih =>
      intro i H hi hle E
      obtain ⟨x, hx⟩ : ∃ x, xs[i]? = some x := get_of (by omega)
      have hI := HasI.nat hx
      have R0 : RowsC H p EV.cells 7 xs := ⟨hR.ext E⟩
      have next : ∀ H', ExtH H0 H' → i < 4000 → F5.L2 p n c p n c (n : Nat) (i : Nat) H' (Gives (.bool true) H0) := by
        intro H' E' hlt
        refine F5.L2_step ?_
        unfold F5.L2n
        rw [wr64 (by omega) (by omega), show ((i : Nat) : Int) + 1 = ((i + 1 : Nat) : Int) by omega]
        exact ih (i + 1) H' (by omega) (by omega) E'
      refine F5.L0_step ?_
      unfold F5.L0n
      refine iteB_t (by simp; omega) ?_
      refine R0.idx hn ⟨by omega, by omega, ?_⟩
      intro a ha
      subst ha
      have S0 := Sat.start H
      (repeat (first | (refine Step.go ?_; intros) | refine iteB_t (by decide) ?_ | refine iteB_f (by decide) ?_ | (refine Duo.mk (by first | omega | exact rfl | decide) ?_; intros) | (refine Duo.mk (Clo.mk (by kernel_rfl)) ?_; intros)))
      rename_i H1 S1
      have E1 : ExtH H H1 := Sat.grown
      clear S0
      have E01 := E.trans E1
      refine iteB_i (fun h => live_end E01) (fun h => ?_)
      have hlt : i < 4000 := by have := of_decide_eq_false h; omega
      refine iteB_i (fun h1 => ?_) (fun h1 => next H1 E01 hlt)
      have h1 := of_decide_eq_true h1
      obtain ⟨y, hy⟩ : ∃ y, xs[i - 1]? = some y := get_of (by omega)
      have hI2 := HasI.nat hy
      have eI : IntKind.wrap .i64 (((i : Nat) : Int) - (1 : Int)) = ((i - 1 : Nat) : Int) := by
        rw [wr64 (by omega) (by omega)]; omega
      rw [eI]
      (repeat (first | (refine Step.go ?_; intros) | refine iteB_t (by decide) ?_ | refine iteB_f (by decide) ?_ | (refine Duo.mk (by first | omega | exact rfl | decide) ?_; intros) | (refine Duo.mk (Clo.mk (by kernel_rfl)) ?_; intros)))
      refine iteB_i (fun h => live_end E01) (fun h => next H1 E01 hlt)
  exact loop n 0 H1 (by omega) (by omega) E1
end
end Go.Proofs.YtobolifgehagfaaGreat
