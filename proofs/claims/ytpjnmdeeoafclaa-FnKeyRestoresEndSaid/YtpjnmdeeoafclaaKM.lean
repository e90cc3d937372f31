/- What functions of this seat do, each proved by a walk; no condition. -/
import Derived.Test.YtpjnmdeeoafclaaKL
import Derived.Test.YtpjnmdeeoafclaaDenL
set_option linter.unusedVariables false
set_option linter.unusedSimpArgs false
namespace Go.Proofs.Ytpjnmdeeoafclaa
open Go Go.Den Go.Proofs
/-! Copies. -/
theorem revIn_ok {r : Rv} {H : Heap} : CallsH Try.prog 34 ⟨[.agg ⟨[.int .i64 r.1, .int .i64 r.2]⟩]⟩ H (Gives (.agg ⟨[.int .i64 r.1, .int .i64 r.2]⟩) H) := by
  refine F34.calls ?_
  unfold F34.go
  have S := Sat.start H
  (repeat (first | (refine Step.go ?_; intros) | refine iteB_t (by decide) ?_ | refine iteB_f (by decide) ?_ | (refine Duo.mk (by first | omega | exact rfl | decide) ?_; intros) | (refine Duo.mk (Clo.mk (by kernel_rfl)) ?_; intros)))
  exact ⟨rfl, Sat.grown⟩
theorem revOut_ok {r : Rv} {H : Heap} : CallsH Try.prog 41 ⟨[.agg ⟨[.int .i64 r.1, .int .i64 r.2]⟩]⟩ H (Gives (.agg ⟨[.int .i64 r.1, .int .i64 r.2]⟩) H) := by
  refine F41.calls ?_
  unfold F41.go
  have S := Sat.start H
  (repeat (first | (refine Step.go ?_; intros) | refine iteB_t (by decide) ?_ | refine iteB_f (by decide) ?_ | (refine Duo.mk (by first | omega | exact rfl | decide) ?_; intros) | (refine Duo.mk (Clo.mk (by kernel_rfl)) ?_; intros)))
  exact ⟨rfl, Sat.grown⟩
theorem take_succ {α : Type} {xs : List α} {i : Nat} {x : α} (h : xs[i]? = some x) : xs.take (i + 1) = xs.take i ++ [x] := by
  rw [List.take_add_one, h]; rfl
section
variable {H0 : Heap} {p : Option Addr} {n c : Nat} {rs : List Rv}
theorem revsIn_loop [R0 : RowsC H0 p rvC 2 rs] (hl : rs.length = n) (hn : n < 1000000) : ∀ (d i : Nat) (Z : Int) (q : Option Addr) (k : Nat) (H : Heap), i + d = n → Z = (i : Int) → Sat H [sl rvC 60 2 q i k (rs.take i), old H0] →
    F26.L0 p n c q i k Z H (fun e H1 => ∃ x : Option Addr × Nat, e = .returned (.slice x.1 n x.2) ∧ Sat H1 ([sl rvC 60 2 x.1 n x.2 rs] ++ [old H0])) := by
  intro d
  induction d with
  | zero =>
    intro i Z q k H hi hZ S
    subst hZ
    refine F26.L0_step ?_
    unfold F26.L0n
    refine iteB_f (by rw [decide_eq_false_iff_not]; omega) ?_
    obtain rfl : i = n := by omega
    rw [List.take_of_length_le (by omega)] at S
    exact ⟨(q, k), rfl, S⟩
  | succ d ih =>
    intro i Z q k H hi hZ S
    subst hZ
    obtain ⟨y, hy⟩ := get_of (l := rs) (i := i) (by omega)
    have A3 : HasI rs (i : Int) y := ⟨by simpa using hy⟩
    have w1 : IntKind.wrap .i64 ((i : Int) + 1) = ((i + 1 : Nat) : Int) := by rw [wr (by omega) (by omega)]; omega
    refine F26.L0_step ?_
    unfold F26.L0n
    refine iteB_t (by rw [decide_eq_true_iff]; omega) ?_
    refine R0.idx hl ⟨by omega, by omega, ?_⟩
    rintro a rfl
    (repeat (first | (refine Step.go ?_; intros) | refine iteB_t (by decide) ?_ | refine iteB_f (by decide) ?_ | (refine Duo.mk (by first | omega | exact rfl | decide) ?_; intros) | (refine Duo.mk (Clo.mk (by kernel_rfl)) ?_; intros)))
    refine gives_i S revIn_ok ?_
    intro H1 E S1
    (repeat (first | (refine Step.go ?_; intros) | refine iteB_t (by decide) ?_ | refine iteB_f (by decide) ?_ | (refine Duo.mk (by first | omega | exact rfl | decide) ?_; intros) | (refine Duo.mk (Clo.mk (by kernel_rfl)) ?_; intros)))
    rename_i q' k' H2 S2
    rw [w1]
    refine ih (i + 1) _ q' k' H2 (by omega) rfl ?_
    rw [take_succ hy]
    exact S2.to (.drop .refl)
theorem revsIn_ok {H : Heap} (hR : RowsAt rvC 2 H p rs) (hl : rs.length = n) (hn : n < 1000000) : CallsH Try.prog 26 ⟨[.slice p n c]⟩ H (fun e H1 => ∃ x : Option Addr × Nat, e = .returned (.slice x.1 n x.2) ∧ Sat H1 ([sl rvC 60 2 x.1 n x.2 rs] ++ [old H])) := by
  refine F26.calls ?_
  unfold F26.go
  have R0 : RowsC H p rvC 2 rs := ⟨hR⟩
  exact revsIn_loop hl hn n 0 0 none 0 H (by omega) rfl ((Sat.start H).to (.slNil .refl))
theorem revsOut_loop [R0 : RowsC H0 p rvC 2 rs] (hl : rs.length = n) (hn : n < 1000000) : ∀ (d i : Nat) (Z : Int) (q : Option Addr) (k : Nat) (H : Heap), i + d = n → Z = (i : Int) → Sat H [sl rvC 31 2 q i k (rs.take i), old H0] →
    F42.L0 p n c q i k Z H (fun e H1 => ∃ x : Option Addr × Nat, e = .returned (.slice x.1 n x.2) ∧ Sat H1 ([sl rvC 31 2 x.1 n x.2 rs] ++ [old H0])) := by
  intro d
  induction d with
  | zero =>
    intro i Z q k H hi hZ S
    subst hZ
    refine F42.L0_step ?_
    unfold F42.L0n
    refine iteB_f (by rw [decide_eq_false_iff_not]; omega) ?_
    obtain rfl : i = n := by omega
    rw [List.take_of_length_le (by omega)] at S
    exact ⟨(q, k), rfl, S⟩
  | succ d ih =>
    intro i Z q k H hi hZ S
    subst hZ
    obtain ⟨y, hy⟩ := get_of (l := rs) (i := i) (by omega)
    have A3 : HasI rs (i : Int) y := ⟨by simpa using hy⟩
    have w1 : IntKind.wrap .i64 ((i : Int) + 1) = ((i + 1 : Nat) : Int) := by rw [wr (by omega) (by omega)]; omega
    refine F42.L0_step ?_
    unfold F42.L0n
    refine iteB_t (by rw [decide_eq_true_iff]; omega) ?_
    refine R0.idx hl ⟨by omega, by omega, ?_⟩
    rintro a rfl
    (repeat (first | (refine Step.go ?_; intros) | refine iteB_t (by decide) ?_ | refine iteB_f (by decide) ?_ | (refine Duo.mk (by first | omega | exact rfl | decide) ?_; intros) | (refine Duo.mk (Clo.mk (by kernel_rfl)) ?_; intros)))
    refine gives_i S revOut_ok ?_
    intro H1 E S1
    (repeat (first | (refine Step.go ?_; intros) | refine iteB_t (by decide) ?_ | refine iteB_f (by decide) ?_ | (refine Duo.mk (by first | omega | exact rfl | decide) ?_; intros) | (refine Duo.mk (Clo.mk (by kernel_rfl)) ?_; intros)))
    rename_i q' k' H2 S2
    rw [w1]
    refine ih (i + 1) _ q' k' H2 (by omega) rfl ?_
    rw [take_succ hy]
    exact S2.to (.drop .refl)
theorem revsOut_ok {H : Heap} (hR : RowsAt rvC 2 H p rs) (hl : rs.length = n) (hn : n < 1000000) : CallsH Try.prog 42 ⟨[.slice p n c]⟩ H (fun e H1 => ∃ x : Option Addr × Nat, e = .returned (.slice x.1 n x.2) ∧ Sat H1 ([sl rvC 31 2 x.1 n x.2 rs] ++ [old H])) := by
  refine F42.calls ?_
  unfold F42.go
  have R0 : RowsC H p rvC 2 rs := ⟨hR⟩
  exact revsOut_loop hl hn n 0 0 none 0 H (by omega) rfl ((Sat.start H).to (.slNil .refl))
end
end Go.Proofs.Ytpjnmdeeoafclaa
