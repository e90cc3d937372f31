/- What functions of this seat do, each proved by a walk; no condition. -/
import Derived.Test.YtpjnmdeeoafclaaKP
import Derived.Test.YtpjnmdeeoafclaaKX
set_option linter.unusedVariables false
set_option linter.unusedSimpArgs false
namespace Go.Proofs.Ytpjnmdeeoafclaa
open Go Go.Den Go.Proofs
/-! What is kept: at most one. -/
section
variable {l : List HP} {H : Heap}
theorem len64_ok {x : Int} (h0 : x = 0 ∨ x = 1) (S : Sat H l) : CallsH Try.prog 83 ⟨[.int .u64 x]⟩ H (fun e H1 => ∃ k, e = .returned (.int .i64 k) ∧ Sat H1 l) := by
  refine F83.calls ?_
  unfold F83.go
  refine iteB_f (by rw [decide_eq_false_iff_not]; omega) ?_
  refine F83.L0_step ?_
  unfold F83.L0n
  refine iteB_f (by rw [decide_eq_false_iff_not]; omega) ?_
  refine F83.L1_step ?_
  unfold F83.L1n
  refine iteB_f (by rw [decide_eq_false_iff_not]; omega) ?_
  refine F83.L2_step ?_
  unfold F83.L2n
  rcases h0 with rfl | rfl
  · exact ⟨by decide, 0, by kernel_rfl, _, rfl, S⟩
  · exact ⟨by decide, 1, by kernel_rfl, _, rfl, S⟩
theorem len_ok {x : Int} (h0 : x = 0 ∨ x = 1) (S : Sat H l) : CallsH Try.prog 72 ⟨[.int .u64 x]⟩ H (fun e H1 => ∃ k, e = .returned (.int .i64 k) ∧ Sat H1 l) := by
  refine F72.calls ?_
  unfold F72.go
  refine call_of (len64_ok h0 S) ?_
  rintro e H1 ⟨k, rfl, S1⟩
  (repeat (first | (refine Step.go ?_; intros) | refine iteB_t (by decide) ?_ | refine iteB_f (by decide) ?_ | (refine Duo.mk (by first | omega | exact rfl | decide) ?_; intros) | (refine Duo.mk (Clo.mk (by kernel_rfl)) ?_; intros)))
  exact ⟨k, rfl, S1⟩
theorem ins_ok {p : Option Addr} {n c : Nat} {f : FV} (hn : n ≤ 1) (S : Sat H l) : CallsH Try.prog 74 ⟨[.slice p n c, .int .i64 0, .int .i64 (n : Int), f.v]⟩ H (fun e H1 => e = .returned (.tuple ⟨[]⟩) ∧ Sat H1 l) := by
  refine F74.calls ?_
  unfold F74.go
  refine F74.L0_step ?_
  unfold F74.L0n
  refine iteB_f (by
    rw [decide_eq_false_iff_not]
    have : IntKind.wrap .i64 ((0 : Int) + 1) = 1 := by decide
    rw [this]; omega) ?_
  exact ⟨rfl, S⟩
theorem pdq_ok {p : Option Addr} {n c : Nat} {k : Int} {f : FV} (hn : n ≤ 1) (S : Sat H l) : CallsH Try.prog 71 ⟨[.slice p n c, .int .i64 0, .int .i64 (n : Int), .int .i64 k, f.v]⟩ H (fun e H1 => e = .returned (.tuple ⟨[]⟩) ∧ Sat H1 l) := by
  refine F71.calls ?_
  unfold F71.go
  refine F71.L0_step ?_
  unfold F71.L0n
  refine iteB_t (by
    rw [decide_eq_true_iff]
    have : IntKind.wrap .i64 ((n : Int) - 0) = n := by rw [wr (by omega) (by omega)]; omega
    rw [this]; omega) ?_
  refine call_of (ins_ok hn S) ?_
  rintro e H1 ⟨rfl, S1⟩
  (repeat (first | (refine Step.go ?_; intros) | refine iteB_t (by decide) ?_ | refine iteB_f (by decide) ?_ | (refine Duo.mk (by first | omega | exact rfl | decide) ?_; intros) | (refine Duo.mk (Clo.mk (by kernel_rfl)) ?_; intros)))
  exact ⟨rfl, S1⟩
theorem sort_ok {p : Option Addr} {n c : Nat} {f : FV} (hn : n ≤ 1) (S : Sat H l) : CallsH Try.prog 61 ⟨[.slice p n c, f.v]⟩ H (fun e H1 => e = .returned (.tuple ⟨[]⟩) ∧ Sat H1 l) := by
  refine F61.calls ?_
  unfold F61.go
  have w : IntKind.wrap .u64 (n : Int) = n := by
    rcases Nat.lt_or_ge n 1 with h | h
    · obtain rfl : n = 0 := by omega
      rfl
    · obtain rfl : n = 1 := by omega
      rfl
  rw [w]
  refine call_of (len_ok (by omega) S) ?_
  rintro e H1 ⟨k, rfl, S1⟩
  (repeat (first | (refine Step.go ?_; intros) | refine iteB_t (by decide) ?_ | refine iteB_f (by decide) ?_ | (refine Duo.mk (by first | omega | exact rfl | decide) ?_; intros) | (refine Duo.mk (Clo.mk (by kernel_rfl)) ?_; intros)))
  refine call_of (pdq_ok hn S1) ?_
  rintro e H2 ⟨rfl, S2⟩
  (repeat (first | (refine Step.go ?_; intros) | refine iteB_t (by decide) ?_ | refine iteB_f (by decide) ?_ | (refine Duo.mk (by first | omega | exact rfl | decide) ?_; intros) | (refine Duo.mk (Clo.mk (by kernel_rfl)) ?_; intros)))
  exact ⟨rfl, S2⟩
theorem unseen_nil {es : Array MapEntry} : unseen es #[] = es.toList := by unfold unseen; rw [List.filter_eq_self]; intro e he; simp
theorem kept_ok {mr : Nat} {m : List (Rv × Unit)} (hm : m.length ≤ 1) (S : Sat H (rmp mr m :: l)) : CallsH Try.prog 44 ⟨[.map (some mr)]⟩ H (fun e H1 => ∃ q k, e = .returned (.slice q m.length k) ∧ Sat H1 (sl rvC 31 2 q m.length k (m.map (·.1)) :: l)) := by
  refine F44.calls ?_
  unfold F44.go
  obtain ⟨es, clk, F, S0⟩ := S.mpOpen
  refine rangeNew und96 S0 ?_
  intro ir H1 S1
  refine tPtr_i ?_
  have hlen : es.toList.length = m.length := by have := congrArg List.length F.eq; simpa using this
  have S2 : Sat H1 (pt ir (.mapIter (some mr) clk #[] clk) :: pt mr (.map es clk) :: sl rvC 31 2 none 0 0 [] :: l) := by
    have S3 : Sat H1 (sl rvC 31 2 none 0 0 [] :: pt ir (.mapIter (some mr) clk #[] clk) :: pt mr (.map es clk) :: l) := S1.to (.slNil .refl)
    exact S3.to Fits.out
  have fin : ∀ (q : Option Addr) (k : Nat) (seen : Array Nat) (ys : List Rv) (H2 : Heap), unseen es seen = [] → ys = m.map (·.1) → Sat H2 (pt ir (.mapIter (some mr) clk seen clk) :: pt mr (.map es clk) :: sl rvC 31 2 q m.length k ys :: l) →
      F44.L0 q m.length k (some ⟨ir, 0, none⟩) H2 (fun e H1 => ∃ q k, e = .returned (.slice q m.length k) ∧ Sat H1 (sl rvC 31 2 q m.length k (m.map (·.1)) :: l)) := by
    intro q k seen ys H2 hu hy S3
    refine F44.L0_step ?_
    unfold F44.L0n
    refine rangeNext F S3 (fun _ => ?_) (fun a e b h => ?_)
    · refine tTup_i ?_
      (repeat (first | (refine Step.go ?_; intros) | refine iteB_t (by decide) ?_ | refine iteB_f (by decide) ?_ | (refine Duo.mk (by first | omega | exact rfl | decide) ?_; intros) | (refine Duo.mk (Clo.mk (by kernel_rfl)) ?_; intros)))
      refine call_of (sort_ok (f := FV.mk (.func 62) ⟨[]⟩ ⟨[]⟩) hm S3) ?_
      rintro e H4 ⟨rfl, S4⟩
      (repeat (first | (refine Step.go ?_; intros) | refine iteB_t (by decide) ?_ | refine iteB_f (by decide) ?_ | (refine Duo.mk (by first | omega | exact rfl | decide) ?_; intros) | (refine Duo.mk (Clo.mk (by kernel_rfl)) ?_; intros)))
      subst hy
      exact ⟨q, k, rfl, S4.to (.drop (.drop .refl))⟩
    · rw [hu] at h; simp at h
  cases hes : es.toList with
  | nil =>
    have hm0 : m = [] := List.eq_nil_of_length_eq_zero (by rw [← hlen, hes]; rfl)
    subst hm0
    exact fin none 0 #[] [] H1 (by rw [unseen_nil, hes]) rfl S2
  | cons e0 t =>
    rw [hes] at hlen
    obtain rfl : t = [] := List.eq_nil_of_length_eq_zero (by simp at hlen; omega)
    obtain ⟨x, rfl⟩ : ∃ x, m = [x] := List.length_eq_one_iff.1 (by simp at hlen; omega)
    have he := F.eq
    rw [hes] at he
    simp only [List.map_cons, List.map_nil, List.cons.injEq, Prod.mk.injEq, and_true] at he
    refine F44.L0_step ?_
    unfold F44.L0n
    refine rangeNext F S2 (fun h => ?_) (fun a e b h h' H2 S3 => ?_)
    · rw [unseen_nil, hes] at h; cases h
    · rw [unseen_nil, hes] at h
      obtain ⟨rfl, rfl, rfl⟩ : a = [] ∧ e = e0 ∧ b = [] := by
        cases a with
        | nil => simp at h; exact ⟨rfl, h.1.symm, h.2⟩
        | cons a0 a1 => simp at h
      rw [he.1, he.2]
      refine tTup_i ?_
      unfold rvV
      (repeat (first | (refine Step.go ?_; intros) | refine iteB_t (by decide) ?_ | refine iteB_f (by decide) ?_ | (refine Duo.mk (by first | omega | exact rfl | decide) ?_; intros) | (refine Duo.mk (Clo.mk (by kernel_rfl)) ?_; intros)))
      refine rangeEntry F S3 (by rw [hes]; exact List.mem_singleton_self _) ?_
      rw [he.1, he.2]
      unfold rvV
      (repeat (first | (refine Step.go ?_; intros) | refine iteB_t (by decide) ?_ | refine iteB_f (by decide) ?_ | (refine Duo.mk (by first | omega | exact rfl | decide) ?_; intros) | (refine Duo.mk (Clo.mk (by kernel_rfl)) ?_; intros)))
      refine gives_i ‹_› revOut_ok ?_
      intro H4 E4 S4
      (repeat (first | (refine Step.go ?_; intros) | refine iteB_t (by decide) ?_ | refine iteB_f (by decide) ?_ | (refine Duo.mk (by first | omega | exact rfl | decide) ?_; intros) | (refine Duo.mk (Clo.mk (by kernel_rfl)) ?_; intros)))
      rename_i q k H5 S5
      refine fin q k _ [x.1] H5 h' rfl ?_
      exact S5.to (.drop (.drop .refl))
end
end Go.Proofs.Ytpjnmdeeoafclaa
