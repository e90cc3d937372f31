/- What functions of this seat do, each proved by a walk; no condition. -/
import Derived.Test.YtpjnmdeeoafclaaKV
set_option linter.unusedVariables false
set_option linter.unusedSimpArgs false
namespace Go.Proofs.Ytpjnmdeeoafclaa
open Go Go.Den Go.Proofs
/-! FnWalk. -/
theorem above2_ok {x : Rv} {t : Int} {a : Nat} {l : List HP} {H : Heap} (S : Sat H (pt a (.cells ⟨[.int .i64 t]⟩ 2) :: l)) : CallsH Try.prog 54 ⟨[] ++ [.agg ⟨[.int .i64 x.1, .int .i64 x.2]⟩] ++ [.pointer (some ⟨a, 0, none⟩)]⟩ H
    (fun e H1 => if x.1 ≤ t then e = .returned (.bool false) ∧ Sat H1 (pt a (.cells ⟨[.int .i64 t]⟩ 2) :: l) else e = .returned (.bool true) ∧ Sat H1 (pt a (.cells ⟨[.int .i64 t]⟩ 2) :: l)) := by
  refine F54.calls ?_
  unfold F54.go
  (repeat (first | (refine Step.go ?_; intros) | refine iteB_t (by decide) ?_ | refine iteB_f (by decide) ?_ | (refine Duo.mk (by first | omega | exact rfl | decide) ?_; intros) | (refine Duo.mk (Clo.mk (by kernel_rfl)) ?_; intros)))
  rename_i S1
  by_cases h : x.1 ≤ t
  · refine (if_pos h).mpr ⟨?_, S1.to (Ent.drop .refl)⟩
    rw [show decide (x.1 > t) = false by rw [decide_eq_false_iff_not]; omega]
  · refine (if_neg h).mpr ⟨?_, S1.to (Ent.drop .refl)⟩
    rw [show decide (x.1 > t) = true by rw [decide_eq_true_iff]; omega]
theorem zzWalk_ok {p : Option Addr} {n c : Nat} {rs : List Rv} {t : Int} {l : List HP} {H : Heap} (hn : n < 100000) (hl : rs.length = n) (S : Sat H (sl rvC 60 2 p n c rs :: l)) : CallsH Try.prog 25 ⟨[.slice p n c, .int .i64 t]⟩ H
    (fun e H1 => e = .returned (.int .i64 (wkI (wkO t rs rs.length))) ∧ Sat H1 l) := by
  refine F25.calls ?_
  unfold F25.go
  (repeat (first | (refine Step.go ?_; intros) | refine iteB_t (by decide) ?_ | refine iteB_f (by decide) ?_ | (refine Duo.mk (by first | omega | exact rfl | decide) ?_; intros) | (refine Duo.mk (Clo.mk (by kernel_rfl)) ?_; intros)))
  rename_i a _ _ g H1 S1
  have S2 : Sat H1 (pt a (.cells ⟨[.int .i64 t]⟩ 2) :: pt g (.cells ⟨[.int .i64 0, .int .i64 0, .int .i64 0, .slice p n c]⟩ 105) :: sl rvC 60 2 p n c rs :: l) := S1.to Fits.out
  refine call_of (walk_ok (g := ⟨g, 0, none⟩) (t := t) (p := p) (n := n) (c := c) (rs := rs) (A := pt a (.cells ⟨[.int .i64 t]⟩ 2)) (B := fun _ => pt a (.cells ⟨[.int .i64 t]⟩ 2)) hn inferInstance hl ?_ (by kernel_rfl) ?_ S2) ?_
  · intro H S
    have := S.at_ (r := g) (List.mem_cons_of_mem _ (List.mem_cons_self ..))
    exact hcell_of this rfl
  · intro x H S
    exact above2_ok S
  rintro e H5 ⟨rfl, S5⟩
  have S6 : Sat H5 (pt a (.cells ⟨[.int .i64 t]⟩ 2) :: pt g (.cells ⟨[.int .i64 0, .int .i64 0, .int .i64 0, .slice p n c]⟩ 105) :: sl rvC 60 2 p n c rs :: l) := by
    cases hw : wkO t rs rs.length with
    | none => rw [hw] at S5; exact S5
    | some j => rw [hw] at S5; exact S5
  (repeat (first | (refine Step.go ?_; intros) | refine iteB_t (by decide) ?_ | refine iteB_f (by decide) ?_ | (refine Duo.mk (by first | omega | exact rfl | decide) ?_; intros) | (refine Duo.mk (Clo.mk (by kernel_rfl)) ?_; intros)))
  exact ⟨rfl, S6.to (.drop (.drop (.drop .refl)))⟩
theorem iWalk_ok {p : Option Addr} {n c : Nat} {rs : List Rv} {t : Int} {H : Heap} (hn : n < 100000) (hl : rs.length = n) (hR : RowsAt rvC 2 H p rs) : CallsH Try.prog 14 ⟨[.slice p n c, .int .i64 t]⟩ H
    (Gives (.int .i64 (wkI (wkO t rs rs.length))) H) := by
  refine F14.calls ?_
  unfold F14.go
  refine grow_i (Sat.start H) (revsIn_ok hR hl (by omega)) ?_
  rintro ⟨q, k⟩ H1 E1 S1
  simp only [List.cons_append, List.nil_append] at S1 ⊢
  (repeat (first | (refine Step.go ?_; intros) | refine iteB_t (by decide) ?_ | refine iteB_f (by decide) ?_ | (refine Duo.mk (by first | omega | exact rfl | decide) ?_; intros) | (refine Duo.mk (Clo.mk (by kernel_rfl)) ?_; intros)))
  refine call_of (zzWalk_ok (t := t) hn hl S1) ?_
  rintro e H2 ⟨rfl, S2⟩
  (repeat (first | (refine Step.go ?_; intros) | refine iteB_t (by decide) ?_ | refine iteB_f (by decide) ?_ | (refine Duo.mk (by first | omega | exact rfl | decide) ?_; intros) | (refine Duo.mk (Clo.mk (by kernel_rfl)) ?_; intros)))
  exact ⟨rfl, Sat.grown⟩
/-- The last one so far. -/
def want (t : Int) (rs : List Rv) (k : Nat) : Option Nat := wkO t rs k
theorem wkO_succ {t : Int} {rs : List Rv} {k : Nat} {x : Rv} (h : rs[k]? = some x) : wkO t rs (k + 1) = if x.1 ≤ t then some k else wkO t rs k := by
  show (match rs[k]? with | none => _ | some x => _) = _
  rw [h]
theorem fnWalk_loop {H0 : Heap} {p : Option Addr} {n c : Nat} {rs : List Rv} {t : Int} [R0 : RowsC H0 p rvC 2 rs] (hn : n ≤ 300) (hl : rs.length = n) : ∀ (d i : Nat) (Z : Int) (H : Heap), i + d = n → Z = (i : Int) → ExtH H0 H →
    F6.L0 p n c t (wkI (wkO t rs i)) p n c (n : Int) Z H (fun e H1 => e = .returned (.bool true) ∧ ExtH H0 H1) := by
  intro d
  induction d with
  | zero =>
    intro i Z H hi hZ E
    subst hZ
    refine F6.L0_step ?_
    unfold F6.L0n
    refine iteB_f (by rw [decide_eq_false_iff_not]; omega) ?_
    have S := Sat.start H
    refine gives_i S (iWalk_ok (t := t) (rs := rs) (by omega) hl (R0.out.ext E)) ?_
    intro H1 E1 S1
    (repeat (first | (refine Step.go ?_; intros) | refine iteB_t (by decide) ?_ | refine iteB_f (by decide) ?_ | (refine Duo.mk (by first | omega | exact rfl | decide) ?_; intros) | (refine Duo.mk (Clo.mk (by kernel_rfl)) ?_; intros)))
    obtain rfl : i = rs.length := by omega
    refine iteB_t (by rw [beq_iff_eq]) ?_
    refine gives_i S1 (live_ok H1) ?_
    intro H2 E2 S2
    (repeat (first | (refine Step.go ?_; intros) | refine iteB_t (by decide) ?_ | refine iteB_f (by decide) ?_ | (refine Duo.mk (by first | omega | exact rfl | decide) ?_; intros) | (refine Duo.mk (Clo.mk (by kernel_rfl)) ?_; intros)))
    exact ⟨rfl, E.trans (E1.trans E2)⟩
  | succ d ih =>
    intro i Z H hi hZ E
    subst hZ
    obtain ⟨x, hx⟩ := get_of (l := rs) (i := i) (by omega)
    have A1 : HasI rs (i : Int) x := ⟨by simpa using hx⟩
    have w1 : IntKind.wrap .i64 ((i : Int) + 1) = ((i + 1 : Nat) : Int) := by rw [wr (by omega) (by omega)]; omega
    have R1 : RowsC H p rvC 2 rs := ⟨R0.out.ext E⟩
    have S := Sat.start H
    have nxt : ∀ H', ExtH H H' → ∀ w, w = wkI (wkO t rs (i + 1)) → F6.L1 p n c t w p n c (n : Int) (i : Int) H' (fun e H1 => e = .returned (.bool true) ∧ ExtH H0 H1) := by
      intro H' E' w hw
      subst hw
      refine F6.L1_step ?_
      unfold F6.L1n
      rw [w1]
      exact ih (i + 1) _ H' (by omega) rfl (E.trans E')
    refine F6.L0_step ?_
    unfold F6.L0n
    refine iteB_t (by rw [decide_eq_true_iff]; omega) ?_
    refine R1.idx hl ⟨by omega, by omega, ?_⟩
    rintro a rfl
    (repeat (first | (refine Step.go ?_; intros) | refine iteB_t (by decide) ?_ | refine iteB_f (by decide) ?_ | (refine Duo.mk (by first | omega | exact rfl | decide) ?_; intros) | (refine Duo.mk (Clo.mk (by kernel_rfl)) ?_; intros)))
    rename_i H3 S3
    have E3 : ExtH H H3 := Sat.grown
    refine iteB_i (fun h => ?_) (fun h => ?_)
    · have h := of_decide_eq_true h
      exact nxt H3 E3 _ (by rw [wkO_succ hx, if_pos h]; rfl)
    · have h := of_decide_eq_false h
      exact nxt H3 E3 _ (by rw [wkO_succ hx, if_neg h])
theorem fnWalk_ok {H : Heap} {p : Option Addr} {n c : Nat} {rs : List Rv} {t : Int} (hl : rs.length = n) (hR : RowsAt rvC 2 H p rs) : CallsH Try.prog 6 ⟨[.slice p n c, .int .i64 t]⟩ H (Gives (.bool true) H) := by
  refine F6.calls ?_
  unfold F6.go
  refine iteB_i (fun h => ⟨rfl, ExtH.refl H⟩) (fun h => ?_)
  refine iteB_i (fun h2 => ?_) (fun h2 => ?_)
  · refine gives_i (Sat.start H) (live_ok H) ?_
    intro H1 E1 S1
    (repeat (first | (refine Step.go ?_; intros) | refine iteB_t (by decide) ?_ | refine iteB_f (by decide) ?_ | (refine Duo.mk (by first | omega | exact rfl | decide) ?_; intros) | (refine Duo.mk (Clo.mk (by kernel_rfl)) ?_; intros)))
    exact ⟨rfl, E1⟩
  · have h2 := of_decide_eq_false h2
    have R0 : RowsC H p rvC 2 rs := ⟨hR⟩
    exact fnWalk_loop (t := t) (by omega) hl n 0 0 H (by omega) rfl (ExtH.refl H)
end Go.Proofs.Ytpjnmdeeoafclaa
