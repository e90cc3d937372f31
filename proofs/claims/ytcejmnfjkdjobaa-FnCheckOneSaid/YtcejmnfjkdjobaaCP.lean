/- What functions of this seat do, each proved by a walk; no condition. -/
import Derived.Test.YtcejmnfjkdjobaaCO
set_option linter.unusedVariables false
set_option linter.unusedSimpArgs false
set_option linter.unnecessarySimpa false
namespace Go.Proofs.Ytcejmnfjkdjobaa
open Go Go.Den Go.Proofs
section
variable {H : Heap}
theorem iv_i {i : IV} {k : IV → Prop} (h : k i) : tIf i.v k := ⟨i, rfl, h⟩
theorem zzR {r : RQ} {x : RI} (h : H[x.b]? = some (rgO r x)) : CallsH Try.prog 32 ⟨[.pointer (some ⟨x.b, 0, none⟩)]⟩ H (Gives (errV (refR r)).v H) := by
  have S := Sat.start H
  refine F32.calls ?_
  unfold F32.go
  refine gives_i S (range_ok h) ?_
  intro H1 E1 S1
  refine iv_i ?_
  exact ⟨rfl, E1⟩
theorem zzP {r : RQ} {b k kc v vc : Nat} (h : H[b]? = some (puO r k kc v vc)) : CallsH Try.prog 33 ⟨[.pointer (some ⟨b, 0, none⟩)]⟩ H (Gives (errV (refP r)).v H) := by
  have S := Sat.start H
  refine F33.calls ?_
  unfold F33.go
  refine gives_i S (put_ok h) ?_
  intro H1 E1 S1
  refine iv_i ?_
  exact ⟨rfl, E1⟩
theorem zzD {r : RQ} {b k kc : Nat} {x : SLI} (h : H[b]? = some (deO r k kc x)) : CallsH Try.prog 35 ⟨[.pointer (some ⟨b, 0, none⟩)]⟩ H (Gives (errV (refD r)).v H) := by
  have S := Sat.start H
  refine F35.calls ?_
  unfold F35.go
  refine gives_i S (del_ok h) ?_
  intro H1 E1 S1
  refine iv_i ?_
  exact ⟨rfl, E1⟩
theorem refR_k (r : RQ) : refR r = 0 ∨ refR r = 1 ∨ refR r = 2 ∨ refR r = 3 ∨ refR r = 6 := by unfold refR; split <;> (try split) <;> simp
theorem refP_k (r : RQ) : refP r = 0 ∨ refP r = 1 ∨ refP r = 2 ∨ refP r = 3 ∨ refP r = 6 := by unfold refP; split <;> (try split) <;> (try split) <;> simp
theorem refD_k (r : RQ) : refD r = 0 ∨ refD r = 1 ∨ refD r = 2 ∨ refD r = 3 ∨ refD r = 6 := by unfold refD; split <;> simp
theorem check_ok {r : RQ} {most : Int} (hk : r.kind = 1 ∨ r.kind = 2 ∨ r.kind = 3) (h1 : r.key.size < 2 ^ 62) (h2 : r.endd.size < 2 ^ 62) (h3 : r.value.size < 2 ^ 62) : CallsH Try.prog 13 ⟨[.agg ⟨r.cells⟩, .int .i64 most]⟩ H (Gives (.int .i64 (refused r : Int)) H) := by
  have S := Sat.start H
  refine F13.calls ?_
  unfold F13.go
  unfold refused
  (repeat (first | (refine Step.go ?_; intros) | refine iteB_t (by decide) ?_ | refine iteB_f (by decide) ?_ | (refine Duo.mk (by first | omega | exact rfl | decide) ?_; intros) | (refine Duo.mk (Clo.mk (by kernel_rfl)) ?_; intros)))
  rename_i r0 H1 S1
  refine iteB_i (fun g => ?_) (fun g => ?_)
  · have g := eq_of_beq g
    rw [if_pos g]
    (repeat (first | (refine Step.go ?_; intros) | refine iteB_t (by decide) ?_ | refine iteB_f (by decide) ?_ | (refine Duo.mk (by first | omega | exact rfl | decide) ?_; intros) | (refine Duo.mk (Clo.mk (by kernel_rfl)) ?_; intros)))
    refine grow_i S1 (rangeIn_ok (r := r) h1 h2) ?_
    rintro x H2 E2 S2
    simp only [List.cons_append, List.nil_append] at S2
    (repeat (first | (refine Step.go ?_; intros) | refine iteB_t (by decide) ?_ | refine iteB_f (by decide) ?_ | (refine Duo.mk (by first | omega | exact rfl | decide) ?_; intros) | (refine Duo.mk (Clo.mk (by kernel_rfl)) ?_; intros)))
    refine gives_i S2 (zzR (S2.at_ (List.mem_cons_self ..))) ?_
    intro H3 E3 S3
    refine iv_i ?_
    refine gives_i S3 (kind_ok (refR_k r)) ?_
    intro H4 E4 S4
    (repeat (first | (refine Step.go ?_; intros) | refine iteB_t (by decide) ?_ | refine iteB_f (by decide) ?_ | (refine Duo.mk (by first | omega | exact rfl | decide) ?_; intros) | (refine Duo.mk (Clo.mk (by kernel_rfl)) ?_; intros)))
    exact ⟨rfl, Sat.grown⟩
  have g : ¬ r.kind = 1 := by simpa using g
  rw [if_neg g]
  refine iteB_i (fun g2 => ?_) (fun g2 => ?_)
  · have g2 := eq_of_beq g2
    rw [if_pos g2]
    (repeat (first | (refine Step.go ?_; intros) | refine iteB_t (by decide) ?_ | refine iteB_f (by decide) ?_ | (refine Duo.mk (by first | omega | exact rfl | decide) ?_; intros) | (refine Duo.mk (Clo.mk (by kernel_rfl)) ?_; intros)))
    refine grow_i S1 (putIn_ok (r := r) h1 h3) ?_
    rintro ⟨b, ⟨k, kc⟩, v, vc⟩ H2 E2 S2
    simp only [List.cons_append, List.nil_append] at S2
    (repeat (first | (refine Step.go ?_; intros) | refine iteB_t (by decide) ?_ | refine iteB_f (by decide) ?_ | (refine Duo.mk (by first | omega | exact rfl | decide) ?_; intros) | (refine Duo.mk (Clo.mk (by kernel_rfl)) ?_; intros)))
    refine gives_i S2 (zzP (S2.at_ (List.mem_cons_self ..))) ?_
    intro H3 E3 S3
    refine iv_i ?_
    refine gives_i S3 (kind_ok (refP_k r)) ?_
    intro H4 E4 S4
    (repeat (first | (refine Step.go ?_; intros) | refine iteB_t (by decide) ?_ | refine iteB_f (by decide) ?_ | (refine Duo.mk (by first | omega | exact rfl | decide) ?_; intros) | (refine Duo.mk (Clo.mk (by kernel_rfl)) ?_; intros)))
    exact ⟨rfl, Sat.grown⟩
  have g2 : ¬ r.kind = 2 := by simpa using g2
  rw [if_neg g2]
  refine iteB_i (fun g3 => ?_) (fun g3 => ?_)
  · (repeat (first | (refine Step.go ?_; intros) | refine iteB_t (by decide) ?_ | refine iteB_f (by decide) ?_ | (refine Duo.mk (by first | omega | exact rfl | decide) ?_; intros) | (refine Duo.mk (Clo.mk (by kernel_rfl)) ?_; intros)))
    refine grow_i S1 (delIn_ok (r := r) h1 h2) ?_
    rintro ⟨b, ⟨k, kc⟩, x⟩ H2 E2 S2
    simp only [List.cons_append, List.nil_append] at S2
    (repeat (first | (refine Step.go ?_; intros) | refine iteB_t (by decide) ?_ | refine iteB_f (by decide) ?_ | (refine Duo.mk (by first | omega | exact rfl | decide) ?_; intros) | (refine Duo.mk (Clo.mk (by kernel_rfl)) ?_; intros)))
    refine gives_i S2 (zzD (S2.at_ (List.mem_cons_self ..))) ?_
    intro H3 E3 S3
    refine iv_i ?_
    refine gives_i S3 (kind_ok (refD_k r)) ?_
    intro H4 E4 S4
    (repeat (first | (refine Step.go ?_; intros) | refine iteB_t (by decide) ?_ | refine iteB_f (by decide) ?_ | (refine Duo.mk (by first | omega | exact rfl | decide) ?_; intros) | (refine Duo.mk (Clo.mk (by kernel_rfl)) ?_; intros)))
    exact ⟨rfl, Sat.grown⟩
  have g3 : ¬ r.kind = 3 := by simpa using g3
  omega
theorem spec_ok {r : RQ} {most : Int} (hk : r.kind = 1 ∨ r.kind = 2 ∨ r.kind = 3) : CallsH Try.prog 14 ⟨[.agg ⟨r.cells⟩, .int .i64 most]⟩ H (Gives (.int .i64 (refused r : Int)) H) := by
  have S := Sat.start H
  refine F14.calls ?_
  unfold F14.go
  unfold refused
  (repeat (first | (refine Step.go ?_; intros) | refine iteB_t (by decide) ?_ | refine iteB_f (by decide) ?_ | (refine Duo.mk (by first | omega | exact rfl | decide) ?_; intros) | (refine Duo.mk (Clo.mk (by kernel_rfl)) ?_; intros)))
  rename_i r0 H1 S1
  refine iteB_i (fun g => ?_) (fun g => ?_)
  · have g := eq_of_beq g
    rw [if_pos g]
    unfold refR
    (repeat (first | (refine Step.go ?_; intros) | refine iteB_t (by decide) ?_ | refine iteB_f (by decide) ?_ | (refine Duo.mk (by first | omega | exact rfl | decide) ?_; intros) | (refine Duo.mk (Clo.mk (by kernel_rfl)) ?_; intros)))
    refine iteB_i (fun h => ?_) (fun h => ?_)
    · rw [eqS_nil] at h
      rw [if_pos (of_decide_eq_true h)]
      exact ⟨rfl, Sat.grown⟩
    rw [eqS_nil] at h
    rw [if_neg (of_decide_eq_false h)]
    (repeat (first | (refine Step.go ?_; intros) | refine iteB_t (by decide) ?_ | refine iteB_f (by decide) ?_ | (refine Duo.mk (by first | omega | exact rfl | decide) ?_; intros) | (refine Duo.mk (Clo.mk (by kernel_rfl)) ?_; intros)))
    refine iteB_i (fun q => ?_) (fun q1 => ?_)
    · have q := of_decide_eq_true q
      rw [if_pos (by omega)]
      exact ⟨rfl, Sat.grown⟩
    have q1 := of_decide_eq_false q1
    (repeat (first | (refine Step.go ?_; intros) | refine iteB_t (by decide) ?_ | refine iteB_f (by decide) ?_ | (refine Duo.mk (by first | omega | exact rfl | decide) ?_; intros) | (refine Duo.mk (Clo.mk (by kernel_rfl)) ?_; intros)))
    refine iteB_i (fun q => ?_) (fun q2 => ?_)
    · have q := of_decide_eq_true q
      rw [if_pos (by omega)]
      exact ⟨rfl, Sat.grown⟩
    have q2 := of_decide_eq_false q2
    (repeat (first | (refine Step.go ?_; intros) | refine iteB_t (by decide) ?_ | refine iteB_f (by decide) ?_ | (refine Duo.mk (by first | omega | exact rfl | decide) ?_; intros) | (refine Duo.mk (Clo.mk (by kernel_rfl)) ?_; intros)))
    refine iteB_i (fun q => ?_) (fun q3 => ?_)
    · have q := of_decide_eq_true q
      rw [if_pos (by omega)]
      exact ⟨rfl, Sat.grown⟩
    have q3 := of_decide_eq_false q3
    (repeat (first | (refine Step.go ?_; intros) | refine iteB_t (by decide) ?_ | refine iteB_f (by decide) ?_ | (refine Duo.mk (by first | omega | exact rfl | decide) ?_; intros) | (refine Duo.mk (Clo.mk (by kernel_rfl)) ?_; intros)))
    refine iteB_i (fun q => ?_) (fun q4 => ?_)
    · have q := of_decide_eq_true q
      rw [if_pos (by omega)]
      exact ⟨rfl, Sat.grown⟩
    have q4 := of_decide_eq_false q4
    rw [if_neg (by omega)]
    exact ⟨rfl, Sat.grown⟩
  have g : ¬ r.kind = 1 := by simpa using g
  rw [if_neg g]
  refine iteB_i (fun g2 => ?_) (fun g2 => ?_)
  · have g2 := eq_of_beq g2
    rw [if_pos g2]
    (repeat (first | (refine Step.go ?_; intros) | refine iteB_t (by decide) ?_ | refine iteB_f (by decide) ?_ | (refine Duo.mk (by first | omega | exact rfl | decide) ?_; intros) | (refine Duo.mk (Clo.mk (by kernel_rfl)) ?_; intros)))
    refine iteB_i (fun h => ?_) (fun h => ?_)
    · rw [eqS_nil] at h
      unfold refP
      rw [if_pos (of_decide_eq_true h)]
      exact ⟨rfl, Sat.grown⟩
    rw [eqS_nil] at h
    have h := of_decide_eq_false h
    have fin : ¬ (r.igV = true ∧ r.value.size ≠ 0) → F14.L2 r0 H1 (Gives (.int .i64 (refP r : Int)) H) := by
      intro hn
      unfold refP
      rw [if_neg h, if_neg hn]
      refine F14.L2_step ?_
      unfold F14.L2n
      (repeat (first | (refine Step.go ?_; intros) | refine iteB_t (by decide) ?_ | refine iteB_f (by decide) ?_ | (refine Duo.mk (by first | omega | exact rfl | decide) ?_; intros) | (refine Duo.mk (Clo.mk (by kernel_rfl)) ?_; intros)))
      refine iteB_i (fun q => ?_) (fun q => ?_)
      · (repeat (first | (refine Step.go ?_; intros) | refine iteB_t (by decide) ?_ | refine iteB_f (by decide) ?_ | (refine Duo.mk (by first | omega | exact rfl | decide) ?_; intros) | (refine Duo.mk (Clo.mk (by kernel_rfl)) ?_; intros)))
        refine iteB_i (fun q2 => ?_) (fun q2 => ?_)
        · rw [if_pos ⟨q, by simpa using q2⟩]
          exact ⟨rfl, Sat.grown⟩
        · have q2 : r.lease = 0 := by simpa using q2
          rw [if_neg (by rintro ⟨_, h3⟩; exact h3 q2)]
          exact ⟨rfl, Sat.grown⟩
      · rw [if_neg (by rintro ⟨h3, _⟩; rw [q] at h3; cases h3)]
        exact ⟨rfl, Sat.grown⟩
    (repeat (first | (refine Step.go ?_; intros) | refine iteB_t (by decide) ?_ | refine iteB_f (by decide) ?_ | (refine Duo.mk (by first | omega | exact rfl | decide) ?_; intros) | (refine Duo.mk (Clo.mk (by kernel_rfl)) ?_; intros)))
    refine iteB_i (fun q => ?_) (fun q => ?_)
    · (repeat (first | (refine Step.go ?_; intros) | refine iteB_t (by decide) ?_ | refine iteB_f (by decide) ?_ | (refine Duo.mk (by first | omega | exact rfl | decide) ?_; intros) | (refine Duo.mk (Clo.mk (by kernel_rfl)) ?_; intros)))
      rw [eqS_nil]
      refine iteB_i (fun q2 => ?_) (fun q2 => ?_)
      · have q2 : ¬ r.value.size = 0 := by rw [Bool.not_eq_true'] at q2; exact of_decide_eq_false q2
        unfold refP
        rw [if_neg h, if_pos ⟨q, q2⟩]
        exact ⟨rfl, Sat.grown⟩
      · have q2 : r.value.size = 0 := by rw [Bool.not_eq_false'] at q2; exact of_decide_eq_true q2
        exact fin (by rintro ⟨_, h3⟩; exact h3 q2)
    · exact fin (by rintro ⟨h3, _⟩; rw [q] at h3; cases h3)
  have g2 : ¬ r.kind = 2 := by simpa using g2
  rw [if_neg g2]
  refine iteB_i (fun g3 => ?_) (fun g3 => ?_)
  · unfold refD
    (repeat (first | (refine Step.go ?_; intros) | refine iteB_t (by decide) ?_ | refine iteB_f (by decide) ?_ | (refine Duo.mk (by first | omega | exact rfl | decide) ?_; intros) | (refine Duo.mk (Clo.mk (by kernel_rfl)) ?_; intros)))
    refine iteB_i (fun h => ?_) (fun h => ?_)
    · rw [eqS_nil] at h
      rw [if_pos (of_decide_eq_true h)]
      exact ⟨rfl, Sat.grown⟩
    rw [eqS_nil] at h
    rw [if_neg (of_decide_eq_false h)]
    exact ⟨rfl, Sat.grown⟩
  have g3 : ¬ r.kind = 3 := by simpa using g3
  omega
abbrev rqL (k : ByteArray) : RQ := ⟨2, k, ⟨#[]⟩, ⟨#[]⟩, 0, 0, 0, 0, 0, 0, 0, 0, 0, false, false, false, false, false, none, 0, 0, none, 0, 0, none, 0, 0⟩
theorem ckLive_ok : CallsH Try.prog 12 ⟨[]⟩ H (Gives (.bool true) H) := by
  have S := Sat.start H
  refine F12.calls ?_
  unfold F12.go
  have z : (⟨#[]⟩ : ByteArray).size < 2 ^ 62 := by decide
  refine gives_i S (check_ok (r := rqL ⟨#[]⟩) (.inr (.inl rfl)) z z z) ?_
  intro H1 E1 S1
  (repeat (first | (refine Step.go ?_; intros) | refine iteB_t (by decide) ?_ | refine iteB_f (by decide) ?_ | (refine Duo.mk (by first | omega | exact rfl | decide) ?_; intros) | (refine Duo.mk (Clo.mk (by kernel_rfl)) ?_; intros)))
  refine gives_i S1 (check_ok (r := rqL ⟨#[107]⟩) (.inr (.inl rfl)) (show (⟨#[107]⟩ : ByteArray).size < 2 ^ 62 by decide) z z) ?_
  intro H2 E2 S2
  (repeat (first | (refine Step.go ?_; intros) | refine iteB_t (by decide) ?_ | refine iteB_f (by decide) ?_ | (refine Duo.mk (by first | omega | exact rfl | decide) ?_; intros) | (refine Duo.mk (Clo.mk (by kernel_rfl)) ?_; intros)))
  exact ⟨rfl, Sat.grown⟩
/-! The sizes. -/
structure CM where
  t : Int
  rs : Int
  key : ByteArray
  endd : ByteArray
  n : Int
  val : ByteArray
  bare : Bool
abbrev CM.cells (x : CM) : List Value := [.int .i64 x.t, .int .i64 x.rs, .string x.key, .string x.endd, .int .i64 x.n, .string x.val, .bool x.bare]
theorem cmp_fit (x : CM) : CallsH Try.prog 62 ⟨[.agg ⟨x.cells⟩]⟩ H (fun e H1 => ExtH H H1 ∧ ∃ b, e = .returned (.bool b)) := by
  have S := Sat.start H
  refine F62.calls ?_
  unfold F62.go
  (repeat (first | (refine Step.go ?_; intros) | refine iteB_t (by decide) ?_ | refine iteB_f (by decide) ?_ | (refine Duo.mk (by first | omega | exact rfl | decide) ?_; intros) | (refine Duo.mk (Clo.mk (by kernel_rfl)) ?_; intros)))
  refine iteB_i (fun h => ⟨Sat.grown, _, rfl⟩) (fun h1 => ?_)
  (repeat (first | (refine Step.go ?_; intros) | refine iteB_t (by decide) ?_ | refine iteB_f (by decide) ?_ | (refine Duo.mk (by first | omega | exact rfl | decide) ?_; intros) | (refine Duo.mk (Clo.mk (by kernel_rfl)) ?_; intros)))
  refine iteB_i (fun h => ⟨Sat.grown, _, rfl⟩) (fun h2 => ?_)
  (repeat (first | (refine Step.go ?_; intros) | refine iteB_t (by decide) ?_ | refine iteB_f (by decide) ?_ | (refine Duo.mk (by first | omega | exact rfl | decide) ?_; intros) | (refine Duo.mk (Clo.mk (by kernel_rfl)) ?_; intros)))
  refine iteB_i (fun h => ⟨Sat.grown, _, rfl⟩) (fun h2 => ?_)
  exact ⟨Sat.grown, _, rfl⟩
theorem cmps_loop {H0 : Heap} {p : Option Addr} {n c : Nat} {l : List CM} [R0 : RowsC H0 p CM.cells 7 l] (hl : l.length = n) (hn : n ≤ 2147483647) : ∀ (d i : Nat) (H : Heap), i + d = n → ExtH H0 H → F30.L0 p n c (n : Int) (i : Int) H (fun e H1 => ExtH H0 H1 ∧ ∃ b, e = .returned (.bool b)) := by
  intro d
  induction d with
  | zero =>
    intro i H hi E
    refine F30.L0_step ?_
    unfold F30.L0n
    refine iteB_f (by rw [decide_eq_false_iff_not]; omega) ?_
    exact ⟨E, _, rfl⟩
  | succ d ih =>
    intro i H hi E
    obtain ⟨x, hx⟩ := get_of (l := l) (i := i) (by omega)
    have A1 : HasI l (i : Int) x := ⟨by simpa using hx⟩
    have S := Sat.start H
    have R1 : RowsC H p CM.cells 7 l := ⟨R0.out.ext E⟩
    have w1 : IntKind.wrap .i64 ((i : Int) + 1) = ((i + 1 : Nat) : Int) := by rw [wr (by omega) (by omega)]; omega
    refine F30.L0_step ?_
    unfold F30.L0n
    refine iteB_t (by rw [decide_eq_true_iff]; omega) ?_
    refine R1.idx hl ⟨by omega, by omega, ?_⟩
    rintro a rfl
    (repeat (first | (refine Step.go ?_; intros) | refine iteB_t (by decide) ?_ | refine iteB_f (by decide) ?_ | (refine Duo.mk (by first | omega | exact rfl | decide) ?_; intros) | (refine Duo.mk (Clo.mk (by kernel_rfl)) ?_; intros)))
    refine callD_i (cmp_fit x) ?_
    rintro e H3 ⟨E3, b, rfl⟩
    have E4 : ExtH H0 H3 := (E.trans Sat.grown).trans E3
    (repeat (first | (refine Step.go ?_; intros) | refine iteB_t (by decide) ?_ | refine iteB_f (by decide) ?_ | (refine Duo.mk (by first | omega | exact rfl | decide) ?_; intros) | (refine Duo.mk (Clo.mk (by kernel_rfl)) ?_; intros)))
    refine iteB_i (fun h => ⟨E4, _, rfl⟩) (fun h => ?_)
    rw [w1]
    exact ih (i + 1) H3 (by omega) E4
theorem cmps_fit {p : Option Addr} {n c : Nat} {l : List CM} (hR : RowsAt CM.cells 7 H p l) (hl : l.length = n) : CallsH Try.prog 30 ⟨[.slice p n c]⟩ H (fun e H1 => ExtH H H1 ∧ ∃ b, e = .returned (.bool b)) := by
  have R0 : RowsC H p CM.cells 7 l := ⟨hR⟩
  refine F30.calls ?_
  unfold F30.go
  refine iteB_i (fun h => ⟨ExtH.refl H, _, rfl⟩) (fun h => ?_)
  have h := of_decide_eq_false h
  exact cmps_loop hl (by omega) n 0 H (by omega) (ExtH.refl H)
theorem req_fit {r : RQ} {l : List CM} (hR : RowsAt CM.cells 7 H r.c0 l) (hl : l.length = r.c1) : CallsH Try.prog 11 ⟨[.agg ⟨r.cells⟩]⟩ H (fun e H1 => ExtH H H1 ∧ ∃ b, e = .returned (.bool b) ∧ (b = true → r.key.size ≤ 2147483647 ∧ r.endd.size ≤ 2147483647 ∧ r.value.size ≤ 2147483647)) := by
  have S := Sat.start H
  refine F11.calls ?_
  unfold F11.go
  (repeat (first | (refine Step.go ?_; intros) | refine iteB_t (by decide) ?_ | refine iteB_f (by decide) ?_ | (refine Duo.mk (by first | omega | exact rfl | decide) ?_; intros) | (refine Duo.mk (Clo.mk (by kernel_rfl)) ?_; intros)))
  rename_i r0 H1 S1
  refine iteB_i (fun h => ⟨Sat.grown, _, rfl, by simp⟩) (fun h1 => ?_)
  have h1 := of_decide_eq_false h1
  (repeat (first | (refine Step.go ?_; intros) | refine iteB_t (by decide) ?_ | refine iteB_f (by decide) ?_ | (refine Duo.mk (by first | omega | exact rfl | decide) ?_; intros) | (refine Duo.mk (Clo.mk (by kernel_rfl)) ?_; intros)))
  refine iteB_i (fun h => ⟨Sat.grown, _, rfl, by simp⟩) (fun h2 => ?_)
  have h2 := of_decide_eq_false h2
  (repeat (first | (refine Step.go ?_; intros) | refine iteB_t (by decide) ?_ | refine iteB_f (by decide) ?_ | (refine Duo.mk (by first | omega | exact rfl | decide) ?_; intros) | (refine Duo.mk (Clo.mk (by kernel_rfl)) ?_; intros)))
  refine iteB_i (fun h => ⟨Sat.grown, _, rfl, by simp⟩) (fun h3 => ?_)
  have h3 := of_decide_eq_false h3
  (repeat (first | (refine Step.go ?_; intros) | refine iteB_t (by decide) ?_ | refine iteB_f (by decide) ?_ | (refine Duo.mk (by first | omega | exact rfl | decide) ?_; intros) | (refine Duo.mk (Clo.mk (by kernel_rfl)) ?_; intros)))
  have E1 : ExtH H H1 := Sat.grown
  have hb := S1.at_ (List.mem_cons_self ..)
  refine callD_i (cmps_fit (hR.ext E1) hl) ?_
  rintro e H2 ⟨E2, b, rfl⟩
  have S2 := Sat.start H2
  have A2 := atOld (E2.block_some hb)
  have E3 := E1.trans E2
  (repeat (first | (refine Step.go ?_; intros) | refine iteB_t (by decide) ?_ | refine iteB_f (by decide) ?_ | (refine Duo.mk (by first | omega | exact rfl | decide) ?_; intros) | (refine Duo.mk (Clo.mk (by kernel_rfl)) ?_; intros)))
  refine iteB_i (fun h => ⟨E3, _, rfl, by simp⟩) (fun h4 => ?_)
  (repeat (first | (refine Step.go ?_; intros) | refine iteB_t (by decide) ?_ | refine iteB_f (by decide) ?_ | (refine Duo.mk (by first | omega | exact rfl | decide) ?_; intros) | (refine Duo.mk (Clo.mk (by kernel_rfl)) ?_; intros)))
  refine iteB_i (fun h => ⟨E3, _, rfl, by simp⟩) (fun h4 => ?_)
  (repeat (first | (refine Step.go ?_; intros) | refine iteB_t (by decide) ?_ | refine iteB_f (by decide) ?_ | (refine Duo.mk (by first | omega | exact rfl | decide) ?_; intros) | (refine Duo.mk (Clo.mk (by kernel_rfl)) ?_; intros)))
  refine iteB_i (fun h => ⟨E3, _, rfl, by simp⟩) (fun h4 => ?_)
  exact ⟨E3, _, rfl, fun _ => ⟨by omega, by omega, by omega⟩⟩
theorem checkOne_ok {r : RQ} {most : Int} {l : List CM} (hR : RowsAt CM.cells 7 H r.c0 l) (hl : l.length = r.c1) : CallsH Try.prog 4 ⟨[.agg ⟨r.cells⟩, .int .i64 most]⟩ H (Gives (.bool true) H) := by
  have S := Sat.start H
  refine F4.calls ?_
  unfold F4.go
  (repeat (first | (refine Step.go ?_; intros) | refine iteB_t (by decide) ?_ | refine iteB_f (by decide) ?_ | (refine Duo.mk (by first | omega | exact rfl | decide) ?_; intros) | (refine Duo.mk (Clo.mk (by kernel_rfl)) ?_; intros)))
  rename_i r0 H1 S1
  have E1 : ExtH H H1 := Sat.grown
  have hb := S1.at_ (List.mem_cons_self ..)
  refine callD_i (req_fit (r := r) (hR.ext E1) hl) ?_
  rintro e H2 ⟨E2, b, rfl, hz⟩
  have S2 := Sat.start H2
  have A2 := atOld (E2.block_some hb)
  have E3 := E1.trans E2
  (repeat (first | (refine Step.go ?_; intros) | refine iteB_t (by decide) ?_ | refine iteB_f (by decide) ?_ | (refine Duo.mk (by first | omega | exact rfl | decide) ?_; intros) | (refine Duo.mk (Clo.mk (by kernel_rfl)) ?_; intros)))
  refine iteB_i (fun h => ⟨rfl, E3⟩) (fun h => ?_)
  obtain ⟨z1, z2, z3⟩ := hz (by simpa using h)
  (repeat (first | (refine Step.go ?_; intros) | refine iteB_t (by decide) ?_ | refine iteB_f (by decide) ?_ | (refine Duo.mk (by first | omega | exact rfl | decide) ?_; intros) | (refine Duo.mk (Clo.mk (by kernel_rfl)) ?_; intros)))
  refine iteB_i (fun h1 => ?_) (fun h1 => ?_)
  · refine gives_i S2 ckLive_ok ?_
    intro H3 E4 S3
    (repeat (first | (refine Step.go ?_; intros) | refine iteB_t (by decide) ?_ | refine iteB_f (by decide) ?_ | (refine Duo.mk (by first | omega | exact rfl | decide) ?_; intros) | (refine Duo.mk (Clo.mk (by kernel_rfl)) ?_; intros)))
    exact ⟨rfl, E3.trans E4⟩
  have h1 := of_decide_eq_false h1
  (repeat (first | (refine Step.go ?_; intros) | refine iteB_t (by decide) ?_ | refine iteB_f (by decide) ?_ | (refine Duo.mk (by first | omega | exact rfl | decide) ?_; intros) | (refine Duo.mk (Clo.mk (by kernel_rfl)) ?_; intros)))
  refine iteB_i (fun h2 => ?_) (fun h2 => ?_)
  · refine gives_i S2 ckLive_ok ?_
    intro H3 E4 S3
    (repeat (first | (refine Step.go ?_; intros) | refine iteB_t (by decide) ?_ | refine iteB_f (by decide) ?_ | (refine Duo.mk (by first | omega | exact rfl | decide) ?_; intros) | (refine Duo.mk (Clo.mk (by kernel_rfl)) ?_; intros)))
    exact ⟨rfl, E3.trans E4⟩
  have h2 := of_decide_eq_false h2
  have hk : r.kind = 1 ∨ r.kind = 2 ∨ r.kind = 3 := by omega
  refine F4.L0_step ?_
  unfold F4.L0n
  (repeat (first | (refine Step.go ?_; intros) | refine iteB_t (by decide) ?_ | refine iteB_f (by decide) ?_ | (refine Duo.mk (by first | omega | exact rfl | decide) ?_; intros) | (refine Duo.mk (Clo.mk (by kernel_rfl)) ?_; intros)))
  refine gives_i S2 (check_ok (r := r) (most := most) hk (by omega) (by omega) (by omega)) ?_
  intro H3 E4 S3
  (repeat (first | (refine Step.go ?_; intros) | refine iteB_t (by decide) ?_ | refine iteB_f (by decide) ?_ | (refine Duo.mk (by first | omega | exact rfl | decide) ?_; intros) | (refine Duo.mk (Clo.mk (by kernel_rfl)) ?_; intros)))
  refine gives_i S3 (spec_ok (r := r) (most := most) hk) ?_
  intro H4 E5 S4
  (repeat (first | (refine Step.go ?_; intros) | refine iteB_t (by decide) ?_ | refine iteB_f (by decide) ?_ | (refine Duo.mk (by first | omega | exact rfl | decide) ?_; intros) | (refine Duo.mk (Clo.mk (by kernel_rfl)) ?_; intros)))
  refine iteB_t (by simp) ?_
  refine gives_i S4 ckLive_ok ?_
  intro H5 E6 S5
  (repeat (first | (refine Step.go ?_; intros) | refine iteB_t (by decide) ?_ | refine iteB_f (by decide) ?_ | (refine Duo.mk (by first | omega | exact rfl | decide) ?_; intros) | (refine Duo.mk (Clo.mk (by kernel_rfl)) ?_; intros)))
  exact ⟨rfl, ((E3.trans E4).trans E5).trans E6⟩
end
end Go.Proofs.Ytcejmnfjkdjobaa
