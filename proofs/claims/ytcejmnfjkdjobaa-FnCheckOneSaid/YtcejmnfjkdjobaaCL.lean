/- What functions of this seat do, each proved by a walk; no condition. -/
import Derived.Test.YtcejmnfjkdjobaaCK
set_option linter.unusedVariables false
set_option linter.unusedSimpArgs false
set_option linter.unnecessarySimpa false
namespace Go.Proofs.Ytcejmnfjkdjobaa
open Go Go.Den Go.Proofs
/-! FnTxnSorted. -/
theorem beqB (a : ByteArray) : (a == a) = true := by
  show (a.data == a.data) = true
  simp
def Fz (x : KV) : Prop := x.key.size ≤ 2147483647 ∧ x.val.size ≤ 2147483647
section
variable {H0 : Heap} {p : Option Addr} {n c : Nat} {l : List KV} {bb tg : Int}
theorem fit_ok {H : Heap} (x : KV) : CallsH Try.prog 22 ⟨[.agg ⟨x.cells⟩]⟩ H (fun e H1 => ExtH H H1 ∧ ∃ b, e = .returned (.bool b) ∧ (b = true → Fz x)) := by
  have S := Sat.start H
  refine F22.calls ?_
  unfold F22.go
  (repeat (first | (refine Step.go ?_; intros) | refine iteB_t (by decide) ?_ | refine iteB_f (by decide) ?_ | (refine Duo.mk (by first | omega | exact rfl | decide) ?_; intros) | (refine Duo.mk (Clo.mk (by kernel_rfl)) ?_; intros)))
  refine iteB_i (fun h => ⟨Sat.grown, _, rfl, by simp⟩) (fun h1 => ?_)
  have h1 := of_decide_eq_false h1
  (repeat (first | (refine Step.go ?_; intros) | refine iteB_t (by decide) ?_ | refine iteB_f (by decide) ?_ | (refine Duo.mk (by first | omega | exact rfl | decide) ?_; intros) | (refine Duo.mk (Clo.mk (by kernel_rfl)) ?_; intros)))
  refine iteB_i (fun h => ⟨Sat.grown, _, rfl, by simp⟩) (fun h2 => ?_)
  have h2 := of_decide_eq_false h2
  exact ⟨Sat.grown, _, rfl, fun _ => ⟨by omega, by omega⟩⟩
theorem fits_loop [R0 : RowsC H0 p KV.cells 6 l] (hl : l.length = n) (hn : n ≤ 2147483647) : ∀ (d i : Nat) (H : Heap), i + d = n → ExtH H0 H → (∀ x ∈ l.take i, Fz x) →
    F6.L0 p n c (n : Int) (i : Int) H (fun e H1 => ExtH H0 H1 ∧ ∃ b, e = .returned (.bool b) ∧ (b = true → n ≤ 2147483647 ∧ ∀ x ∈ l, Fz x)) := by
  intro d
  induction d with
  | zero =>
    intro i H hi E hz
    refine F6.L0_step ?_
    unfold F6.L0n
    refine iteB_f (by rw [decide_eq_false_iff_not]; omega) ?_
    rw [List.take_of_length_le (by omega)] at hz
    exact ⟨E, _, rfl, fun _ => ⟨hn, hz⟩⟩
  | succ d ih =>
    intro i H hi E hz
    obtain ⟨x, hx⟩ := get_of (l := l) (i := i) (by omega)
    have A1 : HasI l (i : Int) x := ⟨by simpa using hx⟩
    have S := Sat.start H
    have R1 : RowsC H p KV.cells 6 l := ⟨R0.out.ext E⟩
    have w1 : IntKind.wrap .i64 ((i : Int) + 1) = ((i + 1 : Nat) : Int) := by rw [wr (by omega) (by omega)]; omega
    refine F6.L0_step ?_
    unfold F6.L0n
    refine iteB_t (by rw [decide_eq_true_iff]; omega) ?_
    refine R1.idx hl ⟨by omega, by omega, ?_⟩
    rintro a rfl
    (repeat (first | (refine Step.go ?_; intros) | refine iteB_t (by decide) ?_ | refine iteB_f (by decide) ?_ | (refine Duo.mk (by first | omega | exact rfl | decide) ?_; intros) | (refine Duo.mk (Clo.mk (by kernel_rfl)) ?_; intros)))
    rename_i H2 S2
    refine callD_i (fit_ok x) ?_
    rintro e H3 ⟨E3, b, rfl, hb⟩
    have E4 : ExtH H0 H3 := (E.trans Sat.grown).trans E3
    (repeat (first | (refine Step.go ?_; intros) | refine iteB_t (by decide) ?_ | refine iteB_f (by decide) ?_ | (refine Duo.mk (by first | omega | exact rfl | decide) ?_; intros) | (refine Duo.mk (Clo.mk (by kernel_rfl)) ?_; intros)))
    refine iteB_i (fun h => ⟨E4, _, rfl, by simp⟩) (fun h => ?_)
    rw [w1]
    refine ih (i + 1) H3 (by omega) E4 ?_
    intro y hy
    rw [List.take_add_one, hx] at hy
    rcases List.mem_append.1 hy with hy | hy
    · exact hz y hy
    · simp at hy
      subst hy
      exact hb (by simpa using h)
theorem fits_ok {H : Heap} (hR : RowsAt KV.cells 6 H p l) (hl : l.length = n) : CallsH Try.prog 6 ⟨[.slice p n c]⟩ H (fun e H1 => ExtH H H1 ∧ ∃ b, e = .returned (.bool b) ∧ (b = true → n ≤ 2147483647 ∧ ∀ x ∈ l, Fz x)) := by
  have R0 : RowsC H p KV.cells 6 l := ⟨hR⟩
  refine F6.calls ?_
  unfold F6.go
  refine iteB_i (fun h => ⟨ExtH.refl H, _, rfl, by simp⟩) (fun h => ?_)
  have h := of_decide_eq_false h
  exact fits_loop hl (by omega) n 0 H (by omega) (ExtH.refl H) (by simp)
theorem near_ok {H : Heap} (i : Int) : CallsH Try.prog 23 ⟨[.int .i64 i]⟩ H (fun e H1 => ExtH H H1 ∧ ∃ b, e = .returned (.bool b) ∧ (b = true → near i)) := by
  refine F23.calls ?_
  unfold F23.go
  refine iteB_i (fun h => ?_) (fun h => ⟨ExtH.refl H, _, rfl, by simp⟩)
  have h := of_decide_eq_true h
  exact ⟨ExtH.refl H, _, rfl, fun h2 => ⟨of_decide_eq_true h2, h⟩⟩
/-- What the law asks of its key-values. -/
def SortsP (l : List KV) (n : Nat) (bb tg most : Int) : Prop := (n : Int) ≤ most ∧ 0 ≤ bb ∧ bb ≤ 2 ∧ 0 ≤ tg ∧ tg ≤ 4 ∧ (∀ x ∈ l, Near x) ∧ ∀ i x y, l[i]? = some x → l[i + 1]? = some y → ltS x.key y.key = true
theorem sorts_loop [R0 : RowsC H0 p KV.cells 6 l] (hl : l.length = n) (hn : n ≤ 2147483647) {most : Int} : ∀ (d i : Nat) (H : Heap), i + d = n → ExtH H0 H → (∀ x ∈ l.take i, Near x) → (∀ j x y, j + 1 < i → l[j]? = some x → l[j + 1]? = some y → ltS x.key y.key = true) →
    F7.L0 p n c bb tg most (n : Int) (i : Int) H (fun e H1 => ExtH H0 H1 ∧ ∃ b, e = .returned (.bool b) ∧ (b = true → SortsP l n bb tg most)) := by
  intro d
  induction d with
  | zero =>
    intro i H hi E hz ha
    refine F7.L0_step ?_
    unfold F7.L0n
    refine iteB_f (by rw [decide_eq_false_iff_not]; omega) ?_
    rw [List.take_of_length_le (by omega)] at hz
    refine iteB_i (fun h1 => ?_) (fun h => ⟨E, _, rfl, by simp⟩)
    refine iteB_i (fun h2 => ?_) (fun h => ⟨E, _, rfl, by simp⟩)
    refine iteB_i (fun h3 => ?_) (fun h => ⟨E, _, rfl, by simp⟩)
    refine iteB_i (fun h4 => ?_) (fun h => ⟨E, _, rfl, by simp⟩)
    refine ⟨E, _, rfl, fun h5 => ⟨of_decide_eq_true h1, of_decide_eq_true h2, of_decide_eq_true h3, of_decide_eq_true h4, of_decide_eq_true h5, hz, fun j x y hx hy => ?_⟩⟩
    have := (List.getElem?_eq_some_iff.1 hy).1
    exact ha j x y (by omega) hx hy
  | succ d ih =>
    intro i H hi E hz ha
    obtain ⟨x, hx⟩ := get_of (l := l) (i := i) (by omega)
    have A1 : HasI l (i : Int) x := ⟨by simpa using hx⟩
    have w1 : IntKind.wrap .i64 ((i : Int) + 1) = ((i + 1 : Nat) : Int) := by rw [wr (by omega) (by omega)]; omega
    have nxt : ∀ H', ExtH H0 H' → Near x → (0 < i → ∀ w, l[i - 1]? = some w → ltS w.key x.key = true) → F7.L1 p n c bb tg most (n : Int) (i : Int) H' (fun e H1 => ExtH H0 H1 ∧ ∃ b, e = .returned (.bool b) ∧ (b = true → SortsP l n bb tg most)) := by
      intro H' E' hnx hlt
      refine F7.L1_step ?_
      unfold F7.L1n
      rw [w1]
      refine ih (i + 1) H' (by omega) E' ?_ ?_
      · intro y hy
        rw [List.take_add_one, hx] at hy
        rcases List.mem_append.1 hy with hy | hy
        · exact hz y hy
        · simp at hy; subst hy; exact hnx
      · intro j a b hj h1 h2
        by_cases hji : j + 1 < i
        · exact ha j a b hji h1 h2
        · have hji : j + 1 = i := by omega
          rw [hji, hx] at h2
          cases h2
          exact hlt (by omega) a (by rw [← hji]; simpa using h1)
    refine F7.L0_step ?_
    unfold F7.L0n
    refine iteB_t (by rw [decide_eq_true_iff]; omega) ?_
    have S := Sat.start H
    have R1 : RowsC H p KV.cells 6 l := ⟨R0.out.ext E⟩
    refine R1.idx hl ⟨by omega, by omega, ?_⟩
    rintro a rfl
    (repeat (first | (refine Step.go ?_; intros) | refine iteB_t (by decide) ?_ | refine iteB_f (by decide) ?_ | (refine Duo.mk (by first | omega | exact rfl | decide) ?_; intros) | (refine Duo.mk (Clo.mk (by kernel_rfl)) ?_; intros)))
    refine callD_i (near_ok _) ?_
    rintro e H1 ⟨E1, b1, rfl, hb1⟩
    (repeat (first | (refine Step.go ?_; intros) | refine iteB_t (by decide) ?_ | refine iteB_f (by decide) ?_ | (refine Duo.mk (by first | omega | exact rfl | decide) ?_; intros) | (refine Duo.mk (Clo.mk (by kernel_rfl)) ?_; intros)))
    refine iteB_i (fun h => ⟨E.trans E1, _, rfl, by simp⟩) (fun g1 => ?_)
    have S1 := Sat.start H1
    have R2 : RowsC H1 (some a) KV.cells 6 l := ⟨R1.out.ext E1⟩
    (repeat (first | (refine Step.go ?_; intros) | refine iteB_t (by decide) ?_ | refine iteB_f (by decide) ?_ | (refine Duo.mk (by first | omega | exact rfl | decide) ?_; intros) | (refine Duo.mk (Clo.mk (by kernel_rfl)) ?_; intros)))
    refine callD_i (near_ok _) ?_
    rintro e H2 ⟨E2, b2, rfl, hb2⟩
    (repeat (first | (refine Step.go ?_; intros) | refine iteB_t (by decide) ?_ | refine iteB_f (by decide) ?_ | (refine Duo.mk (by first | omega | exact rfl | decide) ?_; intros) | (refine Duo.mk (Clo.mk (by kernel_rfl)) ?_; intros)))
    refine iteB_i (fun h => ⟨(E.trans E1).trans E2, _, rfl, by simp⟩) (fun g2 => ?_)
    have S2 := Sat.start H2
    have R3 : RowsC H2 (some a) KV.cells 6 l := ⟨R2.out.ext E2⟩
    (repeat (first | (refine Step.go ?_; intros) | refine iteB_t (by decide) ?_ | refine iteB_f (by decide) ?_ | (refine Duo.mk (by first | omega | exact rfl | decide) ?_; intros) | (refine Duo.mk (Clo.mk (by kernel_rfl)) ?_; intros)))
    refine callD_i (near_ok _) ?_
    rintro e H3 ⟨E3, b3, rfl, hb3⟩
    have E9 := ((E.trans E1).trans E2).trans E3
    (repeat (first | (refine Step.go ?_; intros) | refine iteB_t (by decide) ?_ | refine iteB_f (by decide) ?_ | (refine Duo.mk (by first | omega | exact rfl | decide) ?_; intros) | (refine Duo.mk (Clo.mk (by kernel_rfl)) ?_; intros)))
    refine iteB_i (fun h => ⟨E9, _, rfl, by simp⟩) (fun g3 => ?_)
    have S3 := Sat.start H3
    have R4 : RowsC H3 (some a) KV.cells 6 l := ⟨R3.out.ext E3⟩
    have hnx : Near x := ⟨hb1 (by simpa using g1), hb2 (by simpa using g2), hb3 (by simpa using g3)⟩
    (repeat (first | (refine Step.go ?_; intros) | refine iteB_t (by decide) ?_ | refine iteB_f (by decide) ?_ | (refine Duo.mk (by first | omega | exact rfl | decide) ?_; intros) | (refine Duo.mk (Clo.mk (by kernel_rfl)) ?_; intros)))
    refine iteB_i (fun h => ⟨E9, _, rfl, by simp⟩) (fun g4 => ?_)
    (repeat (first | (refine Step.go ?_; intros) | refine iteB_t (by decide) ?_ | refine iteB_f (by decide) ?_ | (refine Duo.mk (by first | omega | exact rfl | decide) ?_; intros) | (refine Duo.mk (Clo.mk (by kernel_rfl)) ?_; intros)))
    refine iteB_i (fun h => ⟨E9, _, rfl, by simp⟩) (fun g5 => ?_)
    refine iteB_i (fun g6 => ?_) (fun g6 => ?_)
    · have g6 := of_decide_eq_true g6
      have w2 : IntKind.wrap .i64 ((i : Int) - 1) = ((i - 1 : Nat) : Int) := by rw [wr (by omega) (by omega)]; omega
      rw [w2]
      obtain ⟨w, hw⟩ := get_of (l := l) (i := i - 1) (by omega)
      have A2 : HasI l ((i - 1 : Nat) : Int) w := ⟨by simpa using hw⟩
      (repeat (first | (refine Step.go ?_; intros) | refine iteB_t (by decide) ?_ | refine iteB_f (by decide) ?_ | (refine Duo.mk (by first | omega | exact rfl | decide) ?_; intros) | (refine Duo.mk (Clo.mk (by kernel_rfl)) ?_; intros)))
      refine iteB_i (fun h => ⟨E9, _, rfl, by simp⟩) (fun g7 => ?_)
      refine nxt H3 E9 hnx (fun _ w' hw' => ?_)
      rw [hw] at hw'
      cases hw'
      rw [← ltS_flip, g7]; rfl
    · have g6 := of_decide_eq_false g6
      exact nxt H3 E9 hnx (fun h => by omega)
theorem sorts_ok {H : Heap} (hR : RowsAt KV.cells 6 H p l) (hl : l.length = n) (hn : n ≤ 2147483647) {most : Int} : CallsH Try.prog 7 ⟨[.slice p n c, .int .i64 bb, .int .i64 tg, .int .i64 most]⟩ H (fun e H1 => ExtH H H1 ∧ ∃ b, e = .returned (.bool b) ∧ (b = true → SortsP l n bb tg most)) := by
  have R0 : RowsC H p KV.cells 6 l := ⟨hR⟩
  refine F7.calls ?_
  unfold F7.go
  exact sorts_loop hl hn n 0 H (by omega) (ExtH.refl H) (by simp) (fun j x y h => by omega)
theorem same_loop {q : Option Addr} {d : Nat} [R1 : RowsC H0 p KV.cells 6 l] [R2 : RowsC H0 q KV.cells 6 l] (hl : l.length = n) (hn : n < 1000000) : ∀ (k i : Nat) (H : Heap), i + k = n → ExtH H0 H →
    F9.L0 p n c q n d (n : Int) (i : Int) H (Gives (.bool true) H0) := by
  intro k
  induction k with
  | zero =>
    intro i H hi E
    refine F9.L0_step ?_
    unfold F9.L0n
    refine iteB_f (by rw [decide_eq_false_iff_not]; omega) ?_
    exact ⟨rfl, E⟩
  | succ k ih =>
    intro i H hi E
    obtain ⟨x, hx⟩ := get_of (l := l) (i := i) (by omega)
    have A1 : HasI l (i : Int) x := ⟨by simpa using hx⟩
    have S := Sat.start H
    have R1' : RowsC H p KV.cells 6 l := ⟨R1.out.ext E⟩
    have R2' : RowsC H q KV.cells 6 l := ⟨R2.out.ext E⟩
    have w1 : IntKind.wrap .i64 ((i : Int) + 1) = ((i + 1 : Nat) : Int) := by rw [wr (by omega) (by omega)]; omega
    refine F9.L0_step ?_
    unfold F9.L0n
    refine iteB_t (by rw [decide_eq_true_iff]; omega) ?_
    refine R1'.idx hl ⟨by omega, by omega, ?_⟩
    rintro a rfl
    refine R2'.idx hl ⟨by omega, by omega, ?_⟩
    rintro b rfl
    (repeat (first | (refine Step.go ?_; intros) | refine iteB_t (by decide) ?_ | refine iteB_f (by decide) ?_ | (refine Duo.mk (by first | omega | exact rfl | decide) ?_; intros) | (refine Duo.mk (Clo.mk (by kernel_rfl)) ?_; intros)))
    refine eqT27 ?_
    refine iteB_f (by simp [beqB]) ?_
    rw [w1]
    exact ih (i + 1) H (by omega) E
theorem same_ok {H : Heap} {q : Option Addr} {d : Nat} (h1 : RowsAt KV.cells 6 H p l) (h2 : RowsAt KV.cells 6 H q l) (hl : l.length = n) (hn : n < 1000000) : CallsH Try.prog 9 ⟨[.slice p n c, .slice q n d]⟩ H (Gives (.bool true) H) := by
  have R1 : RowsC H p KV.cells 6 l := ⟨h1⟩
  have R2 : RowsC H q KV.cells 6 l := ⟨h2⟩
  refine F9.calls ?_
  unfold F9.go
  refine iteB_f (by simp) ?_
  exact same_loop hl hn n 0 H (by omega) (ExtH.refl H)
end
end Go.Proofs.Ytcejmnfjkdjobaa
