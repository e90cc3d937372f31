/- What functions of this seat do, each proved by a walk; no condition. -/
import Derived.Test.YtcejmnfjkdjobaaCE
set_option linter.unusedVariables false
set_option linter.unusedSimpArgs false
set_option linter.unnecessarySimpa false
namespace Go.Proofs.Ytcejmnfjkdjobaa
open Go Go.Den Go.Proofs
/-! sort.Sort of at most twelve. -/
structure Srt (D : IV) (M : List KM → List HP) (lt : KM → KM → Bool) (n : Nat) (G : KM → Prop) : Prop where
  len : ∀ {H : Heap} {X : List KM} {Q : List PanicEntry → Heap → Prop} {K : Value → Heap → Prop}, X.length = n → (∀ z ∈ X, G z) → Sat H (M X) → (∀ H1, Sat H1 (M X) → K (.int .i64 (n : Int)) H1) → callI Try.prog D.v "Len" [] H Q K
  less : ∀ {H : Heap} {A C : List KM} {x y : KM} {i : Nat} {Q : List PanicEntry → Heap → Prop} {K : Value → Heap → Prop}, A.length = i → (A ++ y :: x :: C).length = n → (∀ z ∈ A ++ y :: x :: C, G z) → Sat H (M (A ++ y :: x :: C)) → (∀ H1, Sat H1 (M (A ++ y :: x :: C)) → K (.bool (lt x y)) H1) → callI Try.prog D.v "Less" [.int .i64 ((i : Int) + 1), .int .i64 (i : Int)] H Q K
  swap : ∀ {H : Heap} {A C : List KM} {x y : KM} {i : Nat} {Q : List PanicEntry → Heap → Prop} {K : Value → Heap → Prop}, A.length = i → (A ++ y :: x :: C).length = n → (∀ z ∈ A ++ y :: x :: C, G z) → Sat H (M (A ++ y :: x :: C)) → (∀ H1, Sat H1 (M (A ++ x :: y :: C)) → K (.tuple ⟨[]⟩) H1) → callI Try.prog D.v "Swap" [.int .i64 ((i : Int) + 1), .int .i64 (i : Int)] H Q K
section
variable {D : IV} {M : List KM → List HP} {lt : KM → KM → Bool} {n : Nat} {G : KM → Prop}
theorem ins_l1 (Z : Srt D M lt n G) (hn : n < 1000000) {x : KM} {rest : List KM} {i : Nat} {R' : Ending → Heap → Prop} : ∀ (R B : List KM) (H : Heap), (R.reverse ++ x :: (B ++ rest)).length = n → R.length + B.length = i → (∀ z ∈ R.reverse ++ x :: (B ++ rest), G z) → Sat H (M (R.reverse ++ x :: (B ++ rest))) →
    (∀ H1, Sat H1 (M (sink lt x R B ++ rest)) → F98.L2 D 0 (n : Int) (i : Int) H1 R') → F98.L1 D 0 (n : Int) (i : Int) (R.length : Int) H R' := by
  intro R
  induction R with
  | nil =>
    intro B H hl hi hG S k
    refine F98.L1_step ?_
    unfold F98.L1n
    refine iteB_f (by simp) ?_
    exact k H S
  | cons y R ih =>
    intro B H hl hi hG S k
    have e0 : (y :: R).reverse ++ x :: (B ++ rest) = R.reverse ++ y :: x :: (B ++ rest) := by simp
    rw [e0] at hl hG S
    have hlen : R.length < n := by simp at hl; omega
    have w1 : IntKind.wrap .i64 (((y :: R).length : Int) - 1) = (R.length : Int) := by simp only [List.length_cons]; rw [wr (by omega) (by omega)]; omega
    have w2 : (((y :: R).length : Nat) : Int) = (R.length : Int) + 1 := by simp
    refine F98.L1_step ?_
    unfold F98.L1n
    refine iteB_t (by rw [decide_eq_true_iff, w2]; omega) ?_
    rw [w1, w2]
    refine Z.less (by simp) hl hG S ?_
    intro H1 S1
    (repeat (first | (refine Step.go ?_; intros) | refine iteB_t (by decide) ?_ | refine iteB_f (by decide) ?_ | (refine Duo.mk (by first | omega | exact rfl | decide) ?_; intros) | (refine Duo.mk (Clo.mk (by kernel_rfl)) ?_; intros)))
    refine iteB_i (fun h => ?_) (fun h => ?_)
    · refine F98.L3_step ?_
      unfold F98.L3n
      have w3 : IntKind.wrap .i64 ((R.length : Int) + 1 - 1) = (R.length : Int) := by rw [wr (by omega) (by omega)]; omega
      rw [w3]
      refine Z.swap (by simp) hl hG S1 ?_
      intro H2 S2
      (repeat (first | (refine Step.go ?_; intros) | refine iteB_t (by decide) ?_ | refine iteB_f (by decide) ?_ | (refine Duo.mk (by first | omega | exact rfl | decide) ?_; intros) | (refine Duo.mk (Clo.mk (by kernel_rfl)) ?_; intros)))
      refine ih (y :: B) H2 (by simp at hl ⊢; omega) (by simp at hi ⊢; omega) ?_ S2 ?_
      · intro z hz
        refine hG z ?_
        simp at hz ⊢
        rcases hz with h | h | h | h | h <;> simp [h]
      · intro H3 S3
        refine k H3 ?_
        unfold sink
        rw [if_pos h]
        exact S3
    · refine k H1 ?_
      unfold sink
      rw [if_neg (by simp [h])]
      have : (R.reverse ++ y :: x :: B) ++ rest = R.reverse ++ y :: x :: (B ++ rest) := by simp
      rw [this]
      exact S1
theorem ins_l0 (Z : Srt D M lt n G) (hn : n < 1000000) : ∀ (rest S : List KM) (H : Heap), (S ++ rest).length = n → (∀ z ∈ S ++ rest, G z) → Sat H (M (S ++ rest)) →
    F98.L0 D 0 (n : Int) (S.length : Int) H (fun e H1 => e = .returned (.tuple ⟨[]⟩) ∧ Sat H1 (M (isort lt S rest))) := by
  intro rest
  induction rest with
  | nil =>
    intro S H hl hG St
    refine F98.L0_step ?_
    unfold F98.L0n
    refine iteB_f (by rw [decide_eq_false_iff_not]; simp at hl; omega) ?_
    rw [List.append_nil] at St
    exact ⟨rfl, St⟩
  | cons x rest ih =>
    intro S H hl hG St
    have hS : S.length < n := by simp at hl; omega
    have w1 : IntKind.wrap .i64 ((S.length : Int) + 1) = ((S.length + 1 : Nat) : Int) := by rw [wr (by omega) (by omega)]; omega
    refine F98.L0_step ?_
    unfold F98.L0n
    refine iteB_t (by rw [decide_eq_true_iff]; omega) ?_
    have h := ins_l1 Z hn (x := x) (rest := rest) (i := S.length) (R' := fun e H1 => e = .returned (.tuple ⟨[]⟩) ∧ Sat H1 (M (isort lt S (x :: rest)))) S.reverse [] H (by simpa using hl) (by simp) (by simpa using hG) (by simpa using St) ?_
    · simpa using h
    · intro H1 S1
      refine F98.L2_step ?_
      unfold F98.L2n
      rw [w1]
      have := ih (sink lt x S.reverse []) H1 (by rw [List.length_append, sink_len]; simp at hl ⊢; omega) ?_ S1
      · rw [sink_len] at this
        simpa [isort] using this
      · intro z hz
        rcases List.mem_append.1 hz with hz | hz
        · rcases sink_mem hz with rfl | hz | hz
          · exact hG _ (by simp)
          · exact hG _ (by simp at hz ⊢; exact .inl hz)
          · cases hz
        · exact hG _ (by simp [hz])
theorem bits_ok {x : Nat} (h : x ≤ 12) (H : Heap) : CallsH Try.prog 72 ⟨[.int .u64 (x : Int)]⟩ H (fun e H1 => ∃ k, e = .returned (.int .i64 k) ∧ H1 = H) := by
  refine F72.calls ?_
  unfold F72.go
  refine callD_i (S := fun e H1 => ∃ k, e = .returned (.int .i64 k) ∧ H1 = H) ?_ ?_
  · refine F90.calls ?_
    unfold F90.go
    refine iteB_f (by rw [decide_eq_false_iff_not]; omega) ?_
    refine F90.L0_step ?_
    unfold F90.L0n
    refine iteB_f (by rw [decide_eq_false_iff_not]; omega) ?_
    refine F90.L1_step ?_
    unfold F90.L1n
    refine iteB_f (by rw [decide_eq_false_iff_not]; omega) ?_
    refine F90.L2_step ?_
    unfold F90.L2n
    rw [wrU8 (i := (x : Int)) (by omega) (by omega)]
    refine ⟨by omega, _, getElem?_pos _ _ ?_, _, rfl, rfl⟩
    have : Int.toNat (x : Int) < 256 := by omega
    refine Nat.lt_of_lt_of_le this ?_
    exact (by kernel_rfl : Nat.ble 256 _ = true) |> Nat.le_of_ble_eq_true
  · rintro e H1 ⟨k, rfl, rfl⟩
    exact ⟨_, rfl, _, rfl, rfl⟩
theorem pdq_ok (Z : Srt D M lt n G) (hn : n ≤ 12) (h1 : 0 < n) {X : List KM} {lim : Int} {H : Heap} (hl : X.length = n) (hG : ∀ z ∈ X, G z) (S : Sat H (M X)) : CallsH Try.prog 91 ⟨[D.v, .int .i64 0, .int .i64 (n : Int), .int .i64 lim]⟩ H (fun e H1 => e = .returned (.tuple ⟨[]⟩) ∧ Sat H1 (M (isort lt [] X))) := by
  refine F91.calls ?_
  unfold F91.go
  refine F91.L0_step ?_
  unfold F91.L0n
  refine iteB_t (by rw [wr (by omega) (by omega), decide_eq_true_iff]; omega) ?_
  refine callD_i (S := fun e H1 => e = .returned (.tuple ⟨[]⟩) ∧ Sat H1 (M (isort lt [] X))) ?_ ?_
  · refine F98.calls ?_
    unfold F98.go
    have w : IntKind.wrap .i64 ((0 : Int) + 1) = ((1 : Nat) : Int) := by rw [wr (by omega) (by omega)]; rfl
    rw [w]
    cases X with
    | nil => simp at hl; omega
    | cons x X =>
      have := ins_l0 Z (by omega) X [x] H (by simpa using hl) (by simpa using hG) S
      exact this
  · rintro e H1 ⟨rfl, S1⟩
    (repeat (first | (refine Step.go ?_; intros) | refine iteB_t (by decide) ?_ | refine iteB_f (by decide) ?_ | (refine Duo.mk (by first | omega | exact rfl | decide) ?_; intros) | (refine Duo.mk (Clo.mk (by kernel_rfl)) ?_; intros)))
    exact ⟨rfl, S1⟩
theorem sort_ok (Z : Srt D M lt n G) (hn : n ≤ 12) {X : List KM} {H : Heap} (hl : X.length = n) (hG : ∀ z ∈ X, G z) (S : Sat H (M X)) : CallsH Try.prog 75 ⟨[D.v]⟩ H (fun e H1 => e = .returned (.tuple ⟨[]⟩) ∧ Sat H1 (M (isort lt [] X))) := by
  refine F75.calls ?_
  unfold F75.go
  refine Z.len hl hG S ?_
  intro H1 S1
  (repeat (first | (refine Step.go ?_; intros) | refine iteB_t (by decide) ?_ | refine iteB_f (by decide) ?_ | (refine Duo.mk (by first | omega | exact rfl | decide) ?_; intros) | (refine Duo.mk (Clo.mk (by kernel_rfl)) ?_; intros)))
  refine iteB_i (fun h => ?_) (fun h => ?_)
  · have h := of_decide_eq_true h
    have : isort lt [] X = X := by
      rcases X with _ | ⟨x, _ | ⟨y, X⟩⟩
      · rfl
      · rfl
      · simp at hl; omega
    rw [this]
    exact ⟨rfl, S1⟩
  · have h := of_decide_eq_false h
    have w : IntKind.wrap .u64 (n : Int) = (n : Int) := wrU64 (by omega) (by omega)
    rw [w]
    refine callD_i (bits_ok (by omega) H1) ?_
    rintro e H2 ⟨k, rfl, rfl⟩
    (repeat (first | (refine Step.go ?_; intros) | refine iteB_t (by decide) ?_ | refine iteB_f (by decide) ?_ | (refine Duo.mk (by first | omega | exact rfl | decide) ?_; intros) | (refine Duo.mk (Clo.mk (by kernel_rfl)) ?_; intros)))
    refine callD_i (pdq_ok Z hn (by omega) hl hG S1) ?_
    rintro e H3 ⟨rfl, S3⟩
    (repeat (first | (refine Step.go ?_; intros) | refine iteB_t (by decide) ?_ | refine iteB_f (by decide) ?_ | (refine Duo.mk (by first | omega | exact rfl | decide) ?_; intros) | (refine Duo.mk (Clo.mk (by kernel_rfl)) ?_; intros)))
    exact ⟨rfl, S3⟩
end
end Go.Proofs.Ytcejmnfjkdjobaa
