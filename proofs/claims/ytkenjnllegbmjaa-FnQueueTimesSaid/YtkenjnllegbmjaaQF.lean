/- What functions of this seat do, each proved by a walk; no condition. -/
import Derived.Test.YtkenjnllegbmjaaQE
set_option linter.unusedVariables false
namespace Go.Proofs.Ytkenjnllegbmjaa
open Go Go.Den Go.Proofs
theorem wr_kid {i : Nat} (h : i < 2305843009213693952) : IntKind.wrap .i64 (IntKind.wrap .i64 (2 * (i : Int)) + 1) = ((2 * i + 1 : Nat) : Int) := by
  rw [wr (i := 2 * (i : Int)) (by omega) (by omega), wr (by omega) (by omega)]; omega
theorem wr_succ {i : Nat} (h : i < 4611686018427387904) : IntKind.wrap .i64 ((i : Int) + 1) = ((i + 1 : Nat) : Int) := by rw [wr (by omega) (by omega)]; rfl
/-- What 'down' leaves, of the first m elements. -/
def DownR (mq mb : Nat) (p : Option Addr) (n c : Nat) (its0 : List It) (i0 m : Nat) (l : List HP) : Ending → Heap → Prop := fun e H1 => ∃ its' moved, e = .returned (.bool moved) ∧ its'.Perm its0 ∧ (∀ k, m ≤ k → its'[k]? = its0[k]?) ∧
  (moved = true → HpN its' m) ∧ (moved = false → its' = its0 ∧ UpN its0 i0 m) ∧ Sat H1 (qs mq mb p n c its' l)
theorem down_loop {mq mb : Nat} {p : Option Addr} {n c : Nat} {its0 : List It} {i0 m : Nat} {l : List HP} (hn : n < 1152921504606846976) (hm : m ≤ n) :
    ∀ (d i : Nat) (its : List It) (H : Heap), i + d = m + 1 → i0 ≤ i → FixN its i m → (i = i0 → its = its0) → (i ≠ i0 → 0 < i → tm its (par i) ≤ tm its i) → its.Perm its0 → (∀ k, m ≤ k → its[k]? = its0[k]?) → Sat H (qs mq mb p n c its l) →
      F21.L0 (qI mq) (i0 : Int) (m : Int) (i : Int) H (DownR mq mb p n c its0 i0 m l) := by
  intro d
  induction d using Nat.strongRecOn with
  | ind d ih =>
    intro i its H hd h0 hf he hp hpm hk S
    obtain ⟨hl, _⟩ := qs_len S
    -- the end, at i
    have stop : (∀ k, 0 < k → k < m → par k = i → tm its i ≤ tm its k) → ∀ H1, Sat H1 (qs mq mb p n c its l) → DownR mq mb p n c its0 i0 m l (.returned (.bool (decide ((i : Int) > i0)))) H1 := by
      intro hc H1 S1
      have hu := down_stop hf hc
      refine ⟨its, _, rfl, hpm, hk, fun hd => ?_, fun hd => ?_, S1⟩
      · simp at hd
        exact up_all hu (hp (by omega))
      · simp at hd
        have : i = i0 := by omega
        subst this
        have := he rfl
        subst this
        exact ⟨rfl, hu⟩
    refine F21.L0_step ?_
    unfold F21.L0n
    rw [wr_kid (by omega)]
    refine iteB_i (fun h => ?_) (fun h => ?_)
    · simp at h
      exact stop (fun k k0 km hk => by unfold par at hk; omega) H S
    · simp at h
      refine iteB_f (by simp; omega) ?_
      refine F21.L1_step ?_
      unfold F21.L1n
      rw [wr_succ (by omega)]
      obtain ⟨x, hx⟩ := get_of (l := its) (i := i) (by omega)
      obtain ⟨y, hy⟩ := get_of (l := its) (i := 2 * i + 1) (by omega)
      -- the least child, at j
      have fin : ∀ (j : Nat) (y : It) (H1 : Heap), j < m → par j = i → 0 < j → its[j]? = some y → (∀ k, 0 < k → k < m → par k = i → y.t ≤ tm its k) → Sat H1 (qs mq mb p n c its l) → F21.L3 (qI mq) (i0 : Int) (m : Int) (i : Int) (j : Int) H1 (DownR mq mb p n c its0 i0 m l) := by
        intro j y H1 hj hpj hj0 hy hs S1
        refine F21.L3_step ?_
        unfold F21.L3n
        refine less_i hy hx S1 ?_
        intro H2 S2
        (repeat (first | (refine Step.go ?_; intros) | refine iteB_t (by decide) ?_ | refine iteB_f (by decide) ?_ | (refine Duo.mk (by first | omega | exact rfl | decide) ?_; intros) | (refine Duo.mk (Clo.mk (by kernel_rfl)) ?_; intros)))
        refine iteB_i (fun h => ?_) (fun h => ?_)
        · simp at h
          refine stop (fun k k0 km hk => ?_) _ S2
          have := hs k k0 km hk
          rw [tm_of hx]; omega
        · simp at h
          refine swap_i hx hy S2 ?_
          intro H3 S3
          (repeat (first | (refine Step.go ?_; intros) | refine iteB_t (by decide) ?_ | refine iteB_f (by decide) ?_ | (refine Duo.mk (by first | omega | exact rfl | decide) ?_; intros) | (refine Duo.mk (Clo.mk (by kernel_rfl)) ?_; intros)))
          have ds := down_step hf hpj hj0 hj hx hy h hs
          have pj := par_lt hj0
          refine ih (m + 1 - j) (by omega) j _ H3 (by omega) (by omega) ds.1 (fun h => by omega) (fun _ _ => ds.2) ((swp_perm hx hy).trans hpm) (fun k hk1 => ?_) S3
          rw [swp_get hx hy, if_neg (by omega), if_neg (by omega)]
          exact hk k hk1
      have pk : ∀ k, 0 < k → par k = i → k = 2 * i + 1 ∨ k = 2 * i + 2 := fun k k0 hk => by unfold par at hk; omega
      refine iteB_i (fun h2 => ?_) (fun h2 => ?_)
      · simp at h2
        obtain ⟨z, hz⟩ := get_of (l := its) (i := 2 * i + 1 + 1) (by omega)
        refine less_i hz hy S ?_
        intro H1 S1
        (repeat (first | (refine Step.go ?_; intros) | refine iteB_t (by decide) ?_ | refine iteB_f (by decide) ?_ | (refine Duo.mk (by first | omega | exact rfl | decide) ?_; intros) | (refine Duo.mk (Clo.mk (by kernel_rfl)) ?_; intros)))
        refine iteB_i (fun h3 => ?_) (fun h3 => ?_)
        · simp at h3
          refine F21.L2_step ?_
          unfold F21.L2n
          refine fin (2 * i + 1 + 1) z H1 (by omega) (by unfold par; omega) (by omega) hz (fun k k0 km hk => ?_) S1
          rcases pk k k0 hk with rfl | rfl
          · rw [tm_of hy]; omega
          · rw [tm_of hz]; exact Int.le_refl _
        · simp at h3
          refine fin (2 * i + 1) y H1 (by omega) (by unfold par; omega) (by omega) hy (fun k k0 km hk => ?_) S1
          rcases pk k k0 hk with rfl | rfl
          · rw [tm_of hy]; exact Int.le_refl _
          · rw [tm_of hz]; omega
      · simp at h2
        refine fin (2 * i + 1) y H (by omega) (by unfold par; omega) (by omega) hy (fun k k0 km hk => ?_) S
        rcases pk k k0 hk with rfl | rfl
        · rw [tm_of hy]; exact Int.le_refl _
        · omega
theorem down_ok {mq mb : Nat} {p : Option Addr} {n c : Nat} {l : List HP} {i m : Nat} {its : List It} {H : Heap} (hn : n < 1152921504606846976) (hm : m ≤ n) (hi : i ≤ m) (hf : FixN its i m) (S : Sat H (qs mq mb p n c its l)) :
    CallsH Try.prog 21 ⟨[qV mq, .int .i64 i, .int .i64 m]⟩ H (DownR mq mb p n c its i m l) :=
  F21.calls (h1 := qI mq) (down_loop hn hm (m + 1 - i) i its H (by omega) (Nat.le_refl _) hf (fun _ => rfl) (fun h => absurd rfl h) (.refl _) (fun _ _ => rfl) S)
/-- An element at i has got another time: the heap is made one again. -/
theorem fix_ok {mq mb : Nat} {p : Option Addr} {n c : Nat} {l : List HP} {i : Nat} {its : List It} {H : Heap} (hn : n < 1152921504606846976) (hi : i < n) (hf : FixN its i n) (S : Sat H (qs mq mb p n c its l)) :
    CallsH Try.prog 17 ⟨[qV mq, .int .i64 i]⟩ H (UpR mq mb p n c its l) := by
  refine F17.calls (h1 := qI mq) ?_
  unfold F17.go
  refine len_i S ?_
  intro H1 S1
  (repeat (first | (refine Step.go ?_; intros) | refine iteB_t (by decide) ?_ | refine iteB_f (by decide) ?_ | (refine Duo.mk (by first | omega | exact rfl | decide) ?_; intros) | (refine Duo.mk (Clo.mk (by kernel_rfl)) ?_; intros)))
  refine call_of (down_ok hn (Nat.le_refl _) (by omega) hf S1) ?_
  rintro e H2 ⟨its', moved, rfl, hpm, hk, h1, h2, S2⟩
  (repeat (first | (refine Step.go ?_; intros) | refine iteB_t (by decide) ?_ | refine iteB_f (by decide) ?_ | (refine Duo.mk (by first | omega | exact rfl | decide) ?_; intros) | (refine Duo.mk (Clo.mk (by kernel_rfl)) ?_; intros)))
  cases moved with
  | true =>
    (repeat (first | (refine Step.go ?_; intros) | refine iteB_t (by decide) ?_ | refine iteB_f (by decide) ?_ | (refine Duo.mk (by first | omega | exact rfl | decide) ?_; intros) | (refine Duo.mk (Clo.mk (by kernel_rfl)) ?_; intros)))
    exact ⟨its', rfl, hpm, h1 rfl, S2⟩
  | false =>
    obtain ⟨rfl, hu⟩ := h2 rfl
    (repeat (first | (refine Step.go ?_; intros) | refine iteB_t (by decide) ?_ | refine iteB_f (by decide) ?_ | (refine Duo.mk (by first | omega | exact rfl | decide) ?_; intros) | (refine Duo.mk (Clo.mk (by kernel_rfl)) ?_; intros)))
    refine call_of (up_ok (by omega) hi hu S2) ?_
    rintro e H3 ⟨its2, rfl, hpm2, hh, S3⟩
    (repeat (first | (refine Step.go ?_; intros) | refine iteB_t (by decide) ?_ | refine iteB_f (by decide) ?_ | (refine Duo.mk (by first | omega | exact rfl | decide) ?_; intros) | (refine Duo.mk (Clo.mk (by kernel_rfl)) ?_; intros)))
    exact ⟨its2, rfl, hpm2, hh, S3⟩
end Go.Proofs.Ytkenjnllegbmjaa
