/- What functions of this seat do, each proved by a walk; no condition. -/
import Derived.Test.YtkenjnllegbmjaaQD
set_option linter.unusedVariables false
namespace Go.Proofs.Ytkenjnllegbmjaa
open Go Go.Den Go.Proofs
theorem wr {i : Int} (h0 : -9223372036854775808 ≤ i) (h1 : i < 9223372036854775808) : IntKind.wrap .i64 i = i := wr64 h0 h1
theorem wr_par {j : Nat} (h : j < 4611686018427387904) : IntKind.wrap .i64 (Int.tdiv (IntKind.wrap .i64 ((j : Int) - 1)) 2) = ((par j : Nat) : Int) := by
  rw [wr (i := (j : Int) - 1) (by omega) (by omega)]
  unfold par
  rcases Nat.eq_zero_or_pos j with h0 | h0
  · subst h0; rfl
  · rw [Int.tdiv_eq_ediv_of_nonneg (by omega), wr (by omega) (by omega)]
    omega
abbrev qI (mq : Nat) : IV := .mk 54 (.pointer (some ⟨mq, 1, none⟩))
abbrev qV (mq : Nat) : Value := .iface 54 (.pointer (some ⟨mq, 1, none⟩))
abbrev qb (mq mb : Nat) (p : Option Addr) (n c : Nat) : HP := pt mq (.cells ⟨[.map (some mb), .slice p n c]⟩ 50)
/-- The queue: its block, its slice, its elements. -/
abbrev qs (mq mb : Nat) (p : Option Addr) (n c : Nat) (its : List It) (l : List HP) : List HP := qb mq mb p n c :: qsl p n c its :: star (bigs it 0 its) :: l
section
variable {mq mb : Nat} {p : Option Addr} {n c : Nat} {its : List It} {H : Heap} {l : List HP} {Q : List PanicEntry → Heap → Prop} {K : Value → Heap → Prop}
theorem qs_len (S : Sat H (qs mq mb p n c its l)) : its.length = n ∧ n ≤ c := by
  have := S.slLen (List.mem_cons_of_mem _ (List.mem_cons_self ..))
  simpa using this
theorem len_i (S : Sat H (qs mq mb p n c its l)) (k : ∀ H1, Sat H1 (qs mq mb p n c its l) → K (.int .i64 n) H1) : callI Try.prog (qV mq) "Len" [] H Q K := by
  refine callI_sl (e := 48) (u := 34) (f := 41) (by kernel_rfl) (by kernel_rfl) (by kernel_rfl) (by kernel_rfl) ?_
  (repeat (first | (refine Step.go ?_; intros) | refine iteB_t (by decide) ?_ | refine iteB_f (by decide) ?_ | (refine Duo.mk (by first | omega | exact rfl | decide) ?_; intros) | (refine Duo.mk (Clo.mk (by kernel_rfl)) ?_; intros)))
  refine call_of (F41.calls (R := fun e H1 => e = .returned (.int .i64 n) ∧ Sat H1 (qs mq mb p n c its l)) ?_) ?_
  · exact ⟨rfl, S⟩
  · rintro e H1 ⟨rfl, S⟩
    exact k _ S
theorem less_i {i j : Nat} {x y : It} (hi : its[i]? = some x) (hj : its[j]? = some y) (S : Sat H (qs mq mb p n c its l)) (k : ∀ H1, Sat H1 (qs mq mb p n c its l) → K (.bool (decide (x.t < y.t))) H1) : callI Try.prog (qV mq) "Less" [.int .i64 i, .int .i64 j] H Q K := by
  refine callI_sl (e := 48) (u := 34) (f := 42) (by kernel_rfl) (by kernel_rfl) (by kernel_rfl) (by kernel_rfl) ?_
  (repeat (first | (refine Step.go ?_; intros) | refine iteB_t (by decide) ?_ | refine iteB_f (by decide) ?_ | (refine Duo.mk (by first | omega | exact rfl | decide) ?_; intros) | (refine Duo.mk (Clo.mk (by kernel_rfl)) ?_; intros)))
  refine call_of (less_ok hi hj _ (qb mq mb p n c :: l) (by (refine Sat.to (by assumption) ?_; apply Ent.pick; (focus (repeat (first | exact Sel.here | apply Sel.there))); apply Ent.pick; (focus (repeat (first | exact Sel.here | apply Sel.there))); exact Ent.refl))) ?_
  rintro e H1 ⟨rfl, S⟩
  exact k _ Sat.fin
theorem swap_i {i j : Nat} {x y : It} (hi : its[i]? = some x) (hj : its[j]? = some y) (S : Sat H (qs mq mb p n c its l)) (k : ∀ H1, Sat H1 (qs mq mb p n c (swp its i j x y) l) → K (.tuple ⟨[]⟩) H1) : callI Try.prog (qV mq) "Swap" [.int .i64 i, .int .i64 j] H Q K := by
  refine callI_sl (e := 48) (u := 34) (f := 43) (by kernel_rfl) (by kernel_rfl) (by kernel_rfl) (by kernel_rfl) ?_
  (repeat (first | (refine Step.go ?_; intros) | refine iteB_t (by decide) ?_ | refine iteB_f (by decide) ?_ | (refine Duo.mk (by first | omega | exact rfl | decide) ?_; intros) | (refine Duo.mk (Clo.mk (by kernel_rfl)) ?_; intros)))
  refine call_of (swap_ok hi hj _ (qb mq mb p n c :: l) (by (refine Sat.to (by assumption) ?_; apply Ent.pick; (focus (repeat (first | exact Sel.here | apply Sel.there))); apply Ent.pick; (focus (repeat (first | exact Sel.here | apply Sel.there))); exact Ent.refl))) ?_
  rintro e H1 ⟨rfl, S⟩
  exact k _ Sat.fin
end
/-- What 'up' leaves. -/
def UpR (mq mb : Nat) (p : Option Addr) (n c : Nat) (its0 : List It) (l : List HP) : Ending → Heap → Prop := fun e H1 => ∃ its', e = .returned (.tuple ⟨[]⟩) ∧ its'.Perm its0 ∧ HpN its' n ∧ Sat H1 (qs mq mb p n c its' l)
theorem up_loop {mq mb : Nat} {p : Option Addr} {n c : Nat} {its0 : List It} {l : List HP} (hn : n < 4611686018427387904) : ∀ (j : Nat) (its : List It) (H : Heap), j < n → UpN its j n → its.Perm its0 → Sat H (qs mq mb p n c its l) → F22.L0 (qI mq) j H (UpR mq mb p n c its0 l) := by
  intro j
  induction j using Nat.strongRecOn with
  | ind j ih =>
    intro its H hj hu hp S
    obtain ⟨hl, _⟩ := qs_len S
    refine F22.L0_step ?_
    unfold F22.L0n
    refine ⟨by decide, ?_⟩
    rw [wr_par (by omega)]
    refine iteB_i (fun h => ?_) (fun h => ?_)
    · have : par j = j := by have := of_decide_eq_true h; omega
      have h0 : j = 0 := by
        rcases Nat.eq_zero_or_pos j with h | h
        · exact h
        · have := par_lt h; omega
      exact ⟨its, rfl, hp, up_done hu (.inl h0), S⟩
    · have h0 : 0 < j := by
        rcases Nat.eq_zero_or_pos j with h1 | h1
        · subst h1; simp [par] at h
        · exact h1
      have pj := par_lt h0
      obtain ⟨x, hx⟩ := get_of (l := its) (i := par j) (by omega)
      obtain ⟨y, hy⟩ := get_of (l := its) (i := j) (by omega)
      refine less_i hy hx S ?_
      intro H1 S1
      (repeat (first | (refine Step.go ?_; intros) | refine iteB_t (by decide) ?_ | refine iteB_f (by decide) ?_ | (refine Duo.mk (by first | omega | exact rfl | decide) ?_; intros) | (refine Duo.mk (Clo.mk (by kernel_rfl)) ?_; intros)))
      refine iteB_i (fun h => ?_) (fun h => ?_)
      · simp at h
        exact ⟨its, rfl, hp, up_done hu (.inr (by rw [tm_of hx, tm_of hy]; exact h)), S1⟩
      · simp at h
        refine F22.L1_step ?_
        unfold F22.L1n
        refine swap_i hx hy S1 ?_
        intro H2 S2
        (repeat (first | (refine Step.go ?_; intros) | refine iteB_t (by decide) ?_ | refine iteB_f (by decide) ?_ | (refine Duo.mk (by first | omega | exact rfl | decide) ?_; intros) | (refine Duo.mk (Clo.mk (by kernel_rfl)) ?_; intros)))
        exact ih (par j) pj _ H2 (by omega) (up_step hu h0 hj hx hy h) ((swp_perm hx hy).trans hp) S2
theorem up_ok {mq mb : Nat} {p : Option Addr} {n c : Nat} {l : List HP} {j : Nat} {its : List It} {H : Heap} (hn : n < 4611686018427387904) (hj : j < n) (hu : UpN its j n) (S : Sat H (qs mq mb p n c its l)) : CallsH Try.prog 22 ⟨[qV mq, .int .i64 j]⟩ H (UpR mq mb p n c its l) :=
  F22.calls (h1 := qI mq) (up_loop hn j its H hj hu (.refl _) S)
end Go.Proofs.Ytkenjnllegbmjaa
