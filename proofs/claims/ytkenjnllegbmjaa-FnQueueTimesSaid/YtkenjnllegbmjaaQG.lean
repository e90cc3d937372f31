/- What functions of this seat do, each proved by a walk; no condition. -/
import Derived.Test.YtkenjnllegbmjaaQF
set_option linter.unusedVariables false
namespace Go.Proofs.Ytkenjnllegbmjaa
open Go Go.Den Go.Proofs
abbrev itB (x : It) (i : Int) : HP := pt x.b (.cells ⟨itemCells x i⟩ 52)
section
variable {mq mb : Nat} {p : Option Addr} {n c : Nat} {its : List It} {H : Heap} {l : List HP}
theorem push_m {x : It} {i : Int} (hn : n < 1000000) (S : Sat H (itB x i :: qs mq mb p n c its l)) : CallsH Try.prog 46 ⟨[.pointer (some ⟨mq, 1, none⟩), .iface 34 (.pointer (some ⟨x.b, 0, none⟩))]⟩ H
    (fun e H1 => ∃ p' c', e = .returned (.tuple ⟨[]⟩) ∧ Sat H1 (qs mq mb p' (n + 1) c' (its ++ [x]) l)) := by
  refine F46.calls (x := .mk 34 (.pointer (some ⟨x.b, 0, none⟩))) ?_
  unfold F46.go
  obtain ⟨hl, _⟩ := qs_len (S.to (Ent.drop .refl))
  (repeat (first | (refine Step.go ?_; intros) | refine iteB_t (by decide) ?_ | refine iteB_f (by decide) ?_ | (refine Duo.mk (by first | omega | exact rfl | decide) ?_; intros) | (refine Duo.mk (Clo.mk (by kernel_rfl)) ?_; intros)))
  rename_i p' c' _ _ _ _
  refine ⟨p', c', rfl, ?_⟩
  have e1 : its.map (·.b) ++ [x.b] = (its ++ [x]).map (·.b) := by simp
  have S4 := Sat.to (l := _) (m := qb mq mb p' (n + 1) c' :: qsl p' (n + 1) c' (its ++ [x]) :: it n x :: star (bigs it 0 its) :: l) ‹_› (by rw [e1]; exact Fits.out)
  refine S4.to (.cons (.cons ?_))
  rw [bigs_append]
  refine Ent.trans .consStar (.starPerm ?_)
  simp only [Nat.zero_add, hl, bigs]
  exact List.perm_append_singleton _ _ |>.symm
theorem pop_m {x : It} (hn : n < 1000000) (S : Sat H (qs mq mb p (n + 1) c (its ++ [x]) l)) : CallsH Try.prog 45 ⟨[.pointer (some ⟨mq, 1, none⟩)]⟩ H
    (fun e H1 => e = .returned (.iface 34 (.pointer (some ⟨x.b, 0, none⟩))) ∧ Sat H1 (qs mq mb p n c its (itB x (-1) :: l))) := by
  refine F45.calls ?_
  unfold F45.go
  obtain ⟨hl, hc⟩ := qs_len S
  simp at hl
  (repeat (first | (refine Step.go ?_; intros) | refine iteB_t (by decide) ?_ | refine iteB_f (by decide) ?_ | (refine Duo.mk (by first | omega | exact rfl | decide) ?_; intros) | (refine Duo.mk (Clo.mk (by kernel_rfl)) ?_; intros)))
  have e0 : IntKind.wrap .i64 (((n + 1 : Nat) : Int) - 1) = (n : Int) := by rw [wr (by omega) (by omega)]; omega
  rw [e0]
  refine S.idx ⟨by omega, by omega, ?_⟩
  rintro r o rfl
  have a1 : HasI ((its ++ [x]).map (·.b)) (n : Int) x.b := ⟨by simp [← hl]⟩
  have hR : (bigs it 0 (its ++ [x])).Perm (it n x :: bigs it 0 its) := by
    rw [bigs_append]
    simp only [Nat.zero_add, hl, bigs]
    exact List.perm_append_singleton _ _
  have S4 := (S.bring (.there (.there .here))).to ((Ent.starPerm hR).trans .starCons)
  (repeat (first | (refine Step.go ?_; intros) | refine iteB_t (by decide) ?_ | refine iteB_f (by decide) ?_ | (refine Duo.mk (by first | omega | exact rfl | decide) ?_; intros) | (refine Duo.mk (Clo.mk (by kernel_rfl)) ?_; intros)))
  rename_i H3 S3
  simp only [Int.toNat_natCast, Int.toNat_zero, slP_zero, Nat.sub_zero] at S3
  refine ⟨rfl, ?_⟩
  have S5 : Sat H3 (qsl (some ⟨r, o, none⟩) (n + 1) c (its ++ [x]) :: star (bigs it 0 its) :: qb mq mb (some ⟨r, o, none⟩) n c :: itB x (-1) :: l) := Sat.fin
  have S6 := S5.to (Ent.slPart (lo := 0) (hi := n) (mx := c) (by omega) (by omega) (by omega) (by omega))
  rw [slP_zero, Nat.sub_zero, Nat.sub_zero, List.drop_zero] at S6
  have e1 : (((its ++ [x]).map (·.b)).take n) = its.map (·.b) := by rw [← List.map_take, ← hl, List.take_left]
  rw [e1] at S6
  exact S6.done
theorem hp_mono {its its' : List It} {n m : Nat} (h : HpN its n) (hm : m ≤ n) (he : ∀ k, k < m → its'[k]? = its[k]?) : HpN its' m := by
  intro i h0 h1
  have := par_lt h0
  have a := h i h0 (by omega)
  unfold tm at a ⊢
  rw [he _ h1, he _ (by omega)]
  exact a
theorem fix_first {its : List It} {n : Nat} {x y : It} (h : HpN its (n + 1)) (hi : its[0]? = some x) (hj : its[n]? = some y) : FixN (swp its 0 n x y) 0 n := by
  refine ⟨fun k k0 kn hk hpk => ?_, fun k k0 kn hk h0 => by omega⟩
  have := h k k0 (by omega)
  have pk := par_lt k0
  rw [swp_tm hi hj, swp_tm hi hj, if_neg (by omega), if_neg hpk, if_neg (by omega), if_neg hk]
  exact this
/-- The first one is taken out. -/
theorem pop_ok (hn : n + 1 < 1000000) (hh : HpN its (n + 1)) (S : Sat H (qs mq mb p (n + 1) c its l)) : CallsH Try.prog 20 ⟨[qV mq]⟩ H
    (fun e H1 => ∃ x its', e = .returned (.iface 34 (.pointer (some ⟨x.b, 0, none⟩))) ∧ its[0]? = some x ∧ its.Perm (x :: its') ∧ HpN its' n ∧ Sat H1 (qs mq mb p n c its' (itB x (-1) :: l))) := by
  refine F20.calls (h1 := qI mq) ?_
  unfold F20.go
  obtain ⟨hl, hc⟩ := qs_len S
  refine len_i S ?_
  intro H1 S1
  (repeat (first | (refine Step.go ?_; intros) | refine iteB_t (by decide) ?_ | refine iteB_f (by decide) ?_ | (refine Duo.mk (by first | omega | exact rfl | decide) ?_; intros) | (refine Duo.mk (Clo.mk (by kernel_rfl)) ?_; intros)))
  have e0 : IntKind.wrap .i64 (((n + 1 : Nat) : Int) - 1) = (n : Int) := by rw [wr (by omega) (by omega)]; omega
  rw [e0]
  obtain ⟨x, hx⟩ := get_of (l := its) (i := 0) (by omega)
  obtain ⟨y, hy⟩ := get_of (l := its) (i := n) (by omega)
  refine swap_i hx hy S1 ?_
  intro H2 S2
  (repeat (first | (refine Step.go ?_; intros) | refine iteB_t (by decide) ?_ | refine iteB_f (by decide) ?_ | (refine Duo.mk (by first | omega | exact rfl | decide) ?_; intros) | (refine Duo.mk (Clo.mk (by kernel_rfl)) ?_; intros)))
  refine call_of (down_ok (i := 0) (m := n) (by omega) (by omega) (by omega) (fix_first hh hx hy) S2) ?_
  rintro e H3 ⟨its2, moved, rfl, hpm, hk, h1, h2, S3⟩
  (repeat (first | (refine Step.go ?_; intros) | refine iteB_t (by decide) ?_ | refine iteB_f (by decide) ?_ | (refine Duo.mk (by first | omega | exact rfl | decide) ?_; intros) | (refine Duo.mk (Clo.mk (by kernel_rfl)) ?_; intros)))
  have hp2 : its2.Perm its := hpm.trans (swp_perm hx hy)
  have hl2 : its2.length = n + 1 := by rw [hp2.length_eq, hl]
  have hlast : its2[n]? = some x := by rw [hk n (Nat.le_refl _), swp_get hx hy, if_pos rfl]
  have e2 : its2 = its2.take n ++ [x] := by
    have h3 := List.take_append_drop n its2
    have h4 : its2.drop n = [x] := by
      rw [List.drop_eq_getElem?_toList_append, hlast, List.drop_eq_nil_of_le (by omega)]; rfl
    rw [h4] at h3
    exact h3.symm
  have hh2 : HpN its2 n := by
    cases moved with
    | true => exact h1 rfl
    | false =>
      obtain ⟨he, hu⟩ := h2 rfl
      rw [he]
      exact up_done hu (.inl rfl)
  refine callI_i (f := 45) (by kernel_rfl) (by kernel_rfl) (by kernel_rfl) ?_
  rw [e2] at S3
  refine call_of (pop_m (by omega) S3) ?_
  rintro e H4 ⟨rfl, S4⟩
  (repeat (first | (refine Step.go ?_; intros) | refine iteB_t (by decide) ?_ | refine iteB_f (by decide) ?_ | (refine Duo.mk (by first | omega | exact rfl | decide) ?_; intros) | (refine Duo.mk (Clo.mk (by kernel_rfl)) ?_; intros)))
  refine ⟨x, its2.take n, rfl, hx, ?_, hp_mono hh2 (Nat.le_refl _) (fun k hk => by rw [List.getElem?_take, if_pos hk]), S4⟩
  refine hp2.symm.trans ?_
  rw [e2]
  simp only [List.take_append_of_le_length, List.length_take, Nat.min_eq_left (show n ≤ its2.length by omega), Nat.le_refl, List.take_take, Nat.min_self]
  exact List.perm_append_singleton _ _
end
end Go.Proofs.Ytkenjnllegbmjaa
