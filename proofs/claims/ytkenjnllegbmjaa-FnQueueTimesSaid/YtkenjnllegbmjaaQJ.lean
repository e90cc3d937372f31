/- What functions of this seat do, each proved by a walk; no condition. -/
import Derived.Test.YtkenjnllegbmjaaQI
set_option linter.unusedVariables false
namespace Go.Proofs.Ytkenjnllegbmjaa
open Go Go.Den Go.Proofs
section
variable {mq mb : Nat} {p : Option Addr} {n c : Nat} {its : List It} {m : List (Int × Nat)} {H : Heap} {l : List HP}
theorem inv_len (I : Inv its m n) (hl : its.length = n) : m.length = n := by
  have := I.perm.length_eq
  simp at this
  omega
theorem len_ok (I : Inv its m n) (S : Sat H (nqs mq mb p n c its m l)) : CallsH Try.prog 14 ⟨[.pointer (some ⟨mq, 0, none⟩)]⟩ H (fun e H1 => e = .returned (.int .i64 n) ∧ Sat H1 (nqs mq mb p n c its m l)) := by
  refine F14.calls ?_
  unfold F14.go
  (repeat (first | (refine Step.go ?_; intros) | refine iteB_t (by decide) ?_ | refine iteB_f (by decide) ?_ | (refine Duo.mk (by first | omega | exact rfl | decide) ?_; intros) | (refine Duo.mk (Clo.mk (by kernel_rfl)) ?_; intros)))
  exact ⟨by rw [inv_len I (qs_len S).1], S⟩
theorem peek_ok (I : Inv its m n) (S : Sat H (nqs mq mb p n c its m l)) : CallsH Try.prog 11 ⟨[.pointer (some ⟨mq, 0, none⟩)]⟩ H (fun e H1 => e = .returned (.pointer (match its[0]? with | some x => some ⟨x.b, 0, none⟩ | none => none)) ∧ Sat H1 (nqs mq mb p n c its m l)) := by
  refine F11.calls ?_
  unfold F11.go
  obtain ⟨hl, _⟩ := qs_len S
  refine call_of (len_ok I S) ?_
  rintro e H1 ⟨rfl, S1⟩
  (repeat (first | (refine Step.go ?_; intros) | refine iteB_t (by decide) ?_ | refine iteB_f (by decide) ?_ | (refine Duo.mk (by first | omega | exact rfl | decide) ?_; intros) | (refine Duo.mk (Clo.mk (by kernel_rfl)) ?_; intros)))
  refine iteB_i (fun h => ?_) (fun h => ?_)
  · have h0 : n = 0 := by simp at h; omega
    have : its = [] := List.eq_nil_of_length_eq_zero (by omega)
    subst this
    exact ⟨rfl, S1⟩
  · have h0 : 0 < n := by simp at h; omega
    (repeat (first | (refine Step.go ?_; intros) | refine iteB_t (by decide) ?_ | refine iteB_f (by decide) ?_ | (refine Duo.mk (by first | omega | exact rfl | decide) ?_; intros) | (refine Duo.mk (Clo.mk (by kernel_rfl)) ?_; intros)))
    obtain ⟨x, hx⟩ := get_of (l := its) (i := 0) (by omega)
    refine S1.idx ⟨by omega, by omega, ?_⟩
    rintro r o rfl
    have a1 := hasIt hx
    (repeat (first | (refine Step.go ?_; intros) | refine iteB_t (by decide) ?_ | refine iteB_f (by decide) ?_ | (refine Duo.mk (by first | omega | exact rfl | decide) ?_; intros) | (refine Duo.mk (Clo.mk (by kernel_rfl)) ?_; intros)))
    rw [hx]
    exact ⟨rfl, S1⟩
theorem mdel_perm {id : Int} {b : Nat} : ∀ {m : List (Int × Nat)} {its : List (Int × Nat)}, ((id, b) :: its).Perm m → (mdel m id).Perm its ∨ ∃ b', (id, b') ∈ its := by
  intro m its h
  have hm : (id, b) ∈ m := h.mem_iff.1 (List.mem_cons_self ..)
  cases hg : mget m id with
  | none => exact absurd rfl (mget_none hg _ hm)
  | some b0 =>
    obtain ⟨j, h1, _, h3, _⟩ := mget_at hg
    have hp : m.Perm ((id, b0) :: m.eraseIdx j) := perm_erase h1
    rw [h3]
    by_cases hb : b0 = b
    · subst hb
      exact .inl ((h.trans hp).cons_inv).symm
    · right
      have : (id, b0) ∈ (id, b) :: its := (h.trans hp).mem_iff.2 (List.mem_cons_self ..)
      rcases List.mem_cons.1 this with h4 | h4
      · cases h4; exact absurd rfl hb
      · exact ⟨b0, h4⟩
theorem unreg_ok (hn : n + 1 < 1000000) (I : Inv its m (n + 1)) (S : Sat H (nqs mq mb p (n + 1) c its m l)) : CallsH Try.prog 15 ⟨[.pointer (some ⟨mq, 0, none⟩)]⟩ H
    (fun e H1 => ∃ x its' m', e = .returned (.pointer (some ⟨x.b, 0, none⟩)) ∧ its[0]? = some x ∧ its.Perm (x :: its') ∧ Inv its' m' n ∧ Sat H1 (nqs mq mb p n c its' m' (itB x (-1) :: l))) := by
  refine F15.calls ?_
  unfold F15.go
  (repeat (first | (refine Step.go ?_; intros) | refine iteB_t (by decide) ?_ | refine iteB_f (by decide) ?_ | (refine Duo.mk (by first | omega | exact rfl | decide) ?_; intros) | (refine Duo.mk (Clo.mk (by kernel_rfl)) ?_; intros)))
  refine call_of (pop_ok hn I.hp S) ?_
  rintro e H1 ⟨x, its', rfl, hx, hpm, hh, S1⟩
  (repeat (first | (refine Step.go ?_; intros) | refine iteB_t (by decide) ?_ | refine iteB_f (by decide) ?_ | (refine Duo.mk (by first | omega | exact rfl | decide) ?_; intros) | (refine Duo.mk (Clo.mk (by kernel_rfl)) ?_; intros)))
  rename_i H2 S2
  have hnd : x.id ∉ its'.map (·.id) := by
    have := (hpm.map (·.id)).nodup_iff.1 I.nd
    simp only [List.map_cons, List.nodup_cons] at this
    exact this.1
  refine ⟨x, its', mdel m x.id, rfl, hx, hpm, ⟨hh, ?_, ?_⟩, Sat.fin⟩
  · have h1 : ((x.id, x.b) :: its'.map fun x => (x.id, x.b)).Perm m := by
      have := (hpm.map fun x => (x.id, x.b)).symm.trans I.perm
      simpa using this
    rcases mdel_perm h1 with h2 | ⟨b', h2⟩
    · exact h2.symm
    · obtain ⟨y, hy, he⟩ := List.mem_map.1 h2
      simp only [Prod.mk.injEq] at he
      exact absurd (he.1 ▸ List.mem_map_of_mem (f := (·.id)) hy) hnd
  · have := (hpm.map (·.id)).nodup_iff.1 I.nd
    simp only [List.map_cons, List.nodup_cons] at this
    exact this.2
end
theorem new_ok (H : Heap) (l : List HP) (S : Sat H l) : CallsH Try.prog 7 ⟨[]⟩ H (fun e H1 => ∃ mq mb p, e = .returned (.pointer (some ⟨mq, 0, none⟩)) ∧ Inv [] [] 0 ∧ Sat H1 (nqs mq mb p 0 0 [] [] l)) := by
  refine F7.calls ?_
  unfold F7.go
  refine call_of (S := fun e H1 => ∃ mq mb p, e = .returned (.pointer (some ⟨mq, 0, none⟩)) ∧ Inv [] [] 0 ∧ Sat H1 (nqs mq mb p 0 0 [] [] l)) (F16.calls ?_) ?_
  · unfold F16.go
    (repeat (first | (refine Step.go ?_; intros) | refine iteB_t (by decide) ?_ | refine iteB_f (by decide) ?_ | (refine Duo.mk (by first | omega | exact rfl | decide) ?_; intros) | (refine Duo.mk (Clo.mk (by kernel_rfl)) ?_; intros)))
    rename_i r H1 S1 r1 H2 S2 r2 H3 S3
    simp only [Int.toNat_zero, repZ_zero] at S3
    refine ⟨r2, r, some ⟨r1, 0, none⟩, rfl, ⟨fun i h0 h1 => by omega, by simp, by simp⟩, ?_⟩
    have S4 : Sat H3 (pt r (.map #[] 0) :: pt r1 (.cells ⟨[] ++ List.flatMap cPtr [] ++ []⟩ 34) :: pt r2 (.cells ⟨[.map (some r), .slice (some ⟨r1, 0, none⟩) 0 0]⟩ 50) :: l) := S3.to (.pick (.there (.there .here)) (.pick (.there .here) .refl))
    have S5 := S4.mpNew (Value.int .i64) pv
    have S6 := (S5.bring (.there .here)).to (Ent.slClose (n := 0) (c := 0) (z := 1) (o := 0) rfl (by simp) (by omega) rfl (by simp))
    refine S6.to ?_
    refine Ent.pick (.there (.there .here)) (.cons ?_)
    refine Ent.star (m := []) ?_
    exact .refl
  · rintro e H1 ⟨mq, mb, p, rfl, I, S1⟩
    (repeat (first | (refine Step.go ?_; intros) | refine iteB_t (by decide) ?_ | refine iteB_f (by decide) ?_ | (refine Duo.mk (by first | omega | exact rfl | decide) ?_; intros) | (refine Duo.mk (Clo.mk (by kernel_rfl)) ?_; intros)))
    exact ⟨mq, mb, p, rfl, I, S1⟩
end Go.Proofs.Ytkenjnllegbmjaa
