/- What functions of this seat do, each proved by a walk; no condition. -/
import Derived.Test.YtkenjnllegbmjaaQH
set_option linter.unusedVariables false
namespace Go.Proofs.Ytkenjnllegbmjaa
open Go Go.Den Go.Proofs
abbrev pv (b : Nat) : Value := .pointer (some ⟨b, 0, none⟩)
instance {b : Nat} : EncV pv (.pointer (some ⟨b, 0, none⟩)) b := ⟨rfl⟩
instance : MapT Try.prog 46 (Value.int .i64) pv (.pointer none) := ⟨36, 34, by kernel_rfl, KeyT.int (by kernel_rfl), by kernel_rfl⟩
abbrev nqs (mq mb : Nat) (p : Option Addr) (n c : Nat) (its : List It) (m : List (Int × Nat)) (l : List HP) : List HP := qs mq mb p n c its (mp (Value.int .i64) pv mb m :: l)
structure Inv (its : List It) (m : List (Int × Nat)) (n : Nat) : Prop where
  hp : HpN its n
  perm : (its.map fun x => (x.id, x.b)).Perm m
  nd : (its.map (·.id)).Nodup
def kt (x : It) : Int × Int := (x.id, x.t)
theorem map_set_same {α β : Type} {f : α → β} {l : List α} {i : Nat} {x y : α} (hi : l[i]? = some x) (h : f y = f x) : (l.set i y).map f = l.map f := by
  have hil := lt_of hi
  rw [List.map_set]
  refine List.ext_getElem? fun k => ?_
  rw [List.getElem?_set]
  split
  · rename_i hik; subst hik; simp [hi, h, hil]
    rw [List.getElem?_eq_getElem hil] at hi
    injection hi with hi
    rw [hi]
  · rfl
theorem mget_none {κ ν : Type} [DecidableEq κ] {k : κ} : ∀ {m : List (κ × ν)}, mget m k = none → ∀ x ∈ m, x.1 ≠ k
  | [], _, x, h => by cases h
  | (a, v) :: m, h, x, hx => by
    unfold mget at h
    split at h
    · cases h
    · rename_i hk
      rcases List.mem_cons.1 hx with rfl | hx
      · exact fun e => hk e.symm
      · exact mget_none h x hx
theorem set_perm_filter {ν : Type} {id : Int} {t : ν} : ∀ {l : List (Int × ν)} {i : Nat} {t0 : ν}, (l.map (·.1)).Nodup → l[i]? = some (id, t0) → (l.set i (id, t)).Perm (l.filter (fun q => q.1 != id) ++ [(id, t)])
  | [], i, t0, _, h => by simp at h
  | (k, v) :: l, 0, t0, hn, h => by
    simp at h
    obtain ⟨rfl, rfl⟩ := h
    simp only [List.map_cons, List.nodup_cons] at hn
    have : l.filter (fun q => q.1 != k) = l := List.filter_eq_self.2 fun q hq => by
      simp; intro e; exact hn.1 (e ▸ List.mem_map_of_mem hq)
    simp only [List.set_cons_zero, List.filter_cons, bne_self_eq_false, Bool.false_eq_true, if_false, this]
    exact (List.perm_append_singleton _ _).symm
  | (k, v) :: l, i + 1, t0, hn, h => by
    simp only [List.map_cons, List.nodup_cons] at hn
    have hi : l[i]? = some (id, t0) := by simpa using h
    have hk : k ≠ id := fun e => hn.1 (e ▸ List.mem_map_of_mem (f := (·.1)) (List.mem_of_getElem? hi))
    simp only [List.set_cons_succ, List.filter_cons, bne_iff_ne, ne_eq, hk, not_false_eq_true, if_true, List.cons_append]
    exact (set_perm_filter hn.2 hi).cons _
theorem fix_any {its : List It} {n i : Nat} {x y : It} (h : HpN its n) (hi : its[i]? = some x) : FixN (its.set i y) i n := by
  have e : ∀ k, k ≠ i → tm (its.set i y) k = tm its k := fun k hk => by unfold tm; rw [List.getElem?_set_ne (Ne.symm hk)]
  refine ⟨fun k k0 kn hk hpk => ?_, fun k k0 kn hk h0 => ?_⟩
  · rw [e _ hk, e _ hpk]; exact h k k0 kn
  · have pk := par_lt k0
    have pi := par_lt h0
    rw [e _ (by omega), e _ (by omega)]
    have h1 := h k k0 kn
    have h2 := h i h0 (by omega)
    rw [hk] at h1
    omega
theorem up_new {its : List It} {n : Nat} {x : It} (h : HpN its n) (hl : its.length = n) : UpN (its ++ [x]) n (n + 1) := by
  have e : ∀ k, k < n → tm (its ++ [x]) k = tm its k := fun k hk => by unfold tm; rw [List.getElem?_append_left (by omega)]
  refine ⟨fun k k0 kn hk => ?_, fun k k0 kn hk h0 => ?_⟩
  · have pk := par_lt k0
    rw [e _ (by omega), e _ (by omega)]; exact h k k0 (by omega)
  · have pk := par_lt k0
    omega
section
variable {mq mb : Nat} {p : Option Addr} {n c : Nat} {its : List It} {m : List (Int × Nat)} {H : Heap} {l : List HP}
theorem hpush_ok {x : It} {i : Int} (hn : n < 1000000) (hh : HpN its n) (S : Sat H (qs mq mb p n c its (itB x i :: l))) : CallsH Try.prog 18 ⟨[qV mq, .iface 34 (.pointer (some ⟨x.b, 0, none⟩))]⟩ H
    (fun e H1 => ∃ p' c' its', e = .returned (.tuple ⟨[]⟩) ∧ its'.Perm (its ++ [x]) ∧ HpN its' (n + 1) ∧ Sat H1 (qs mq mb p' (n + 1) c' its' l)) := by
  refine F18.calls (h1 := qI mq) (x := .mk 34 (.pointer (some ⟨x.b, 0, none⟩))) ?_
  unfold F18.go
  obtain ⟨hl, _⟩ := qs_len S
  refine callI_i (f := 46) (by kernel_rfl) (by kernel_rfl) (by kernel_rfl) ?_
  refine call_of (push_m (x := x) (i := i) (its := its) (p := p) (c := c) (mb := mb) (l := l) hn Sat.fin) ?_
  rintro e H1 ⟨p', c', rfl, S1⟩
  (repeat (first | (refine Step.go ?_; intros) | refine iteB_t (by decide) ?_ | refine iteB_f (by decide) ?_ | (refine Duo.mk (by first | omega | exact rfl | decide) ?_; intros) | (refine Duo.mk (Clo.mk (by kernel_rfl)) ?_; intros)))
  refine len_i S1 ?_
  intro H2 S2
  (repeat (first | (refine Step.go ?_; intros) | refine iteB_t (by decide) ?_ | refine iteB_f (by decide) ?_ | (refine Duo.mk (by first | omega | exact rfl | decide) ?_; intros) | (refine Duo.mk (Clo.mk (by kernel_rfl)) ?_; intros)))
  have e0 : IntKind.wrap .i64 (((n + 1 : Nat) : Int) - 1) = (n : Int) := by rw [wr (by omega) (by omega)]; omega
  rw [e0]
  refine call_of (up_ok (by omega) (by omega) (up_new hh hl) S2) ?_
  rintro e H3 ⟨its', rfl, hp, h2, S3⟩
  (repeat (first | (refine Step.go ?_; intros) | refine iteB_t (by decide) ?_ | refine iteB_f (by decide) ?_ | (refine Duo.mk (by first | omega | exact rfl | decide) ?_; intros) | (refine Duo.mk (Clo.mk (by kernel_rfl)) ?_; intros)))
  exact ⟨p', c', its', rfl, hp, h2, S3⟩
theorem reg_ok {b : Nat} {id t : Int} (hn : n < 1000000) (I : Inv its m n) (S : Sat H (nqs mq mb p n c its m (itB ⟨b, id, t⟩ 0 :: l))) : CallsH Try.prog 8 ⟨[.pointer (some ⟨mq, 0, none⟩), .pointer (some ⟨b, 0, none⟩)]⟩ H
    (fun e H1 => ∃ p' n' c' its' m', e = .returned (.tuple ⟨[]⟩) ∧ Inv its' m' n' ∧ n' ≤ n + 1 ∧ (its'.map kt).Perm ((its.map kt).filter (fun q => q.1 != id) ++ [(id, t)]) ∧ Sat H1 (nqs mq mb p' n' c' its' m' l)) := by
  refine F8.calls ?_
  unfold F8.go
  obtain ⟨hl, _⟩ := qs_len S
  (repeat (first | (refine Step.go ?_; intros) | refine iteB_t (by decide) ?_ | refine iteB_f (by decide) ?_ | (refine Duo.mk (by first | omega | exact rfl | decide) ?_; intros) | (refine Duo.mk (Clo.mk (by kernel_rfl)) ?_; intros)))
  refine ⟨fun ob hob => ?_, fun hno => ?_⟩
  · obtain ⟨j, hj, _⟩ := mget_at hob
    have hmem : (id, ob) ∈ its.map fun x => (x.id, x.b) := I.perm.mem_iff.2 (List.mem_of_getElem? hj)
    obtain ⟨⟨xb, xid, t0⟩, hx, hxe⟩ := List.mem_map.1 hmem
    simp only [Prod.mk.injEq] at hxe
    obtain ⟨rfl, rfl⟩ := hxe
    obtain ⟨i, hi⟩ := List.getElem?_of_mem hx
    have hil := lt_of hi
    obtain ⟨R, S1, back⟩ := (S.bring (.there (.there .here))).bigOut hi
    rw [Nat.zero_add] at S1 back
    (repeat (first | (refine Step.go ?_; intros) | refine iteB_t (by decide) ?_ | refine iteB_f (by decide) ?_ | (refine Duo.mk (by first | omega | exact rfl | decide) ?_; intros) | (refine Duo.mk (Clo.mk (by kernel_rfl)) ?_; intros)))
    rename_i H1 S2
    have S3 := S2.to (Ent.trans (Fits.out (m := it i ⟨xb, xid, t⟩ :: star R :: _)) (back ⟨xb, xid, t⟩))
    have S4 : Sat H1 (qs mq mb p n c (its.set i ⟨xb, xid, t⟩) (mp (Value.int .i64) pv mb m :: l)) := by
      have e1 : (its.set i ⟨xb, xid, t⟩).map (·.b) = its.map (·.b) := map_set_same hi rfl
      unfold qs qsl
      rw [e1]
      exact S3.done
    refine call_of (fix_ok (i := i) (by omega) (by omega) (fix_any I.hp hi) S4) ?_
    rintro e H2 ⟨its', rfl, hpm, hh, S5⟩
    (repeat (first | (refine Step.go ?_; intros) | refine iteB_t (by decide) ?_ | refine iteB_f (by decide) ?_ | (refine Duo.mk (by first | omega | exact rfl | decide) ?_; intros) | (refine Duo.mk (Clo.mk (by kernel_rfl)) ?_; intros)))
    refine ⟨p, n, c, its', m, rfl, ⟨hh, ?_, ?_⟩, by omega, ?_, S5⟩
    · have e1 : (its.set i ⟨xb, xid, t⟩).map (fun x => (x.id, x.b)) = its.map (fun x => (x.id, x.b)) := map_set_same hi rfl
      exact ((hpm.map _).trans (e1 ▸ .refl _)).trans I.perm
    · have e1 : (its.set i ⟨xb, xid, t⟩).map (·.id) = its.map (·.id) := map_set_same hi rfl
      exact ((hpm.map _).nodup_iff.2 (by rw [e1]; exact I.nd))
    · refine (hpm.map _).trans ?_
      rw [List.map_set]
      refine set_perm_filter (t0 := t0) ?_ (by simp [hi, kt])
      rw [List.map_map]
      exact I.nd
  · have hnone := mget_none hno
    have hids : ∀ x ∈ its, x.id ≠ id := fun x hx => hnone (x.id, x.b) (I.perm.mem_iff.1 (List.mem_map_of_mem hx))
    (repeat (first | (refine Step.go ?_; intros) | refine iteB_t (by decide) ?_ | refine iteB_f (by decide) ?_ | (refine Duo.mk (by first | omega | exact rfl | decide) ?_; intros) | (refine Duo.mk (Clo.mk (by kernel_rfl)) ?_; intros)))
    refine call_of (hpush_ok (x := ⟨b, id, t⟩) (i := 0) (its := its) (p := p) (n := n) (c := c) (mb := mb) (l := mp (Value.int .i64) pv mb m :: l) hn I.hp Sat.fin) ?_
    rintro e H1 ⟨p', c', its', rfl, hpm, hh, S1⟩
    have hx : (⟨b, id, t⟩ : It) ∈ its' := hpm.mem_iff.2 (by simp)
    obtain ⟨i, hi⟩ := List.getElem?_of_mem hx
    have A := atIt hi
    (repeat (first | (refine Step.go ?_; intros) | refine iteB_t (by decide) ?_ | refine iteB_f (by decide) ?_ | (refine Duo.mk (by first | omega | exact rfl | decide) ?_; intros) | (refine Duo.mk (Clo.mk (by kernel_rfl)) ?_; intros)))
    rename_i H2 S2
    refine ⟨p', n + 1, c', its', _, rfl, ⟨hh, ?_, ?_⟩, by omega, ?_, S2⟩
    · rw [mset_none hno]
      refine (hpm.map _).trans ?_
      simp only [List.map_append, List.map_cons, List.map_nil]
      exact I.perm.append_right _
    · refine (hpm.map _).nodup_iff.2 ?_
      simp only [List.map_append, List.map_cons, List.map_nil]
      rw [List.nodup_append]
      refine ⟨I.nd, by simp, ?_⟩
      intro a ha b' hb
      simp at hb
      subst hb
      obtain ⟨x, hx, rfl⟩ := List.mem_map.1 ha
      exact hids x hx
    · refine (hpm.map _).trans ?_
      simp only [List.map_append, List.map_cons, List.map_nil]
      have : (its.map kt).filter (fun q => q.1 != id) = its.map kt := List.filter_eq_self.2 fun q hq => by
        obtain ⟨x, hx, rfl⟩ := List.mem_map.1 hq
        simpa [kt] using hids x hx
      rw [this]
      exact .refl _
end
end Go.Proofs.Ytkenjnllegbmjaa
