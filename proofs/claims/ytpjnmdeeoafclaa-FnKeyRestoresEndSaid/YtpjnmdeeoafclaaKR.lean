/- What functions of this seat do, each proved by a walk; no condition. -/
import Derived.Test.YtpjnmdeeoafclaaKQ
set_option linter.unusedVariables false
set_option linter.unusedSimpArgs false
namespace Go.Proofs.Ytpjnmdeeoafclaa
open Go Go.Den Go.Proofs
/-! The doors. -/
theorem KiS.to {H : Heap} {kb : Nat} {key : Value} {md : Rv} {G : List Gn} {l m : List HP} (S : KiS H kb key md G l) (e : Ent l m) : KiS H kb key md G m := by
  obtain ⟨p, n, c, X, h, S⟩ := S
  exact ⟨p, n, c, X, h, S.to (.cons (.cons (.cons e)))⟩
theorem KiS.in {H : Heap} {kb : Nat} {key : Value} {md : Rv} {G : List Gn} {l m : List HP} (S : KiS H kb key md G l) : ∃ p n c X, X.map gx = G ∧ Sat H (kis kb key md p n c X l) := S
abbrev zV (kb : Nat) : Value := .agg ⟨[.pointer (some ⟨kb, 0, none⟩)]⟩
section
variable {kb : Nat} {key : Value} {md : Rv} {G : List Gn} {l : List HP} {H : Heap}
theorem mPut {rev : Rv} (hG : GOk G) (hgt : gtB rev md = true) (S : KiS H kb key md G l) : CallsH Try.prog 36 ⟨[zV kb, .agg ⟨[.int .i64 rev.1, .int .i64 rev.2]⟩]⟩ H
    (fun e H1 => e = .returned (.tuple ⟨[]⟩) ∧ KiS H1 kb key rev (putGs G rev) l) := by
  obtain ⟨p, n, c, X, rfl, S⟩ := S
  refine F36.calls ?_
  unfold F36.go
  (repeat (first | (refine Step.go ?_; intros) | refine iteB_t (by decide) ?_ | refine iteB_f (by decide) ?_ | (refine Duo.mk (by first | omega | exact rfl | decide) ?_; intros) | (refine Duo.mk (Clo.mk (by kernel_rfl)) ?_; intros)))
  rename_i r1 _ _ r2 H1 S1
  have S2 : KiS H1 kb key md (X.map gx) (pt r1 (.cells ⟨[.pointer (some ⟨kb, 0, none⟩)]⟩ 57) :: pt r2 (.cells ⟨[.int .i64 rev.1, .int .i64 rev.2]⟩ 60) :: l) := ⟨p, n, c, X, rfl, S1.to Fits.out⟩
  refine call_of (put_ok hG hgt S2) ?_
  rintro e H3 ⟨rfl, S3⟩
  (repeat (first | (refine Step.go ?_; intros) | refine iteB_t (by decide) ?_ | refine iteB_f (by decide) ?_ | (refine Duo.mk (by first | omega | exact rfl | decide) ?_; intros) | (refine Duo.mk (Clo.mk (by kernel_rfl)) ?_; intros)))
  exact ⟨rfl, S3.to (.drop (.drop .refl))⟩
theorem mTomb {rev : Rv} (hG : GOk G) (hne : G ≠ []) (hne2 : G.map (·.2.2) ≠ [[]]) (hgt : (G.getLastD g0).2.2 ≠ [] → gtB rev md = true) (S : KiS H kb key md G l) : CallsH Try.prog 37 ⟨[zV kb, .agg ⟨[.int .i64 rev.1, .int .i64 rev.2]⟩]⟩ H
    (fun e H1 => if (G.getLastD g0).2.2 = [] then (∃ v, e = .returned (.iface 122 v)) ∧ KiS H1 kb key md G l else e = .returned .nilIface ∧ KiS H1 kb key rev (putGs G rev ++ [g0]) l) := by
  obtain ⟨p, n, c, X, rfl, S⟩ := S
  refine F37.calls ?_
  unfold F37.go
  (repeat (first | (refine Step.go ?_; intros) | refine iteB_t (by decide) ?_ | refine iteB_f (by decide) ?_ | (refine Duo.mk (by first | omega | exact rfl | decide) ?_; intros) | (refine Duo.mk (Clo.mk (by kernel_rfl)) ?_; intros)))
  rename_i r1 _ _ r2 H1 S1
  have S2 : KiS H1 kb key md (X.map gx) (pt r1 (.cells ⟨[.pointer (some ⟨kb, 0, none⟩)]⟩ 57) :: pt r2 (.cells ⟨[.int .i64 rev.1, .int .i64 rev.2]⟩ 60) :: l) := ⟨p, n, c, X, rfl, S1.to Fits.out⟩
  refine call_of (tomb_ok hG hne hne2 hgt S2) ?_
  intro e H3 h
  by_cases h0 : ((X.map gx).getLastD g0).2.2 = []
  · rw [if_pos h0] at h
    obtain ⟨⟨v, rfl⟩, S3⟩ := h
    (repeat (first | (refine Step.go ?_; intros) | refine iteB_t (by decide) ?_ | refine iteB_f (by decide) ?_ | (refine Duo.mk (by first | omega | exact rfl | decide) ?_; intros) | (refine Duo.mk (Clo.mk (by kernel_rfl)) ?_; intros)))
    exact (if_pos h0).mpr ⟨⟨v, rfl⟩, S3.to (.drop (.drop .refl))⟩
  · rw [if_neg h0] at h
    obtain ⟨rfl, S3⟩ := h
    (repeat (first | (refine Step.go ?_; intros) | refine iteB_t (by decide) ?_ | refine iteB_f (by decide) ?_ | (refine Duo.mk (by first | omega | exact rfl | decide) ?_; intros) | (refine Duo.mk (Clo.mk (by kernel_rfl)) ?_; intros)))
    exact (if_neg h0).mpr ⟨rfl, S3.to (.drop (.drop .refl))⟩
theorem mRestore {cr rev : Rv} {ver : Int} (S : KiS H kb key md [] l) : CallsH Try.prog 38 ⟨[zV kb, .agg ⟨[.int .i64 cr.1, .int .i64 cr.2]⟩, .agg ⟨[.int .i64 rev.1, .int .i64 rev.2]⟩, .int .i64 ver]⟩ H
    (fun e H1 => e = .returned (.tuple ⟨[]⟩) ∧ KiS H1 kb key rev [(ver, cr, [rev])] l) := by
  obtain ⟨p, n, c, X, hX, S⟩ := S
  refine F38.calls ?_
  unfold F38.go
  (repeat (first | (refine Step.go ?_; intros) | refine iteB_t (by decide) ?_ | refine iteB_f (by decide) ?_ | (refine Duo.mk (by first | omega | exact rfl | decide) ?_; intros) | (refine Duo.mk (Clo.mk (by kernel_rfl)) ?_; intros)))
  rename_i r1 _ _ r2 _ _ r3 H1 S1
  have S2 : KiS H1 kb key md [] (pt r1 (.cells ⟨[.pointer (some ⟨kb, 0, none⟩)]⟩ 57) :: pt r2 (.cells ⟨[.int .i64 cr.1, .int .i64 cr.2]⟩ 60) :: pt r3 (.cells ⟨[.int .i64 rev.1, .int .i64 rev.2]⟩ 60) :: l) := ⟨p, n, c, X, hX, S1.to Fits.out⟩
  refine call_of (restore_ok S2) ?_
  rintro e H3 ⟨rfl, S3⟩
  (repeat (first | (refine Step.go ?_; intros) | refine iteB_t (by decide) ?_ | refine iteB_f (by decide) ?_ | (refine Duo.mk (by first | omega | exact rfl | decide) ?_; intros) | (refine Duo.mk (Clo.mk (by kernel_rfl)) ?_; intros)))
  exact ⟨rfl, S3.to (.drop (.drop (.drop .refl)))⟩
theorem mRestTomb {rev : Rv} (S : KiS H kb key md [] l) : CallsH Try.prog 39 ⟨[zV kb, .agg ⟨[.int .i64 rev.1, .int .i64 rev.2]⟩]⟩ H
    (fun e H1 => e = .returned (.tuple ⟨[]⟩) ∧ KiS H1 kb key rev [(1, (0, 0), [rev]), g0] l) := by
  obtain ⟨p, n, c, X, hX, S⟩ := S
  refine F39.calls ?_
  unfold F39.go
  (repeat (first | (refine Step.go ?_; intros) | refine iteB_t (by decide) ?_ | refine iteB_f (by decide) ?_ | (refine Duo.mk (by first | omega | exact rfl | decide) ?_; intros) | (refine Duo.mk (Clo.mk (by kernel_rfl)) ?_; intros)))
  rename_i r1 _ _ r2 H1 S1
  have S2 : KiS H1 kb key md [] (pt r1 (.cells ⟨[.pointer (some ⟨kb, 0, none⟩)]⟩ 57) :: pt r2 (.cells ⟨[.int .i64 rev.1, .int .i64 rev.2]⟩ 60) :: l) := ⟨p, n, c, X, hX, S1.to Fits.out⟩
  refine call_of (restTomb_ok S2) ?_
  rintro e H3 ⟨rfl, S3⟩
  (repeat (first | (refine Step.go ?_; intros) | refine iteB_t (by decide) ?_ | refine iteB_f (by decide) ?_ | (refine Duo.mk (by first | omega | exact rfl | decide) ?_; intros) | (refine Duo.mk (Clo.mk (by kernel_rfl)) ?_; intros)))
  exact ⟨rfl, S3.to (.drop (.drop .refl))⟩
theorem mGet {t : Int} (hG : GOk G) (hne : G ≠ []) (hne2 : G.map (·.2.2) ≠ [[]]) (S : KiS H kb key md G l) : CallsH Try.prog 40 ⟨[zV kb, .int .i64 t]⟩ H
    (fun e H1 => getR e (getG t G) ∧ KiS H1 kb key md G l) := by
  obtain ⟨p, n, c, X, rfl, S⟩ := S
  refine F40.calls ?_
  unfold F40.go
  (repeat (first | (refine Step.go ?_; intros) | refine iteB_t (by decide) ?_ | refine iteB_f (by decide) ?_ | (refine Duo.mk (by first | omega | exact rfl | decide) ?_; intros) | (refine Duo.mk (Clo.mk (by kernel_rfl)) ?_; intros)))
  rename_i r1 _ _ r2 _ _ r3 H1 S1
  have S2 : KiS H1 kb key md (X.map gx) (pt r1 (.cells ⟨[.pointer (some ⟨kb, 0, none⟩)]⟩ 57) :: pt r2 (.cells ⟨[.int .i64 0, .int .i64 0]⟩ 60) :: pt r3 (.cells ⟨[.int .i64 0, .int .i64 0]⟩ 60) :: l) := ⟨p, n, c, X, rfl, S1.to Fits.out⟩
  refine call_of (get_ok hG hne hne2 S2) ?_
  rintro e H3 ⟨h, p3, n3, c3, X3, hX3, S3⟩
  cases hg : getG t (X.map gx) with
  | none =>
    rw [hg] at h
    obtain ⟨v, rfl⟩ := h
    unfold rvV
    (repeat (first | (refine Step.go ?_; intros) | refine iteB_t (by decide) ?_ | refine iteB_f (by decide) ?_ | (refine Duo.mk (by first | omega | exact rfl | decide) ?_; intros) | (refine Duo.mk (Clo.mk (by kernel_rfl)) ?_; intros)))
    rename_i H9 S9
    exact ⟨⟨v, rfl⟩, p3, n3, c3, X3, hX3, S9.to Fits.out⟩
  | some x =>
    rw [hg] at h
    obtain rfl := h
    unfold rvV
    (repeat (first | (refine Step.go ?_; intros) | refine iteB_t (by decide) ?_ | refine iteB_f (by decide) ?_ | (refine Duo.mk (by first | omega | exact rfl | decide) ?_; intros) | (refine Duo.mk (Clo.mk (by kernel_rfl)) ?_; intros)))
    rename_i H9 S9
    exact ⟨rfl, p3, n3, c3, X3, hX3, S9.to Fits.out⟩
theorem mSince {t : Int} (hG : GOk G) (hT : (G.flatMap (·.2.2)).length < 1000000) (hr0 : ∀ x ∈ G, ∀ r ∈ x.2.2, r.1 ≠ 0) (hne : G ≠ []) (hne2 : G.map (·.2.2) ≠ [[]]) (S : KiS H kb key md G l) : CallsH Try.prog 43 ⟨[zV kb, .int .i64 t]⟩ H
    (fun e H1 => ∃ q m k, e = .returned (.slice q m k) ∧ KiS H1 kb key md G (sl rvC 60 2 q m k (sinceG t G) :: l)) := by
  obtain ⟨p, n, c, X, rfl, S⟩ := S
  refine F43.calls ?_
  unfold F43.go
  (repeat (first | (refine Step.go ?_; intros) | refine iteB_t (by decide) ?_ | refine iteB_f (by decide) ?_ | (refine Duo.mk (by first | omega | exact rfl | decide) ?_; intros) | (refine Duo.mk (Clo.mk (by kernel_rfl)) ?_; intros)))
  rename_i r1 H1 S1
  have S2 : KiS H1 kb key md (X.map gx) (pt r1 (.cells ⟨[.pointer (some ⟨kb, 0, none⟩)]⟩ 57) :: l) := ⟨p, n, c, X, rfl, S1.to Fits.out⟩
  refine call_of (since_ok hG hT hr0 hne hne2 S2) ?_
  rintro e H3 ⟨q, m, k, rfl, S3⟩
  (repeat (first | (refine Step.go ?_; intros) | refine iteB_t (by decide) ?_ | refine iteB_f (by decide) ?_ | (refine Duo.mk (by first | omega | exact rfl | decide) ?_; intros) | (refine Duo.mk (Clo.mk (by kernel_rfl)) ?_; intros)))
  exact ⟨q, m, k, rfl, S3.to (.cons (.drop .refl))⟩
theorem mCompact {t : Int} (hG : GOk G) (hne : G ≠ []) (hne2 : G.map (·.2.2) ≠ [[]]) (hne3 : ∀ i x, G[i]? = some x → i + 1 < G.length → x.2.2 ≠ []) (S : KiS H kb key md G l) : CallsH Try.prog 45 ⟨[zV kb, .int .i64 t]⟩ H
    (fun e H1 => ∃ mr, e = .returned (.map (some mr)) ∧ KiS H1 kb key md (compactG t G) (rmp mr (cpM t G []) :: l)) := by
  obtain ⟨p, n, c, X, rfl, S⟩ := S
  refine F45.calls ?_
  unfold F45.go
  (repeat (first | (refine Step.go ?_; intros) | refine iteB_t (by decide) ?_ | refine iteB_f (by decide) ?_ | (refine Duo.mk (by first | omega | exact rfl | decide) ?_; intros) | (refine Duo.mk (Clo.mk (by kernel_rfl)) ?_; intros)))
  rename_i r1 _ _ mr H1 S1
  have S0 := S1.mpNew rvV fu
  have S2 : KiS H1 kb key md (X.map gx) (rmp mr [] :: pt r1 (.cells ⟨[.pointer (some ⟨kb, 0, none⟩)]⟩ 57) :: l) := ⟨p, n, c, X, rfl, S0.to Fits.out⟩
  refine call_of (compact_ok hG hne hne2 hne3 S2) ?_
  rintro e H3 ⟨rfl, S3⟩
  (repeat (first | (refine Step.go ?_; intros) | refine iteB_t (by decide) ?_ | refine iteB_f (by decide) ?_ | (refine Duo.mk (by first | omega | exact rfl | decide) ?_; intros) | (refine Duo.mk (Clo.mk (by kernel_rfl)) ?_; intros)))
  exact ⟨mr, rfl, S3.to (.cons (.drop .refl))⟩
theorem mKeep {t : Int} (hG : GOk G) (hne : G ≠ []) (hne2 : G.map (·.2.2) ≠ [[]]) (hne3 : ∀ i x, G[i]? = some x → i + 1 < G.length → x.2.2 ≠ []) (S : KiS H kb key md G l) : CallsH Try.prog 46 ⟨[zV kb, .int .i64 t]⟩ H
    (fun e H1 => ∃ mr, e = .returned (.map (some mr)) ∧ KiS H1 kb key md G (rmp mr (keepM t G []) :: l)) := by
  obtain ⟨p, n, c, X, rfl, S⟩ := S
  refine F46.calls ?_
  unfold F46.go
  (repeat (first | (refine Step.go ?_; intros) | refine iteB_t (by decide) ?_ | refine iteB_f (by decide) ?_ | (refine Duo.mk (by first | omega | exact rfl | decide) ?_; intros) | (refine Duo.mk (Clo.mk (by kernel_rfl)) ?_; intros)))
  rename_i r1 _ _ mr H1 S1
  have S0 := S1.mpNew rvV fu
  have S2 : KiS H1 kb key md (X.map gx) (rmp mr [] :: pt r1 (.cells ⟨[.pointer (some ⟨kb, 0, none⟩)]⟩ 57) :: l) := ⟨p, n, c, X, rfl, S0.to Fits.out⟩
  refine call_of (keep_ok hG hne hne2 hne3 S2) ?_
  rintro e H3 ⟨rfl, S3⟩
  (repeat (first | (refine Step.go ?_; intros) | refine iteB_t (by decide) ?_ | refine iteB_f (by decide) ?_ | (refine Duo.mk (by first | omega | exact rfl | decide) ?_; intros) | (refine Duo.mk (Clo.mk (by kernel_rfl)) ?_; intros)))
  exact ⟨mr, rfl, S3.to (.cons (.drop .refl))⟩
theorem mEmpty (S : KiS H kb key md G l) : CallsH Try.prog 47 ⟨[zV kb]⟩ H
    (fun e H1 => e = .returned (.bool (decide (G.map (·.2.2) = [[]]))) ∧ KiS H1 kb key md G l) := by
  obtain ⟨p, n, c, X, rfl, S⟩ := S
  refine F47.calls ?_
  unfold F47.go
  (repeat (first | (refine Step.go ?_; intros) | refine iteB_t (by decide) ?_ | refine iteB_f (by decide) ?_ | (refine Duo.mk (by first | omega | exact rfl | decide) ?_; intros) | (refine Duo.mk (Clo.mk (by kernel_rfl)) ?_; intros)))
  rename_i r1 H1 S1
  have S2 : Sat H1 (kis kb key md p n c X (pt r1 (.cells ⟨[.pointer (some ⟨kb, 0, none⟩)]⟩ 57) :: l)) := S1.to Fits.out
  refine call_of (emp_ok S2) ?_
  rintro e H3 ⟨rfl, S3⟩
  (repeat (first | (refine Step.go ?_; intros) | refine iteB_t (by decide) ?_ | refine iteB_f (by decide) ?_ | (refine Duo.mk (by first | omega | exact rfl | decide) ?_; intros) | (refine Duo.mk (Clo.mk (by kernel_rfl)) ?_; intros)))
  exact ⟨rfl, p, n, c, X, rfl, S3.to (.cons (.cons (.cons (.drop .refl))))⟩
theorem mDump (hG : GOk G) (S : KiS H kb key md G l) : CallsH Try.prog 49 ⟨[zV kb]⟩ H
    (fun e H1 => ∃ q k Y, e = .returned (.agg ⟨[.int .i64 md.1, .int .i64 md.2, .slice q Y.length k]⟩) ∧ Y.map gx = G ∧ KiS H1 kb key md G (dmp 84 60 q Y.length k Y l)) := by
  obtain ⟨p, n, c, X, rfl, S⟩ := S
  have hr : ∀ x ∈ X, x.2.length < 100000 := fun x hx => (hG.2 (gx x) (List.mem_map_of_mem hx)).2
  have hn : X.length < 100000 := by have := hG.1; simpa using this
  refine F49.calls ?_
  unfold F49.go
  (repeat (first | (refine Step.go ?_; intros) | refine iteB_t (by decide) ?_ | refine iteB_f (by decide) ?_ | (refine Duo.mk (by first | omega | exact rfl | decide) ?_; intros) | (refine Duo.mk (Clo.mk (by kernel_rfl)) ?_; intros)))
  rename_i r1 _ _ r2 H1 S1
  have S2 : Sat H1 (kis kb key md p n c X (pt r2 (.cells ⟨[.int .i64 0, .int .i64 0, .slice none 0 0]⟩ 63) :: pt r1 (.cells ⟨[.pointer (some ⟨kb, 0, none⟩)]⟩ 57) :: l)) := S1.to Fits.out
  have hl := (kis_len S2).1
  refine call_of (zzOut_ok hn hr S2) ?_
  rintro e H3 ⟨q, k, Y, rfl, hY, S3⟩
  (repeat (first | (refine Step.go ?_; intros) | refine iteB_t (by decide) ?_ | refine iteB_f (by decide) ?_ | (refine Duo.mk (by first | omega | exact rfl | decide) ?_; intros) | (refine Duo.mk (Clo.mk (by kernel_rfl)) ?_; intros)))
  rename_i H4 S4
  have hYl : Y.length = n := by rw [← hl]; have := congrArg List.length hY; simpa using this
  subst hYl
  refine ⟨q, k, Y, rfl, hY, p, Y.length, c, X, rfl, ?_⟩
  exact S4.to Fits.out
end
end Go.Proofs.Ytpjnmdeeoafclaa
