/- What functions of this seat do, each proved by a walk; no condition. -/
import Derived.Test.YtpjnmdeeoafclaaKC
set_option linter.unusedVariables false
namespace Go.Proofs.Ytpjnmdeeoafclaa
open Go Go.Den Go.Proofs
/-! What changes a key's index. -/
abbrev Gn := Int × Rv × List Rv
/-- A key's index as its lives say it. -/
def KiS (H : Heap) (kb : Nat) (key : Value) (md : Rv) (G : List Gn) (l : List HP) : Prop := ∃ p n c X, X.map gx = G ∧ Sat H (kis kb key md p n c X l)
def GOk (G : List Gn) : Prop := G.length < 100000 ∧ ∀ x ∈ G, (0 ≤ x.1 ∧ x.1 < 1000000) ∧ x.2.2.length < 100000
def g0 : Gn := (0, (0, 0), [])
def putGs (G : List Gn) (rev : Rv) : List Gn := G.dropLast ++ [putG (G.getLastD g0) rev]
theorem putGs_nil {rev : Rv} : putGs [] rev = [putG g0 rev] := rfl
theorem putGs_last {G : List Gn} {x : Gn} {rev : Rv} : putGs (G ++ [x]) rev = G ++ [putG x rev] := by unfold putGs; simp
section
variable {kb : Nat} {key : Value} {md : Rv} {p : Option Addr} {n c : Nat} {X : List GX} {l : List HP} {H : Heap}
theorem put_ok {G : List Gn} {lg : Option Addr} {rev : Rv} (hG : GOk G) (hgt : gtB rev md = true) (S : KiS H kb key md G l) : CallsH Try.prog 55 ⟨[.pointer (some ⟨kb, 0, none⟩), .pointer lg, .int .i64 rev.1, .int .i64 rev.2]⟩ H
    (fun e H1 => e = .returned (.tuple ⟨[]⟩) ∧ KiS H1 kb key rev (putGs G rev) l) := by
  obtain ⟨p, n, c, X, rfl, S⟩ := S
  refine F55.calls ?_
  unfold F55.go
  (repeat (first | (refine Step.go ?_; intros) | refine iteB_t (by decide) ?_ | refine iteB_f (by decide) ?_ | (refine Duo.mk (by first | omega | exact rfl | decide) ?_; intros) | (refine Duo.mk (Clo.mk (by kernel_rfl)) ?_; intros)))
  rename_i rb _ _ _ _ _ _
  refine gives_i ‹_› (gt_ok rev md _) ?_
  intro H1 E S1
  (repeat (first | (refine Step.go ?_; intros) | refine iteB_t (by decide) ?_ | refine iteB_f (by decide) ?_ | (refine Duo.mk (by first | omega | exact rfl | decide) ?_; intros) | (refine Duo.mk (Clo.mk (by kernel_rfl)) ?_; intros)))
  refine iteB_f (by rw [hgt]; rfl) ?_
  refine F55.L0_step ?_
  unfold F55.L0n
  rcases List.eq_nil_or_concat X with rfl | ⟨X0, ⟨g, rs⟩, rfl⟩ <;> try rw [List.concat_eq_append] at *
  · obtain ⟨h1, h2⟩ := kis_len (S1.to (Ent.drop .refl))
    simp at h1
    subst h1
    (repeat (first | (refine Step.go ?_; intros) | refine iteB_t (by decide) ?_ | refine iteB_f (by decide) ?_ | (refine Duo.mk (by first | omega | exact rfl | decide) ?_; intros) | (refine Duo.mk (Clo.mk (by kernel_rfl)) ?_; intros)))
    rename_i p' c' _ _ H2 S2
    have S3 : Sat H2 (pt rb (.cells ⟨rvC rev⟩ 60) :: kil kb key md p' 1 c' [] ⟨0, (0, 0), none, 0, 0⟩ [] l) := by
      refine S2.to ?_
      refine .pick (.there .here) ?_
      refine .pick (.there .here) ?_
      refine .pick (.there .here) ?_
      refine Ent.slNil ?_
      exact Fits.out
    refine GoL.mono (put_last (g := ⟨0, (0, 0), none, 0, 0⟩) (by simp) (by omega) (by simp) S3) ?_
    rintro e H4 ⟨g', rfl, h, S4⟩
    refine ⟨rfl, p', 1, c', [(g', [rev])], ?_, (S4.to of_kil)⟩
    rw [show ([(g', [rev])] : List GX).map gx = [gx (g', [] ++ [rev])] from rfl, h]; rfl
  · obtain ⟨h1, h2⟩ := kis_len (S1.to (Ent.drop .refl))
    have hX := hG.1
    have hg := hG.2 (gx (g, rs)) (by simp)
    simp at hX
    unfold gx at hg
    simp at hg h1
    (repeat (first | (refine Step.go ?_; intros) | refine iteB_t (by decide) ?_ | refine iteB_f (by decide) ?_ | (refine Duo.mk (by first | omega | exact rfl | decide) ?_; intros) | (refine Duo.mk (Clo.mk (by kernel_rfl)) ?_; intros)))
    refine iteB_f (by simp; omega) ?_
    have S3 := S1.to (.cons to_kil)
    refine GoL.mono (put_last (by omega) (by omega) (by omega) S3) ?_
    rintro e H4 ⟨g', rfl, h, S4⟩
    refine ⟨rfl, p, n, c, X0 ++ [(g', rs ++ [rev])], ?_, (S4.to of_kil)⟩
    rw [List.map_append, List.map_append]
    show _ = putGs (X0.map gx ++ [gx (g, rs)]) rev
    rw [putGs_last]
    exact congrArg _ (congrArg (fun x => [x]) h)
/-- An empty generation behind the others. -/
theorem app_g0 (S : Sat H (kiB kb key md p (n + 1) c :: sl GS.cells 105 4 p (n + 1) c (X.map (·.1) ++ [⟨0, (0, 0), none, 0, 0⟩]) :: star (bigs rvs 0 X) :: l)) : KiS H kb key md (X.map gx ++ [g0]) l := by
  refine ⟨p, n + 1, c, X ++ [(⟨0, (0, 0), none, 0, 0⟩, [])], by simp; rfl, ?_⟩
  refine S.to (Ent.trans ?_ of_kil)
  exact .cons (.cons (Ent.slNil .refl))
theorem app_g {g : GS} {rs : List Rv} (S : Sat H (kil kb key md p (n + 1) c X g rs l)) : KiS H kb key md (X.map gx ++ [gx (g, rs)]) l := by
  refine ⟨p, n + 1, c, X ++ [(g, rs)], by simp, S.to of_kil⟩
theorem gemp_ok {i : Nat} {x : GX} {r o : Nat} {Z : Int} (hi : X[i]? = some x) (hZ : Z = (i : Int)) (hp : p = some ⟨r, o, none⟩) (S : Sat H (kis kb key md p n c X l)) : CallsH Try.prog 68 ⟨[.pointer (some (Addr.add ⟨r, o, none⟩ (Int.toNat Z * 4)))]⟩ H
    (fun e H1 => e = .returned (.bool (decide (x.2 = []))) ∧ Sat H1 (kis kb key md p n c X l)) := by
  subst hp
  refine F68.calls ?_
  unfold F68.go
  have A1 : HasI (X.map (·.1)) Z x.1 := hZ ▸ hasX hi
  have hl := (bigs_mem (f := rvs) (k := 0) hi)
  have h2 := (S.bring (.there (.there .here))).star.slLen (List.mem_append_left _ hl)
  (repeat (first | (refine Step.go ?_; intros) | refine iteB_t (by decide) ?_ | refine iteB_f (by decide) ?_ | (refine Duo.mk (by first | omega | exact rfl | decide) ?_; intros) | (refine Duo.mk (Clo.mk (by kernel_rfl)) ?_; intros)))
  refine iteB_f rfl ?_
  (repeat (first | (refine Step.go ?_; intros) | refine iteB_t (by decide) ?_ | refine iteB_f (by decide) ?_ | (refine Duo.mk (by first | omega | exact rfl | decide) ?_; intros) | (refine Duo.mk (Clo.mk (by kernel_rfl)) ?_; intros)))
  refine ⟨?_, S⟩
  congr 2
  rw [Bool.eq_iff_iff]
  simp
  rw [← h2.1]
  simp
theorem emp_ok (S : Sat H (kis kb key md p n c X l)) : CallsH Try.prog 65 ⟨[.pointer (some ⟨kb, 0, none⟩)]⟩ H
    (fun e H1 => e = .returned (.bool (decide ((X.map gx).map (·.2.2) = [[]]))) ∧ Sat H1 (kis kb key md p n c X l)) := by
  refine F65.calls ?_
  unfold F65.go
  obtain ⟨h1, h2⟩ := kis_len S
  (repeat (first | (refine Step.go ?_; intros) | refine iteB_t (by decide) ?_ | refine iteB_f (by decide) ?_ | (refine Duo.mk (by first | omega | exact rfl | decide) ?_; intros) | (refine Duo.mk (Clo.mk (by kernel_rfl)) ?_; intros)))
  refine iteB_i (fun h => ?_) (fun h => ?_)
  · have hn : n = 1 := by simp at h; omega
    subst hn
    obtain ⟨x, rfl⟩ := List.length_eq_one_iff.1 h1
    (repeat (first | (refine Step.go ?_; intros) | refine iteB_t (by decide) ?_ | refine iteB_f (by decide) ?_ | (refine Duo.mk (by first | omega | exact rfl | decide) ?_; intros) | (refine Duo.mk (Clo.mk (by kernel_rfl)) ?_; intros)))
    refine S.idx ⟨by omega, by omega, ?_⟩
    rintro r o rfl
    refine call_of (gemp_ok (i := 0) (x := x) rfl rfl rfl S) ?_
    rintro e H1 ⟨rfl, S1⟩
    (repeat (first | (refine Step.go ?_; intros) | refine iteB_t (by decide) ?_ | refine iteB_f (by decide) ?_ | (refine Duo.mk (by first | omega | exact rfl | decide) ?_; intros) | (refine Duo.mk (Clo.mk (by kernel_rfl)) ?_; intros)))
    refine ⟨?_, S1⟩
    congr 2
    rw [Bool.eq_iff_iff]
    simp [gx]
  · refine ⟨?_, S⟩
    simp at h
    congr 2
    symm
    rw [decide_eq_false_iff_not]
    intro h3
    have := congrArg List.length h3
    simp at this
    omega
theorem tomb_ok {G : List Gn} {lg : Option Addr} {rev : Rv} (hG : GOk G) (hne : G ≠ []) (hne2 : G.map (·.2.2) ≠ [[]]) (hgt : (G.getLastD g0).2.2 ≠ [] → gtB rev md = true) (S : KiS H kb key md G l) : CallsH Try.prog 56 ⟨[.pointer (some ⟨kb, 0, none⟩), .pointer lg, .int .i64 rev.1, .int .i64 rev.2]⟩ H
    (fun e H1 => if (G.getLastD g0).2.2 = [] then (∃ v, e = .returned (.iface 122 v)) ∧ KiS H1 kb key md G l else e = .returned .nilIface ∧ KiS H1 kb key rev (putGs G rev ++ [g0]) l) := by
  obtain ⟨p, n, c, X, rfl, S⟩ := S
  refine F56.calls ?_
  unfold F56.go
  refine call_of (emp_ok S) ?_
  rintro e H1 ⟨rfl, S1⟩
  (repeat (first | (refine Step.go ?_; intros) | refine iteB_t (by decide) ?_ | refine iteB_f (by decide) ?_ | (refine Duo.mk (by first | omega | exact rfl | decide) ?_; intros) | (refine Duo.mk (Clo.mk (by kernel_rfl)) ?_; intros)))
  refine iteB_f (by simpa using hne2) ?_
  refine F56.L0_step ?_
  unfold F56.L0n
  have hX : X ≠ [] := by simpa using hne
  rcases List.eq_nil_or_concat X with rfl | ⟨X0, ⟨g, rs⟩, rfl⟩ <;> try rw [List.concat_eq_append] at *
  · exact absurd rfl hX
  obtain ⟨h1, h2⟩ := kis_len S1
  simp at h1
  have hX2 := hG.1
  simp at hX2
  have w1 : IntKind.wrap .i64 ((n : Int) - 1) = (n : Int) - 1 := wr (by omega) (by omega)
  (repeat (first | (refine Step.go ?_; intros) | refine iteB_t (by decide) ?_ | refine iteB_f (by decide) ?_ | (refine Duo.mk (by first | omega | exact rfl | decide) ?_; intros) | (refine Duo.mk (Clo.mk (by kernel_rfl)) ?_; intros)))
  refine S1.idx ⟨by omega, by omega, ?_⟩
  rintro r o rfl
  refine call_of (gemp_ok (i := X0.length) (x := (g, rs)) (by simp) (by omega) rfl S1) ?_
  rintro e H2 ⟨rfl, S2⟩
  (repeat (first | (refine Step.go ?_; intros) | refine iteB_t (by decide) ?_ | refine iteB_f (by decide) ?_ | (refine Duo.mk (by first | omega | exact rfl | decide) ?_; intros) | (refine Duo.mk (Clo.mk (by kernel_rfl)) ?_; intros)))
  have e1 : (((X0 ++ [(g, rs)]).map gx).getLastD g0).2.2 = rs := by simp [gx]
  refine iteB_i (fun h => ?_) (fun h => ?_)
  · have h := of_decide_eq_true h
    have h9 : (((X0 ++ [(g, rs)]).map gx).getLastD g0).2.2 = [] := by rw [e1]; exact h
    refine (if_pos h9).mpr ?_
    exact ⟨⟨_, rfl⟩, _, _, _, _, rfl, S2⟩
  · have h := of_decide_eq_false h
    refine call_of (put_ok hG (hgt (by rw [e1]; exact h)) ⟨_, _, _, _, rfl, S2⟩) ?_
    rintro e H3 ⟨rfl, p3, n3, c3, X3, e3, S3⟩
    have hn3 : n3 < 1000000 := by
      have a1 := congrArg List.length e3
      have a2 := (kis_len S3).1
      simp [putGs] at a1
      omega
    (repeat (first | (refine Step.go ?_; intros) | refine iteB_t (by decide) ?_ | refine iteB_f (by decide) ?_ | (refine Duo.mk (by first | omega | exact rfl | decide) ?_; intros) | (refine Duo.mk (Clo.mk (by kernel_rfl)) ?_; intros)))
    have h9 : ¬ (((X0 ++ [(g, rs)]).map gx).getLastD g0).2.2 = [] := by rw [e1]; exact h
    refine (if_neg h9).mpr ?_
    refine ⟨rfl, ?_⟩
    rw [← e3]
    rename_i S9
    exact app_g0 (S9.to (Ent.drop .refl))
theorem restore_ok {lg : Option Addr} {cr rev : Rv} {ver : Int} (S : KiS H kb key md [] l) : CallsH Try.prog 57 ⟨[.pointer (some ⟨kb, 0, none⟩), .pointer lg, .agg ⟨[.int .i64 cr.1, .int .i64 cr.2]⟩, .agg ⟨[.int .i64 rev.1, .int .i64 rev.2]⟩, .int .i64 ver]⟩ H
    (fun e H1 => e = .returned (.tuple ⟨[]⟩) ∧ KiS H1 kb key rev [(ver, cr, [rev])] l) := by
  obtain ⟨p, n, c, X, e0, S⟩ := S
  obtain rfl : X = [] := by simpa using e0
  refine F57.calls ?_
  unfold F57.go
  obtain ⟨h1, h2⟩ := kis_len S
  simp at h1
  subst h1
  (repeat (first | (refine Step.go ?_; intros) | refine iteB_t (by decide) ?_ | refine iteB_f (by decide) ?_ | (refine Duo.mk (by first | omega | exact rfl | decide) ?_; intros) | (refine Duo.mk (Clo.mk (by kernel_rfl)) ?_; intros)))
  refine F57.L0_step ?_
  unfold F57.L0n
  (repeat (first | (refine Step.go ?_; intros) | refine iteB_t (by decide) ?_ | refine iteB_f (by decide) ?_ | (refine Duo.mk (by first | omega | exact rfl | decide) ?_; intros) | (refine Duo.mk (Clo.mk (by kernel_rfl)) ?_; intros)))
  refine ⟨rfl, ?_⟩
  rename_i r3 _ _ r4 _ _ _ _ _ _ _ _ _ _ r5 _ _ p' c' _ _ H1 S1
  refine app_g (p := p') (c := c') (X := []) (n := 0) (g := ⟨ver, cr, some ⟨r3, 0, none⟩, 1, 1⟩) (rs := [rev]) (S1.to ?_)
  have e1 : Ent (pt r3 (.cells ⟨[.int .i64 rev.1, .int .i64 rev.2]⟩ 60) :: star (bigs rvs 0 []) :: l) (sl rvC 60 2 (some ⟨r3, 0, none⟩) 1 1 [rev] :: star (bigs rvs 0 []) :: l) :=
    Ent.slClose (f := rvC) (pre := []) (xs := [rev]) (sp := []) rfl (by intro x hx; rfl) (Nat.le_refl _) rfl (by simp)
  refine .pick (by (repeat (first | exact Sel.here | apply Sel.there))) ?_
  refine .pick (by (repeat (first | exact Sel.here | apply Sel.there))) ?_
  refine Ent.trans ?_ e1
  exact Fits.out
theorem restTomb_ok {lg : Option Addr} {rev : Rv} (S : KiS H kb key md [] l) : CallsH Try.prog 58 ⟨[.pointer (some ⟨kb, 0, none⟩), .pointer lg, .int .i64 rev.1, .int .i64 rev.2]⟩ H
    (fun e H1 => e = .returned (.tuple ⟨[]⟩) ∧ KiS H1 kb key rev [(1, (0, 0), [rev]), g0] l) := by
  refine F58.calls ?_
  unfold F58.go
  refine call_of (restore_ok (cr := (0, 0)) (rev := rev) S) ?_
  rintro e H1 ⟨rfl, p, n, c, X, e1, S1⟩
  obtain ⟨h1, h2⟩ := kis_len S1
  have := congrArg List.length e1
  simp at this
  (repeat (first | (refine Step.go ?_; intros) | refine iteB_t (by decide) ?_ | refine iteB_f (by decide) ?_ | (refine Duo.mk (by first | omega | exact rfl | decide) ?_; intros) | (refine Duo.mk (Clo.mk (by kernel_rfl)) ?_; intros)))
  refine ⟨rfl, ?_⟩
  rw [show ([(1, (0, 0), [rev]), g0] : List Gn) = [(1, (0, 0), [rev])] ++ [g0] from rfl, ← e1]
  rename_i S9
  exact app_g0 (S9.to (Ent.drop .refl))
end
end Go.Proofs.Ytpjnmdeeoafclaa
