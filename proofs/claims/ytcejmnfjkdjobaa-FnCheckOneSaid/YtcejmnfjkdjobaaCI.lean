/- What functions of this seat do, each proved by a walk; no condition. -/
import Derived.Test.YtcejmnfjkdjobaaCH
set_option linter.unusedVariables false
set_option linter.unusedSimpArgs false
set_option linter.unnecessarySimpa false
namespace Go.Proofs.Ytcejmnfjkdjobaa
open Go Go.Den Go.Proofs
/-! What is asked for in what order. -/
def by1 (bb tg : Int) : Int := if tg ≠ 0 ∧ bb = 0 then 1 else bb
section
variable {H : Heap} {q : Option Addr} {n c rr : Nat} {X : List KM} {L : List HP} {bb tg : Int} {r : RQ} {x : RI}
theorem def_ok (tg b : Int) : CallsH Try.prog 74 ⟨[.int .i32 tg, .int .i32 b]⟩ H (Gives (.bool (decide (b = 0 ∨ (tg = 0 ∧ b = 1)))) H) := by
  refine F74.calls ?_
  unfold F74.go
  refine iteB_i (fun h => ?_) (fun h => ?_)
  · have h := eq_of_beq h
    exact ⟨by simp [h], ExtH.refl H⟩
  · have h : ¬ b = 0 := by simpa using h
    refine iteB_i (fun h2 => ?_) (fun h2 => ?_)
    · have h2 := eq_of_beq h2
      refine ⟨?_, ExtH.refl H⟩
      congr 2
      rw [Bool.eq_iff_iff, decide_eq_true_iff, beq_iff_eq]
      omega
    · have h2 : ¬ tg = 0 := by simpa using h2
      exact ⟨by simp [h, h2], ExtH.refl H⟩
theorem sort_l1 (hn : n ≤ 12) (hN : ∀ x ∈ X, Near x.kv) (ht : o32 r.st = tg) (hb : 0 ≤ bb ∧ bb ≤ 2) (h0 : bb = 0 → tg = 0) (htg : 0 ≤ tg ∧ tg ≤ 4)
    (S : Sat H (pt rr (.cells ⟨[.slice q n c, .int .i64 0, .int .i64 0]⟩ 114) :: pt x.b (rgO r x) :: sl KM.cells 111 1 q n c X :: star (bigs kmP 0 X) :: L)) : F56.L1 (some ⟨rr, 0, none⟩) (some ⟨x.b, 0, none⟩) bb H (fun e H1 => e = .returned (.tuple ⟨[]⟩) ∧ Sat H1 (sl KM.cells 111 1 q n c (sortI bb tg X) :: star (bigs kmP 0 X) :: pt rr (.cells ⟨[.slice q n c, .int .i64 0, .int .i64 0]⟩ 114) :: L)) := by
  refine F56.L1_step ?_
  unfold F56.L1n
  (repeat (first | (refine Step.go ?_; intros) | refine iteB_t (by decide) ?_ | refine iteB_f (by decide) ?_ | (refine Duo.mk (by first | omega | exact rfl | decide) ?_; intros) | (refine Duo.mk (Clo.mk (by kernel_rfl)) ?_; intros)))
  rw [ht]
  refine gives_i S (def_ok tg bb) ?_
  intro H1 E1 S1
  (repeat (first | (refine Step.go ?_; intros) | refine iteB_t (by decide) ?_ | refine iteB_f (by decide) ?_ | (refine Duo.mk (by first | omega | exact rfl | decide) ?_; intros) | (refine Duo.mk (Clo.mk (by kernel_rfl)) ?_; intros)))
  refine iteB_i (fun h => ?_) (fun h => ?_)
  · have h : ¬ (bb = 0 ∨ (tg = 0 ∧ bb = 1)) := by rw [Bool.not_eq_true'] at h; exact of_decide_eq_false h
    have hb2 : (bb = 1 ∧ tg ≠ 0) ∨ bb = 2 := by omega
    have fin : ∀ {T tt r1 r2 : Nat} {f : FuncId} {H2 : Heap}, Kind T tt f tg → Sat H2 (pt r1 (.cells ⟨[.pointer (some ⟨r2, 0, none⟩)]⟩ tt) :: pt r2 (.cells ⟨[.slice q n c]⟩ 173) :: pt rr (.cells ⟨[.slice q n c, .int .i64 0, .int .i64 0]⟩ 114) :: pt x.b (rgO r x) :: sl KM.cells 111 1 q n c X :: star (bigs kmP 0 X) :: L) →
        F56.L2 bb (.mk T (.pointer (some ⟨r1, 0, none⟩))) H2 (fun e H1 => e = .returned (.tuple ⟨[]⟩) ∧ Sat H1 (sl KM.cells 111 1 q n c (sortI bb tg X) :: star (bigs kmP 0 X) :: pt rr (.cells ⟨[.slice q n c, .int .i64 0, .int .i64 0]⟩ 114) :: L)) := by
      intro T tt r1 r2 f H2 hk S2
      refine l2_ok (q := q) (c := c) (tt := tt) (r := r2) (L := pt rr (.cells ⟨[.slice q n c, .int .i64 0, .int .i64 0]⟩ 114) :: L) hk hn hN hb2 (S2.to Fits.out) ?_
      intro H3 S3
      exact ⟨rfl, S3⟩
    (repeat (first | (refine Step.go ?_; intros) | refine iteB_t (by decide) ?_ | refine iteB_f (by decide) ?_ | (refine Duo.mk (by first | omega | exact rfl | decide) ?_; intros) | (refine Duo.mk (Clo.mk (by kernel_rfl)) ?_; intros)))
    rw [ht]
    refine iteB_i (fun h1 => ?_) (fun h1 => ?_)
    · have h1 := eq_of_beq h1
      subst h1
      (repeat (first | (refine Step.go ?_; intros) | refine iteB_t (by decide) ?_ | refine iteB_f (by decide) ?_ | (refine Duo.mk (by first | omega | exact rfl | decide) ?_; intros) | (refine Duo.mk (Clo.mk (by kernel_rfl)) ?_; intros)))
      rename_i r2 _ _ r1 H2 S2
      exact fin kindKey S2
    have h1 : ¬ tg = 0 := by simpa using h1
    (repeat (first | (refine Step.go ?_; intros) | refine iteB_t (by decide) ?_ | refine iteB_f (by decide) ?_ | (refine Duo.mk (by first | omega | exact rfl | decide) ?_; intros) | (refine Duo.mk (Clo.mk (by kernel_rfl)) ?_; intros)))
    rw [ht]
    refine iteB_i (fun h2 => ?_) (fun h2 => ?_)
    · have h2 := eq_of_beq h2
      subst h2
      (repeat (first | (refine Step.go ?_; intros) | refine iteB_t (by decide) ?_ | refine iteB_f (by decide) ?_ | (refine Duo.mk (by first | omega | exact rfl | decide) ?_; intros) | (refine Duo.mk (Clo.mk (by kernel_rfl)) ?_; intros)))
      rename_i r2 _ _ r1 H2 S2
      exact fin kindVer S2
    have h2 : ¬ tg = 1 := by simpa using h2
    (repeat (first | (refine Step.go ?_; intros) | refine iteB_t (by decide) ?_ | refine iteB_f (by decide) ?_ | (refine Duo.mk (by first | omega | exact rfl | decide) ?_; intros) | (refine Duo.mk (Clo.mk (by kernel_rfl)) ?_; intros)))
    rw [ht]
    refine iteB_i (fun h3 => ?_) (fun h3 => ?_)
    · have h3 := eq_of_beq h3
      subst h3
      (repeat (first | (refine Step.go ?_; intros) | refine iteB_t (by decide) ?_ | refine iteB_f (by decide) ?_ | (refine Duo.mk (by first | omega | exact rfl | decide) ?_; intros) | (refine Duo.mk (Clo.mk (by kernel_rfl)) ?_; intros)))
      rename_i r2 _ _ r1 H2 S2
      exact fin kindCr S2
    have h3 : ¬ tg = 2 := by simpa using h3
    (repeat (first | (refine Step.go ?_; intros) | refine iteB_t (by decide) ?_ | refine iteB_f (by decide) ?_ | (refine Duo.mk (by first | omega | exact rfl | decide) ?_; intros) | (refine Duo.mk (Clo.mk (by kernel_rfl)) ?_; intros)))
    rw [ht]
    refine iteB_i (fun h4 => ?_) (fun h4 => ?_)
    · have h4 := eq_of_beq h4
      subst h4
      (repeat (first | (refine Step.go ?_; intros) | refine iteB_t (by decide) ?_ | refine iteB_f (by decide) ?_ | (refine Duo.mk (by first | omega | exact rfl | decide) ?_; intros) | (refine Duo.mk (Clo.mk (by kernel_rfl)) ?_; intros)))
      rename_i r2 _ _ r1 H2 S2
      exact fin kindMd S2
    have h4 : ¬ tg = 3 := by simpa using h4
    (repeat (first | (refine Step.go ?_; intros) | refine iteB_t (by decide) ?_ | refine iteB_f (by decide) ?_ | (refine Duo.mk (by first | omega | exact rfl | decide) ?_; intros) | (refine Duo.mk (Clo.mk (by kernel_rfl)) ?_; intros)))
    rw [ht]
    refine iteB_i (fun h5 => ?_) (fun h5 => ?_)
    · have h5 := eq_of_beq h5
      subst h5
      (repeat (first | (refine Step.go ?_; intros) | refine iteB_t (by decide) ?_ | refine iteB_f (by decide) ?_ | (refine Duo.mk (by first | omega | exact rfl | decide) ?_; intros) | (refine Duo.mk (Clo.mk (by kernel_rfl)) ?_; intros)))
      rename_i r2 _ _ r1 H2 S2
      exact fin kindVal S2
    have h5 : ¬ tg = 4 := by simpa using h5
    omega
  · have h : bb = 0 ∨ (tg = 0 ∧ bb = 1) := by rw [Bool.not_eq_false'] at h; exact of_decide_eq_true h
    have e : sortI bb tg X = X := by unfold sortI; rw [if_pos (by rcases h with h | h; exact ⟨h0 h, by omega⟩; exact ⟨h.1, by omega⟩)]
    rw [e]
    exact ⟨rfl, S1.to Fits.out⟩
theorem sortRange_ok (hn : n ≤ 12) (hN : ∀ x ∈ X, Near x.kv) (ht : o32 r.st = tg) (hs : o32 r.so = bb) (hb : 0 ≤ bb ∧ bb ≤ 2) (htg : 0 ≤ tg ∧ tg ≤ 4)
    (S : Sat H (pt rr (.cells ⟨[.slice q n c, .int .i64 0, .int .i64 0]⟩ 114) :: pt x.b (rgO r x) :: sl KM.cells 111 1 q n c X :: star (bigs kmP 0 X) :: L)) : CallsH Try.prog 56 ⟨[.pointer (some ⟨rr, 0, none⟩), .pointer (some ⟨x.b, 0, none⟩), .pointer none]⟩ H (fun e H1 => e = .returned (.tuple ⟨[]⟩) ∧ Sat H1 (sl KM.cells 111 1 q n c (sortI (by1 bb tg) tg X) :: star (bigs kmP 0 X) :: pt rr (.cells ⟨[.slice q n c, .int .i64 0, .int .i64 0]⟩ 114) :: L)) := by
  refine F56.calls ?_
  unfold F56.go
  (repeat (first | (refine Step.go ?_; intros) | refine iteB_t (by decide) ?_ | refine iteB_f (by decide) ?_ | (refine Duo.mk (by first | omega | exact rfl | decide) ?_; intros) | (refine Duo.mk (Clo.mk (by kernel_rfl)) ?_; intros)))
  rw [ht, hs]
  refine iteB_i (fun h => ?_) (fun h => ?_)
  · have h : ¬ tg = 0 := by simpa using h
    refine iteB_i (fun h2 => ?_) (fun h2 => ?_)
    · have h2 := eq_of_beq h2
      refine F56.L0_step ?_
      unfold F56.L0n
      have e : by1 bb tg = 1 := by unfold by1; rw [if_pos ⟨h, h2⟩]
      rw [e]
      exact sort_l1 hn hN ht (by omega) (by omega) htg S
    · have h2 : ¬ bb = 0 := by simpa using h2
      have e : by1 bb tg = bb := by unfold by1; rw [if_neg (by rintro ⟨_, h⟩; exact h2 h)]
      rw [e]
      exact sort_l1 hn hN ht hb (fun h => absurd h h2) htg S
  · have h : tg = 0 := by simpa using h
    have e : by1 bb tg = bb := by unfold by1; rw [if_neg (by rintro ⟨h1, _⟩; exact h1 h)]
    rw [e]
    exact sort_l1 hn hN ht hb (fun _ => h) htg S
theorem zzSort_ok (hn : n ≤ 12) (hN : ∀ x ∈ X, Near x.kv) (ht : o32 r.st = tg) (hs : o32 r.so = bb) (hb : 0 ≤ bb ∧ bb ≤ 2) (htg : 0 ≤ tg ∧ tg ≤ 4)
    (S : Sat H (pt x.b (rgO r x) :: sl KM.cells 111 1 q n c X :: star (bigs kmP 0 X) :: L)) : CallsH Try.prog 26 ⟨[.slice q n c, .pointer (some ⟨x.b, 0, none⟩)]⟩ H (fun e H1 => e = .returned (.slice q n c) ∧ Sat H1 (sl KM.cells 111 1 q n c (sortI (by1 bb tg) tg X) :: star (bigs kmP 0 X) :: L)) := by
  refine F26.calls ?_
  unfold F26.go
  (repeat (first | (refine Step.go ?_; intros) | refine iteB_t (by decide) ?_ | refine iteB_f (by decide) ?_ | (refine Duo.mk (by first | omega | exact rfl | decide) ?_; intros) | (refine Duo.mk (Clo.mk (by kernel_rfl)) ?_; intros)))
  rename_i rr H1 S1
  refine callD_i (sortRange_ok hn hN ht hs hb htg S1) ?_
  rintro e H2 ⟨rfl, S2⟩
  (repeat (first | (refine Step.go ?_; intros) | refine iteB_t (by decide) ?_ | refine iteB_f (by decide) ?_ | (refine Duo.mk (by first | omega | exact rfl | decide) ?_; intros) | (refine Duo.mk (Clo.mk (by kernel_rfl)) ?_; intros)))
  exact ⟨rfl, S2.to Fits.out⟩
end
end Go.Proofs.Ytcejmnfjkdjobaa
