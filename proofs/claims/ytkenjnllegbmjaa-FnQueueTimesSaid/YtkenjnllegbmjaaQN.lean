/- What functions of this seat do, each proved by a walk; no condition. -/
import Derived.Test.YtkenjnllegbmjaaQM
set_option linter.unusedVariables false
namespace Go.Proofs.Ytkenjnllegbmjaa
open Go Go.Den Go.Proofs
def goodOps (ops : List QOp) : Prop := ops.length ≤ 200 ∧ ∀ o ∈ ops, (1 ≤ o.k ∧ o.k ≤ 4) ∧ 0 ≤ o.a ∧ o.a ≤ 1152921504606846976
theorem outer_loop {H0 : Heap} {l : List HP} [O : OldAt l H0] {s : Option Addr} {sc : Nat} {ops : List QOp} [R0 : RowsC H0 s QOp.cells 3 ops] {q : Option Addr} {qc : Nat} {ans : List QAn} {Ls : Nat → List (Int × Int)} {R : Ending → Heap → Prop}
    (hg : goodOps ops) (hr : QRun ops ans Ls ops.length) (fin : ∀ H' l', Sat H' l' → Ent l' l → callD Try.prog 6 [] H' (panK R) fun v H5 => tBool v fun b => R (.returned (.bool b)) H5) :
    ∀ (d i : Nat) (lw : List QOp) (w : Option Addr) (wc : Nat) (H : Heap), i + d = ops.length → (lw.map kq).Perm (Ls i) → (∀ x ∈ lw, 0 ≤ x.a) → lw.length ≤ i → Sat H (sl QOp.cells 27 3 w lw.length wc lw :: sl QAn.cells 29 4 q ops.length qc ans :: l) →
      F3.L0 q ops.length qc w lw.length wc s ops.length sc (ops.length : Int) (i : Int) H R := by
  intro d
  induction d with
  | zero =>
    intro i lw w wc H hi hp h0 hl S
    refine F3.L0_step ?_
    unfold F3.L0n
    refine iteB_f (by simp; omega) ?_
    exact fin H _ S (.drop (.drop .refl))
  | succ d ih =>
    intro i lw w wc H hi hp h0 hl S
    have h200 := hg.1
    obtain ⟨o, ho⟩ := get_of (l := ops) (i := i) (by omega)
    obtain ⟨a, ha⟩ := get_of (l := ans) (i := i) (by rw [hr.len]; omega)
    have go := hg.2 o (List.mem_of_getElem? ho)
    refine F3.L0_step ?_
    unfold F3.L0n
    refine iteB_t (by simp; omega) ?_
    refine R0.idx rfl ⟨by omega, by omega, ?_⟩
    rintro ad rfl
    have X := HasI.nat ho
    (repeat (first | (refine Step.go ?_; intros) | refine iteB_t (by decide) ?_ | refine iteB_f (by decide) ?_ | (refine Duo.mk (by first | omega | exact rfl | decide) ?_; intros) | (refine Duo.mk (Clo.mk (by kernel_rfl)) ?_; intros)))
    rename_i r H1 S1 H2 S2 H3 S3 H4 S4
    refine inner_loop (o := o) (a := a) (l := l) hg.1 ha hr.len go.1 go.2.1 hl (by omega) (hr.step i o a (by omega) ho ha) hp (hr.nd i (by omega)) h0 ?_ lw.length 0 none 0 0 H4 (by omega) (S4.to (.slNil Fits.out))
    intro lw' v vc H' h1 h2 h3 S'
    exact ih (i + 1) lw' v vc H' (by omega) h1 h2 h3 S'
theorem ops_loop {H0 : Heap} {s : Option Addr} {sc : Nat} {ops : List QOp} [R0 : RowsC H0 s QOp.cells 3 ops] (hm : ops.length < 4611686018427387904) :
    ∀ (d i : Nat) (H : Heap), i + d = ops.length → (∀ o ∈ ops.take i, (1 ≤ o.k ∧ o.k ≤ 4) ∧ 0 ≤ o.a ∧ o.a ≤ 1152921504606846976) → Sat H [old H0] →
      F4.L0 s ops.length sc s ops.length sc (ops.length : Int) (i : Int) H (fun e H1 => ∃ b, e = .returned (.bool b) ∧ (b = true → goodOps ops) ∧ Sat H1 [old H0]) := by
  intro d
  induction d with
  | zero =>
    intro i H hi hp S
    refine F4.L0_step ?_
    unfold F4.L0n
    refine iteB_f (by simp; omega) ?_
    refine ⟨_, rfl, fun h => ⟨by simp at h; omega, ?_⟩, S⟩
    rwa [List.take_of_length_le (by omega)] at hp
  | succ d ih =>
    intro i H hi hp S
    obtain ⟨o, ho⟩ := get_of (l := ops) (i := i) (by omega)
    refine F4.L0_step ?_
    unfold F4.L0n
    refine iteB_t (by simp; omega) ?_
    refine R0.idx rfl ⟨by omega, by omega, ?_⟩
    rintro ad rfl
    have X := HasI.nat ho
    (repeat (first | (refine Step.go ?_; intros) | refine iteB_t (by decide) ?_ | refine iteB_f (by decide) ?_ | (refine Duo.mk (by first | omega | exact rfl | decide) ?_; intros) | (refine Duo.mk (Clo.mk (by kernel_rfl)) ?_; intros)))
    refine iteB_i (fun h => ⟨_, rfl, (fun h => by cases h), Sat.fin⟩) (fun h1 => ?_)
    (repeat (first | (refine Step.go ?_; intros) | refine iteB_t (by decide) ?_ | refine iteB_f (by decide) ?_ | (refine Duo.mk (by first | omega | exact rfl | decide) ?_; intros) | (refine Duo.mk (Clo.mk (by kernel_rfl)) ?_; intros)))
    refine iteB_i (fun h => ⟨_, rfl, (fun h => by cases h), Sat.fin⟩) (fun h2 => ?_)
    (repeat (first | (refine Step.go ?_; intros) | refine iteB_t (by decide) ?_ | refine iteB_f (by decide) ?_ | (refine Duo.mk (by first | omega | exact rfl | decide) ?_; intros) | (refine Duo.mk (Clo.mk (by kernel_rfl)) ?_; intros)))
    refine iteB_i (fun h => ⟨_, rfl, (fun h => by cases h), Sat.fin⟩) (fun h3 => ?_)
    (repeat (first | (refine Step.go ?_; intros) | refine iteB_t (by decide) ?_ | refine iteB_f (by decide) ?_ | (refine Duo.mk (by first | omega | exact rfl | decide) ?_; intros) | (refine Duo.mk (Clo.mk (by kernel_rfl)) ?_; intros)))
    refine iteB_i (fun h => ⟨_, rfl, (fun h => by cases h), Sat.fin⟩) (fun h4 => ?_)
    simp at h1 h2 h3 h4
    refine F4.L1_step ?_
    unfold F4.L1n
    rw [wr_succ (by omega)]
    refine ih (i + 1) _ (by omega) ?_ Sat.fin
    intro x hx
    rw [take_snoc ho] at hx
    rcases List.mem_append.1 hx with hx | hx
    · exact hp x hx
    · simp at hx; subst hx; exact ⟨⟨by omega, h2⟩, h3, h4⟩
theorem ops_ok {H : Heap} {s : Option Addr} {sc : Nat} {ops : List QOp} [R0 : RowsC H s QOp.cells 3 ops] (hm : ops.length < 4611686018427387904) : CallsH Try.prog 4 ⟨[.slice s ops.length sc]⟩ H (fun e H1 => ∃ b, e = .returned (.bool b) ∧ (b = true → goodOps ops) ∧ Sat H1 [old H]) :=
  F4.calls (ops_loop hm ops.length 0 H (by omega) (by simp) (Sat.start H))
def awOps : List QOp := [⟨1, 1, 5⟩, ⟨1, 2, 3⟩, ⟨2, 0, 0⟩, ⟨1, 2, 9⟩, ⟨3, 0, 0⟩, ⟨4, 0, 0⟩]
theorem aw_run {ans : List QAn} {Ls : Nat → List (Int × Int)} (hr : QRun awOps ans Ls 6) : ∃ a0 a1 a2 a3 a4 a5, ans = [a0, a1, a2, a3, a4, a5] ∧ a2.ok = true ∧ a2.id = 2 ∧ a2.a = 3 ∧ a4.id = 1 ∧ a5.n = 1 := by
  have hl := hr.len
  match ans, hl with
  | [a0, a1, a2, a3, a4, a5], _ =>
  refine ⟨a0, a1, a2, a3, a4, a5, rfl, ?_⟩
  have s0 := (hr.step 0 _ a0 (by omega) rfl rfl).reg rfl
  have s1 := (hr.step 1 _ a1 (by omega) rfl rfl).reg rfl
  have s2 := (hr.step 2 _ a2 (by omega) rfl rfl).peek rfl
  have s3 := (hr.step 3 _ a3 (by omega) rfl rfl).reg rfl
  have s4 := (hr.step 4 _ a4 (by omega) rfl rfl).pop rfl
  have s5 := (hr.step 5 _ a5 (by omega) rfl rfl).len rfl
  rw [hr.start] at s0
  simp only [List.filter_nil, List.nil_append] at s0
  have p1 : (Ls 2).Perm [(1, 5), (2, 3)] := by
    refine s1.trans ?_
    have := (s0.filter (fun q => q.1 != 2)).append_right [((2 : Int), (3 : Int))]
    simpa using this
  have e3 : Ls 3 = Ls 2 := s2.1
  have t2 := s2.2
  have p4 : (Ls 4).Perm [(1, 5), (2, 9)] := by
    refine s3.trans ?_
    rw [e3]
    have := (p1.filter (fun q => q.1 != 2)).append_right [((2 : Int), (9 : Int))]
    simpa using this
  have ne2 : Ls 2 ≠ [] := fun h => by rw [h] at p1; exact absurd p1.length_eq (by simp)
  have ne4 : Ls 4 ≠ [] := fun h => by rw [h] at p4; exact absurd p4.length_eq (by simp)
  rcases t2 with ⟨h, _⟩ | ⟨_, h1, h2, h3⟩
  · exact absurd h ne2
  rcases s4.1 with ⟨h, _⟩ | ⟨_, k1, k2, k3⟩
  · exact absurd h ne4
  have h4 := h3 (2, 3) (p1.mem_iff.2 (by simp))
  have h5 := p1.mem_iff.1 h2
  have k4 := k3 (1, 5) (p4.mem_iff.2 (by simp))
  have k5 := p4.mem_iff.1 k2
  have p5 := (s4.2.2 ne4).length_eq
  have p6 := p4.length_eq
  simp at h5 k5 p5 p6 h4 k4
  refine ⟨h1, by omega, by omega, by omega, ?_⟩
  rw [s5.2]
  show ((Ls 5).length : Int) = 1
  have : (Ls 5).length = 1 := by omega
  omega
theorem awake_ok (H : Heap) : CallsH Try.prog 6 ⟨[]⟩ H (Gives (.bool true) H) := by
  refine F6.calls ?_
  unfold F6.go
  have S := Sat.start H
  refine Step.go ?_
  intro r H1 S1
  have R0 : RowsC H1 (some ⟨r, 0, none⟩) QOp.cells 3 awOps := ⟨RowsAt.of_block (S1.at_ (List.mem_cons_self ..)) (by
    intro i x hi j v hj
    have := flat_at (f := QOp.cells) (z := 3) (fun _ _ => rfl) hi hj
    exact this)⟩
  have E := Sat.grown (H0 := H) (H := H1)
  refine call_of (queue_ok (ops := awOps) (sc := 6) (l := [old H1]) (by decide) (by decide) H1 (Sat.start H1)) ?_
  rintro e H2 ⟨q, qc, ans, Ls, rfl, hr, S2⟩
  obtain ⟨a0, a1, a2, a3, a4, a5, rfl, h1, h2, h3, h4, h5⟩ := aw_run hr
  have i2 : HasI [a0, a1, a2, a3, a4, a5] (2 : Int) a2 := ⟨rfl⟩
  have i4 : HasI [a0, a1, a2, a3, a4, a5] (4 : Int) a4 := ⟨rfl⟩
  have i5 : HasI [a0, a1, a2, a3, a4, a5] (5 : Int) a5 := ⟨rfl⟩
  have lq : awOps.length = 6 := rfl
  rw [lq] at S2 ⊢
  (repeat (first | (refine Step.go ?_; intros) | refine iteB_t (by decide) ?_ | refine iteB_f (by decide) ?_ | (refine Duo.mk (by first | omega | exact rfl | decide) ?_; intros) | (refine Duo.mk (Clo.mk (by kernel_rfl)) ?_; intros)))
  refine S2.idx ⟨by omega, by omega, ?_⟩
  rintro rr o rfl
  (repeat (first | (refine Step.go ?_; intros) | refine iteB_t (by decide) ?_ | refine iteB_f (by decide) ?_ | (refine Duo.mk (by first | omega | exact rfl | decide) ?_; intros) | (refine Duo.mk (Clo.mk (by kernel_rfl)) ?_; intros)))
  rw [h1]
  (repeat (first | (refine Step.go ?_; intros) | refine iteB_t (by decide) ?_ | refine iteB_f (by decide) ?_ | (refine Duo.mk (by first | omega | exact rfl | decide) ?_; intros) | (refine Duo.mk (Clo.mk (by kernel_rfl)) ?_; intros)))
  refine iteB_t (by simp [h2]) ?_
  (repeat (first | (refine Step.go ?_; intros) | refine iteB_t (by decide) ?_ | refine iteB_f (by decide) ?_ | (refine Duo.mk (by first | omega | exact rfl | decide) ?_; intros) | (refine Duo.mk (Clo.mk (by kernel_rfl)) ?_; intros)))
  refine iteB_t (by simp [h3]) ?_
  (repeat (first | (refine Step.go ?_; intros) | refine iteB_t (by decide) ?_ | refine iteB_f (by decide) ?_ | (refine Duo.mk (by first | omega | exact rfl | decide) ?_; intros) | (refine Duo.mk (Clo.mk (by kernel_rfl)) ?_; intros)))
  refine iteB_t (by simp [h4]) ?_
  (repeat (first | (refine Step.go ?_; intros) | refine iteB_t (by decide) ?_ | refine iteB_f (by decide) ?_ | (refine Duo.mk (by first | omega | exact rfl | decide) ?_; intros) | (refine Duo.mk (Clo.mk (by kernel_rfl)) ?_; intros)))
  rw [h5]
  exact ⟨rfl, E.trans (S2.old (List.mem_cons_of_mem _ (List.mem_cons_self ..)))⟩
/-- The law returns true. -/
theorem walk_FnQueueTimes (H : Heap) (s : Option Addr) (sn sc : Nat) (ops : List QOp) (hn : sn = ops.length) (hR : RowsAt QOp.cells 3 H s ops) : CallsH Try.prog 3 ⟨[.slice s sn sc]⟩ H (TrueR H) := by
  subst hn
  have R0 : RowsC H s QOp.cells 3 ops := ⟨hR⟩
  refine F3.calls ?_
  unfold F3.go
  refine iteB_i (fun h => ⟨rfl, .refl _⟩) (fun hm => ?_)
  simp at hm
  refine call_of (ops_ok (by omega)) ?_
  rintro e H1 ⟨b, rfl, hb, S1⟩
  (repeat (first | (refine Step.go ?_; intros) | refine iteB_t (by decide) ?_ | refine iteB_f (by decide) ?_ | (refine Duo.mk (by first | omega | exact rfl | decide) ?_; intros) | (refine Duo.mk (Clo.mk (by kernel_rfl)) ?_; intros)))
  refine iteB_i (fun h => ⟨rfl, Sat.grown⟩) (fun h => ?_)
  have hg := hb (by simpa using h)
  refine call_of (queue_ok (ops := ops) (sc := sc) (l := [old H]) hg.1 (fun o ho _ => (hg.2 o ho).2) H1 S1) ?_
  rintro e H2 ⟨q, qc, ans, Ls, rfl, hr, S2⟩
  (repeat (first | (refine Step.go ?_; intros) | refine iteB_t (by decide) ?_ | refine iteB_f (by decide) ?_ | (refine Duo.mk (by first | omega | exact rfl | decide) ?_; intros) | (refine Duo.mk (Clo.mk (by kernel_rfl)) ?_; intros)))
  refine iteB_f (by simp) ?_
  refine outer_loop (l := [old H]) hg hr ?_ ops.length 0 [] none 0 H2 (by omega) (by rw [hr.start]; exact .refl _) (by simp) (by simp) (S2.to (.slNil .refl))
  intro H' l' S' E
  have S3 := S'.to E
  refine gives_i S3 (awake_ok H') ?_
  intro H3 _ S4
  (repeat (first | (refine Step.go ?_; intros) | refine iteB_t (by decide) ?_ | refine iteB_f (by decide) ?_ | (refine Duo.mk (by first | omega | exact rfl | decide) ?_; intros) | (refine Duo.mk (Clo.mk (by kernel_rfl)) ?_; intros)))
  exact ⟨rfl, Sat.grown⟩
end Go.Proofs.Ytkenjnllegbmjaa
