/- What functions of this seat do, each proved by a walk; no condition. -/
import Derived.Test.YtpjnmdeeoafclaaKO
set_option linter.unusedVariables false
set_option linter.unusedSimpArgs false
namespace Go.Proofs.Ytpjnmdeeoafclaa
open Go Go.Den Go.Proofs
abbrev KI (G : List Gn) := {x : (Nat × Option Addr × Nat) × List GX // x.2.map gx = G}
abbrev KI.l {G : List Gn} (x : KI G) (key : Value) (md : Rv) : List HP := kis x.1.1.1 key md x.1.1.2.1 G.length x.1.1.2.2 x.1.2 []
section
variable {md : Rv} {p kp : Option Addr} {c kn kc : Nat} {X : List GX}
theorem zzIn_loop {H0 : Heap} [R0 : RowsC H0 p GS.cells 4 (X.map (·.1))] (hG : GsAt H0 p X) (hn : X.length < 100000) (hr : ∀ x ∈ X, x.2.length < 100000) {kb ab : Nat} : ∀ (d i : Nat) (Z : Int) (Y : List GX) (q : Option Addr) (k : Nat) (H : Heap), i + d = X.length → Z = (i : Int) → Y.map gx = (X.take i).map gx →
    Sat H (pt ab (.cells ⟨[.int .i64 md.1, .int .i64 md.2, .slice p X.length c]⟩ 63) :: kis kb (.slice kp kn kc) md q i k Y [old H0]) →
    F33.L0 kb p X.length c (X.length : Int) Z H (fun e H1 => ∃ x : KI (X.map gx), e = .returned (.pointer (some ⟨x.1.1.1, 0, none⟩)) ∧ Sat H1 (x.l (.slice kp kn kc) md ++ [old H0])) := by
  intro d
  induction d with
  | zero =>
    intro i Z Y q k H hi hZ hY S
    subst hZ
    obtain rfl : i = X.length := by omega
    refine F33.L0_step ?_
    unfold F33.L0n
    refine iteB_f (by rw [decide_eq_false_iff_not]; omega) ?_
    rw [List.take_of_length_le (by omega)] at hY
    refine ⟨⟨((kb, q, k), Y), hY⟩, rfl, ?_⟩
    show Sat H (kis kb (.slice kp kn kc) md q (X.map gx).length k Y [old H0])
    rw [List.length_map]
    exact S.to (.drop .refl)
  | succ d ih =>
    intro i Z Y q k H hi hZ hY S
    subst hZ
    obtain ⟨⟨⟨ver, cr, p1, n1, c1⟩, rs⟩, hx⟩ := get_of (l := X) (i := i) (by omega)
    have hr1 : rs.length < 100000 := hr _ (List.mem_of_getElem? hx)
    have A1 : HasI (X.map (·.1)) (i : Int) ⟨ver, cr, p1, n1, c1⟩ := hasX hx
    have w1 : IntKind.wrap .i64 ((i : Int) + 1) = ((i + 1 : Nat) : Int) := by rw [wr (by omega) (by omega)]; omega
    obtain ⟨hl1, hR⟩ := hG.revs _ (List.mem_of_getElem? hx)
    refine F33.L0_step ?_
    unfold F33.L0n
    refine iteB_t (by rw [decide_eq_true_iff]; omega) ?_
    refine R0.idx (by rw [List.length_map]) ⟨by omega, by omega, ?_⟩
    rintro a rfl
    (repeat (first | (refine Step.go ?_; intros) | refine iteB_t (by decide) ?_ | refine iteB_f (by decide) ?_ | (refine Duo.mk (by first | omega | exact rfl | decide) ?_; intros) | (refine Duo.mk (Clo.mk (by kernel_rfl)) ?_; intros)))
    rename_i H5 S5
    have E0 : ExtH H0 H5 := Sat.grown
    refine dup_i (f := rvC) S5 (hR.ext E0) hl1 rvC_len rvC_cell rfl (by decide) (by dsimp only at hl1 ⊢; omega) ?_
    intro q3 k3 H6 E6 S6
    (repeat (first | (refine Step.go ?_; intros) | refine iteB_t (by decide) ?_ | refine iteB_f (by decide) ?_ | (refine Duo.mk (by first | omega | exact rfl | decide) ?_; intros) | (refine Duo.mk (Clo.mk (by kernel_rfl)) ?_; intros)))
    rename_i q4 k4 _ _ H8 S8
    rw [w1]
    refine ih (i + 1) _ (Y ++ [(⟨ver, cr, q3, n1, k3⟩, rs)]) q4 k4 H8 (by omega) rfl ?_ ?_
    · rw [take_succ hx, List.map_append, List.map_append, hY]; rfl
    · have S9 : Sat H8 (sl rvC 60 2 q3 n1 k3 rs :: star (bigs (rvT 60) 0 Y) :: pt ab (.cells ⟨[.int .i64 md.1, .int .i64 md.2, .slice (some a) X.length c]⟩ 63) :: kiB kb (.slice kp kn kc) md q4 (i + 1) k4 :: sl GS.cells 105 4 q4 (i + 1) k4 (Y.map (·.1) ++ [⟨ver, cr, q3, n1, k3⟩]) :: [old H0]) := S8.to Fits.out
      have S10 := S9.to (star_snoc (U := 60) (Y := Y) (y := (⟨ver, cr, q3, n1, k3⟩, rs)))
      rw [show (Y.map (·.1) ++ [⟨ver, cr, q3, n1, k3⟩] : List GS) = (Y ++ [((⟨ver, cr, q3, n1, k3⟩ : GS), rs)]).map (·.1) by simp] at S10
      have S11 : Sat H8 (pt ab (.cells ⟨[.int .i64 md.1, .int .i64 md.2, .slice (some a) X.length c]⟩ 63) :: kiB kb (.slice kp kn kc) md q4 (i + 1) k4 :: gsl q4 (i + 1) k4 (Y ++ [((⟨ver, cr, q3, n1, k3⟩ : GS), rs)]) :: star (bigs (rvT 60) 0 (Y ++ [((⟨ver, cr, q3, n1, k3⟩ : GS), rs)])) :: [old H0]) := S10.to Fits.out
      exact S11
theorem zzIn_ok {H : Heap} (hG : GsAt H p X) (hn : X.length < 100000) (hr : ∀ x ∈ X, x.2.length < 100000) : CallsH Try.prog 33 ⟨[.slice kp kn kc, .agg ⟨[.int .i64 md.1, .int .i64 md.2, .slice p X.length c]⟩]⟩ H
    (fun e H1 => ∃ x : KI (X.map gx), e = .returned (.pointer (some ⟨x.1.1.1, 0, none⟩)) ∧ Sat H1 (x.l (.slice kp kn kc) md ++ [old H])) := by
  have R0 : RowsC H p GS.cells 4 (X.map (·.1)) := ⟨hG.rows⟩
  have S := Sat.start H
  refine F33.calls ?_
  unfold F33.go
  (repeat (first | (refine Step.go ?_; intros) | refine iteB_t (by decide) ?_ | refine iteB_f (by decide) ?_ | (refine Duo.mk (by first | omega | exact rfl | decide) ?_; intros) | (refine Duo.mk (Clo.mk (by kernel_rfl)) ?_; intros)))
  rename_i ab _ _ kb H1 S1
  have S4 : Sat H1 (star (bigs rvs 0 []) :: pt ab (.cells ⟨[.int .i64 md.1, .int .i64 md.2, .slice p X.length c]⟩ 63) :: kiB kb (.slice kp kn kc) md none 0 0 :: [old H]) := S1.to (.star (by simp only [bigs, List.nil_append]; exact Fits.out))
  have S5 : Sat H1 (gsl none 0 0 [] :: star (bigs rvs 0 []) :: pt ab (.cells ⟨[.int .i64 md.1, .int .i64 md.2, .slice p X.length c]⟩ 63) :: kiB kb (.slice kp kn kc) md none 0 0 :: [old H]) := S4.to (.slNil .refl)
  exact zzIn_loop (ab := ab) (c := c) hG hn hr X.length 0 _ [] none 0 _ (by omega) rfl rfl (S5.to Fits.out)
theorem newKey_ok {H : Heap} (hG : GsAt H p X) (hn : X.length < 100000) (hr : ∀ x ∈ X, x.2.length < 100000) : CallsH Try.prog 18 ⟨[.slice kp kn kc, .agg ⟨[.int .i64 md.1, .int .i64 md.2, .slice p X.length c]⟩]⟩ H
    (fun e H1 => ∃ x : KI (X.map gx), e = .returned (.agg ⟨[.pointer (some ⟨x.1.1.1, 0, none⟩)]⟩) ∧ Sat H1 (x.l (.slice kp kn kc) md ++ [old H])) := by
  have S := Sat.start H
  refine F18.calls ?_
  unfold F18.go
  (repeat (first | (refine Step.go ?_; intros) | refine iteB_t (by decide) ?_ | refine iteB_f (by decide) ?_ | (refine Duo.mk (by first | omega | exact rfl | decide) ?_; intros) | (refine Duo.mk (Clo.mk (by kernel_rfl)) ?_; intros)))
  rename_i H1 S1
  have E1 : ExtH H H1 := Sat.grown
  refine grow_i S1 (zzIn_ok (md := md) (c := c) (hG.ext E1) hn hr) ?_
  rintro x H2 E2 S2
  simp only [List.cons_append, List.nil_append, KI.l] at S2
  (repeat (first | (refine Step.go ?_; intros) | refine iteB_t (by decide) ?_ | refine iteB_f (by decide) ?_ | (refine Duo.mk (by first | omega | exact rfl | decide) ?_; intros) | (refine Duo.mk (Clo.mk (by kernel_rfl)) ?_; intros)))
  rename_i H3 S3
  refine ⟨x, rfl, ?_⟩
  show Sat H3 (kis x.1.1.1 (.slice kp kn kc) md x.1.1.2.1 (X.map gx).length x.1.1.2.2 x.1.2 [old H])
  exact S3.to Fits.out
end
end Go.Proofs.Ytpjnmdeeoafclaa
