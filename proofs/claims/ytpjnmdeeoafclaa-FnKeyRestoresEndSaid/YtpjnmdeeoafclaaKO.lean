/- What functions of this seat do, each proved by a walk; no condition. -/
import Derived.Test.YtpjnmdeeoafclaaKN
set_option linter.unusedVariables false
set_option linter.unusedSimpArgs false
namespace Go.Proofs.Ytpjnmdeeoafclaa
open Go Go.Den Go.Proofs
/-- A dump's place, and its generations as they stand. -/
abbrev DI (G : List Gn) := {x : (Option Addr × Nat) × List GX // x.2.map gx = G}
abbrev DI.v {G : List Gn} (x : DI G) (md : Rv) : Value := .agg ⟨[.int .i64 md.1, .int .i64 md.2, .slice x.1.1.1 G.length x.1.1.2]⟩
abbrev DI.l {G : List Gn} (x : DI G) (T U : TypeId) : List HP := [sl GS.cells T 4 x.1.1.1 G.length x.1.1.2 (x.1.2.map (·.1)), star (bigs (rvT U) 0 x.1.2)]
section
variable {md : Rv} {p : Option Addr} {c : Nat} {X : List GX}
theorem dumpOut_loop {H0 : Heap} [R0 : RowsC H0 p GS.cells 4 (X.map (·.1))] (hG : GsAt H0 p X) (hn : X.length < 100000) (hr : ∀ x ∈ X, x.2.length < 100000) {kb db s2 : Nat} : ∀ (d i : Nat) (Z : Int) (Y : List GX) (q : Option Addr) (k : Nat) (H : Heap), i + d = X.length → Z = (i : Int) → Y.map gx = (X.take i).map gx →
    Sat H (pt db (.cells ⟨[.int .i64 md.1, .int .i64 md.2, .slice q i k]⟩ 34) :: pt s2 (.cells ⟨[.int .i64 0, .int .i64 0, .slice none 0 0]⟩ 34) :: pt kb (.cells ⟨[.int .i64 md.1, .int .i64 md.2, .slice p X.length c]⟩ 63) :: dmp 69 31 q i k Y [old H0]) →
    F48.L0 kb s2 db Z H (fun e H1 => ∃ x : DI (X.map gx), e = .returned (x.v md) ∧ Sat H1 (x.l 69 31 ++ [old H0])) := by
  intro d
  induction d with
  | zero =>
    intro i Z Y q k H hi hZ hY S
    subst hZ
    obtain rfl : i = X.length := by omega
    refine F48.L0_step ?_
    unfold F48.L0n
    (repeat (first | (refine Step.go ?_; intros) | refine iteB_t (by decide) ?_ | refine iteB_f (by decide) ?_ | (refine Duo.mk (by first | omega | exact rfl | decide) ?_; intros) | (refine Duo.mk (Clo.mk (by kernel_rfl)) ?_; intros)))
    refine iteB_f (by rw [decide_eq_false_iff_not]; omega) ?_
    (repeat (first | (refine Step.go ?_; intros) | refine iteB_t (by decide) ?_ | refine iteB_f (by decide) ?_ | (refine Duo.mk (by first | omega | exact rfl | decide) ?_; intros) | (refine Duo.mk (Clo.mk (by kernel_rfl)) ?_; intros)))
    rename_i H1 S1
    rw [List.take_of_length_le (by omega)] at hY
    refine ⟨⟨((q, k), Y), hY⟩, by simp, ?_⟩
    show Sat H1 (sl GS.cells 69 4 q (X.map gx).length k (Y.map (·.1)) :: star (bigs (rvT 31) 0 Y) :: [old H0])
    rw [List.length_map]
    exact S1.to Fits.out
  | succ d ih =>
    intro i Z Y q k H hi hZ hY S
    subst hZ
    obtain ⟨⟨⟨ver, cr, p1, n1, c1⟩, rs⟩, hx⟩ := get_of (l := X) (i := i) (by omega)
    have hr1 : rs.length < 100000 := hr _ (List.mem_of_getElem? hx)
    have A1 : HasI (X.map (·.1)) (i : Int) ⟨ver, cr, p1, n1, c1⟩ := hasX hx
    have w1 : IntKind.wrap .i64 ((i : Int) + 1) = ((i + 1 : Nat) : Int) := by rw [wr (by omega) (by omega)]; omega
    obtain ⟨hl1, hR⟩ := hG.revs _ (List.mem_of_getElem? hx)
    refine F48.L0_step ?_
    unfold F48.L0n
    (repeat (first | (refine Step.go ?_; intros) | refine iteB_t (by decide) ?_ | refine iteB_f (by decide) ?_ | (refine Duo.mk (by first | omega | exact rfl | decide) ?_; intros) | (refine Duo.mk (Clo.mk (by kernel_rfl)) ?_; intros)))
    refine iteB_t (by rw [decide_eq_true_iff]; omega) ?_
    (repeat (first | (refine Step.go ?_; intros) | refine iteB_t (by decide) ?_ | refine iteB_f (by decide) ?_ | (refine Duo.mk (by first | omega | exact rfl | decide) ?_; intros) | (refine Duo.mk (Clo.mk (by kernel_rfl)) ?_; intros)))
    refine R0.idx (by rw [List.length_map]) ⟨by omega, by omega, ?_⟩
    rintro a rfl
    (repeat (first | (refine Step.go ?_; intros) | refine iteB_t (by decide) ?_ | refine iteB_f (by decide) ?_ | (refine Duo.mk (by first | omega | exact rfl | decide) ?_; intros) | (refine Duo.mk (Clo.mk (by kernel_rfl)) ?_; intros)))
    rename_i H5 S5
    have E0 : ExtH H0 H5 := Sat.grown
    refine gives_i S5 revOut_ok ?_
    intro H6 E6 S6
    (repeat (first | (refine Step.go ?_; intros) | refine iteB_t (by decide) ?_ | refine iteB_f (by decide) ?_ | (refine Duo.mk (by first | omega | exact rfl | decide) ?_; intros) | (refine Duo.mk (Clo.mk (by kernel_rfl)) ?_; intros)))
    refine grow_i S6 (revsOut_ok (rs := rs) ((hR.ext E0).ext E6) hl1 (by dsimp only at hl1 ⊢; omega)) ?_
    rintro ⟨q3, k3⟩ H7 E7 S7
    simp only [List.cons_append, List.nil_append] at S7
    (repeat (first | (refine Step.go ?_; intros) | refine iteB_t (by decide) ?_ | refine iteB_f (by decide) ?_ | (refine Duo.mk (by first | omega | exact rfl | decide) ?_; intros) | (refine Duo.mk (Clo.mk (by kernel_rfl)) ?_; intros)))
    rename_i q4 k4 _ _ H8 S8
    rw [w1]
    refine ih (i + 1) _ (Y ++ [(⟨ver, cr, q3, n1, k3⟩, rs)]) q4 k4 H8 (by omega) rfl ?_ ?_
    · rw [take_succ hx, List.map_append, List.map_append, hY]; rfl
    · have S9 : Sat H8 (sl rvC 31 2 q3 n1 k3 rs :: star (bigs (rvT 31) 0 Y) :: pt db (.cells ⟨[.int .i64 md.1, .int .i64 md.2, .slice q4 (i + 1) k4]⟩ 34) :: pt s2 (.cells ⟨[.int .i64 0, .int .i64 0, .slice none 0 0]⟩ 34) :: pt kb (.cells ⟨[.int .i64 md.1, .int .i64 md.2, .slice (some a) X.length c]⟩ 63) :: sl GS.cells 69 4 q4 (i + 1) k4 (Y.map (·.1) ++ [⟨ver, cr, q3, n1, k3⟩]) :: [old H0]) := S8.to Fits.out
      have S10 := S9.to (star_snoc (U := 31) (Y := Y) (y := (⟨ver, cr, q3, n1, k3⟩, rs)))
      rw [show (Y.map (·.1) ++ [⟨ver, cr, q3, n1, k3⟩] : List GS) = (Y ++ [((⟨ver, cr, q3, n1, k3⟩ : GS), rs)]).map (·.1) by simp] at S10
      exact S10.to Fits.out
theorem dumpOut_ok {H : Heap} (hG : GsAt H p X) (hn : X.length < 100000) (hr : ∀ x ∈ X, x.2.length < 100000) : CallsH Try.prog 48 ⟨[.agg ⟨[.int .i64 md.1, .int .i64 md.2, .slice p X.length c]⟩]⟩ H
    (fun e H1 => ∃ x : DI (X.map gx), e = .returned (x.v md) ∧ Sat H1 (x.l 69 31 ++ [old H])) := by
  have R0 : RowsC H p GS.cells 4 (X.map (·.1)) := ⟨hG.rows⟩
  have S := Sat.start H
  refine F48.calls ?_
  unfold F48.go
  (repeat (first | (refine Step.go ?_; intros) | refine iteB_t (by decide) ?_ | refine iteB_f (by decide) ?_ | (refine Duo.mk (by first | omega | exact rfl | decide) ?_; intros) | (refine Duo.mk (Clo.mk (by kernel_rfl)) ?_; intros)))
  rename_i kb _ _ s2 H2 S2
  refine gives_i S2 revOut_ok ?_
  intro H3 E3 S3
  (repeat (first | (refine Step.go ?_; intros) | refine iteB_t (by decide) ?_ | refine iteB_f (by decide) ?_ | (refine Duo.mk (by first | omega | exact rfl | decide) ?_; intros) | (refine Duo.mk (Clo.mk (by kernel_rfl)) ?_; intros)))
  rename_i db _ _ _ _ _ _ H1 S1
  have S4 : Sat H1 (star (bigs (rvT 31) 0 []) :: pt db (.cells ⟨[.int .i64 md.1, .int .i64 md.2, .slice none 0 0]⟩ 34) :: pt s2 (.cells ⟨[.int .i64 0, .int .i64 0, .slice none 0 0]⟩ 34) :: pt kb (.cells ⟨[.int .i64 md.1, .int .i64 md.2, .slice p X.length c]⟩ 63) :: [old H]) := S1.to (.star (by simp only [bigs, List.nil_append]; exact Fits.out))
  have S5 : Sat H1 (sl GS.cells 69 4 none 0 0 (([] : List GX).map (·.1)) :: star (bigs (rvT 31) 0 []) :: pt db (.cells ⟨[.int .i64 md.1, .int .i64 md.2, .slice none 0 0]⟩ 34) :: pt s2 (.cells ⟨[.int .i64 0, .int .i64 0, .slice none 0 0]⟩ 34) :: pt kb (.cells ⟨[.int .i64 md.1, .int .i64 md.2, .slice p X.length c]⟩ 63) :: [old H]) := S4.to (.slNil .refl)
  exact dumpOut_loop (c := c) hG hn hr X.length 0 _ [] none 0 _ (by omega) rfl rfl (S5.to Fits.out)
theorem dumpIn_loop {H0 : Heap} [R0 : RowsC H0 p GS.cells 4 (X.map (·.1))] (hG : GsAt H0 p X) (hn : X.length < 100000) (hr : ∀ x ∈ X, x.2.length < 100000) {kb db s2 : Nat} : ∀ (d i : Nat) (Z : Int) (Y : List GX) (q : Option Addr) (k : Nat) (H : Heap), i + d = X.length → Z = (i : Int) → Y.map gx = (X.take i).map gx →
    Sat H (pt db (.cells ⟨[.int .i64 md.1, .int .i64 md.2, .slice q i k]⟩ 63) :: pt s2 (.cells ⟨[.int .i64 0, .int .i64 0, .slice none 0 0]⟩ 63) :: pt kb (.cells ⟨[.int .i64 md.1, .int .i64 md.2, .slice p X.length c]⟩ 34) :: dmp 84 60 q i k Y [old H0]) →
    F19.L0 kb s2 db Z H (fun e H1 => ∃ x : DI (X.map gx), e = .returned (x.v md) ∧ Sat H1 (x.l 84 60 ++ [old H0])) := by
  intro d
  induction d with
  | zero =>
    intro i Z Y q k H hi hZ hY S
    subst hZ
    obtain rfl : i = X.length := by omega
    refine F19.L0_step ?_
    unfold F19.L0n
    (repeat (first | (refine Step.go ?_; intros) | refine iteB_t (by decide) ?_ | refine iteB_f (by decide) ?_ | (refine Duo.mk (by first | omega | exact rfl | decide) ?_; intros) | (refine Duo.mk (Clo.mk (by kernel_rfl)) ?_; intros)))
    refine iteB_f (by rw [decide_eq_false_iff_not]; omega) ?_
    (repeat (first | (refine Step.go ?_; intros) | refine iteB_t (by decide) ?_ | refine iteB_f (by decide) ?_ | (refine Duo.mk (by first | omega | exact rfl | decide) ?_; intros) | (refine Duo.mk (Clo.mk (by kernel_rfl)) ?_; intros)))
    rename_i H1 S1
    rw [List.take_of_length_le (by omega)] at hY
    refine ⟨⟨((q, k), Y), hY⟩, by simp, ?_⟩
    show Sat H1 (sl GS.cells 84 4 q (X.map gx).length k (Y.map (·.1)) :: star (bigs (rvT 60) 0 Y) :: [old H0])
    rw [List.length_map]
    exact S1.to Fits.out
  | succ d ih =>
    intro i Z Y q k H hi hZ hY S
    subst hZ
    obtain ⟨⟨⟨ver, cr, p1, n1, c1⟩, rs⟩, hx⟩ := get_of (l := X) (i := i) (by omega)
    have hr1 : rs.length < 100000 := hr _ (List.mem_of_getElem? hx)
    have A1 : HasI (X.map (·.1)) (i : Int) ⟨ver, cr, p1, n1, c1⟩ := hasX hx
    have w1 : IntKind.wrap .i64 ((i : Int) + 1) = ((i + 1 : Nat) : Int) := by rw [wr (by omega) (by omega)]; omega
    obtain ⟨hl1, hR⟩ := hG.revs _ (List.mem_of_getElem? hx)
    refine F19.L0_step ?_
    unfold F19.L0n
    (repeat (first | (refine Step.go ?_; intros) | refine iteB_t (by decide) ?_ | refine iteB_f (by decide) ?_ | (refine Duo.mk (by first | omega | exact rfl | decide) ?_; intros) | (refine Duo.mk (Clo.mk (by kernel_rfl)) ?_; intros)))
    refine iteB_t (by rw [decide_eq_true_iff]; omega) ?_
    (repeat (first | (refine Step.go ?_; intros) | refine iteB_t (by decide) ?_ | refine iteB_f (by decide) ?_ | (refine Duo.mk (by first | omega | exact rfl | decide) ?_; intros) | (refine Duo.mk (Clo.mk (by kernel_rfl)) ?_; intros)))
    refine R0.idx (by rw [List.length_map]) ⟨by omega, by omega, ?_⟩
    rintro a rfl
    (repeat (first | (refine Step.go ?_; intros) | refine iteB_t (by decide) ?_ | refine iteB_f (by decide) ?_ | (refine Duo.mk (by first | omega | exact rfl | decide) ?_; intros) | (refine Duo.mk (Clo.mk (by kernel_rfl)) ?_; intros)))
    have E0 : ExtH H0 H := Sat.grown
    refine gives_i S (revIn_ok (r := cr)) ?_
    intro H6 E6 S6
    (repeat (first | (refine Step.go ?_; intros) | refine iteB_t (by decide) ?_ | refine iteB_f (by decide) ?_ | (refine Duo.mk (by first | omega | exact rfl | decide) ?_; intros) | (refine Duo.mk (Clo.mk (by kernel_rfl)) ?_; intros)))
    refine grow_i S6 (revsIn_ok (rs := rs) ((hR.ext E0).ext E6) hl1 (by dsimp only at hl1 ⊢; omega)) ?_
    rintro ⟨q3, k3⟩ H7 E7 S7
    simp only [List.cons_append, List.nil_append] at S7
    (repeat (first | (refine Step.go ?_; intros) | refine iteB_t (by decide) ?_ | refine iteB_f (by decide) ?_ | (refine Duo.mk (by first | omega | exact rfl | decide) ?_; intros) | (refine Duo.mk (Clo.mk (by kernel_rfl)) ?_; intros)))
    rename_i q4 k4 _ _ H8 S8
    rw [w1]
    refine ih (i + 1) _ (Y ++ [(⟨ver, cr, q3, n1, k3⟩, rs)]) q4 k4 H8 (by omega) rfl ?_ ?_
    · rw [take_succ hx, List.map_append, List.map_append, hY]; rfl
    · have S9 : Sat H8 (sl rvC 60 2 q3 n1 k3 rs :: star (bigs (rvT 60) 0 Y) :: pt db (.cells ⟨[.int .i64 md.1, .int .i64 md.2, .slice q4 (i + 1) k4]⟩ 63) :: pt s2 (.cells ⟨[.int .i64 0, .int .i64 0, .slice none 0 0]⟩ 63) :: pt kb (.cells ⟨[.int .i64 md.1, .int .i64 md.2, .slice (some a) X.length c]⟩ 34) :: sl GS.cells 84 4 q4 (i + 1) k4 (Y.map (·.1) ++ [⟨ver, cr, q3, n1, k3⟩]) :: [old H0]) := S8.to Fits.out
      have S10 := S9.to (star_snoc (U := 60) (Y := Y) (y := (⟨ver, cr, q3, n1, k3⟩, rs)))
      rw [show (Y.map (·.1) ++ [⟨ver, cr, q3, n1, k3⟩] : List GS) = (Y ++ [((⟨ver, cr, q3, n1, k3⟩ : GS), rs)]).map (·.1) by simp] at S10
      exact S10.to Fits.out
theorem dumpIn_ok {H : Heap} (hG : GsAt H p X) (hn : X.length < 100000) (hr : ∀ x ∈ X, x.2.length < 100000) : CallsH Try.prog 19 ⟨[.agg ⟨[.int .i64 md.1, .int .i64 md.2, .slice p X.length c]⟩]⟩ H
    (fun e H1 => ∃ x : DI (X.map gx), e = .returned (x.v md) ∧ Sat H1 (x.l 84 60 ++ [old H])) := by
  have R0 : RowsC H p GS.cells 4 (X.map (·.1)) := ⟨hG.rows⟩
  have S := Sat.start H
  refine F19.calls ?_
  unfold F19.go
  (repeat (first | (refine Step.go ?_; intros) | refine iteB_t (by decide) ?_ | refine iteB_f (by decide) ?_ | (refine Duo.mk (by first | omega | exact rfl | decide) ?_; intros) | (refine Duo.mk (Clo.mk (by kernel_rfl)) ?_; intros)))
  rename_i kb _ _ s2 H2 S2
  refine gives_i S2 revIn_ok ?_
  intro H3 E3 S3
  (repeat (first | (refine Step.go ?_; intros) | refine iteB_t (by decide) ?_ | refine iteB_f (by decide) ?_ | (refine Duo.mk (by first | omega | exact rfl | decide) ?_; intros) | (refine Duo.mk (Clo.mk (by kernel_rfl)) ?_; intros)))
  rename_i db _ _ _ _ _ _ H1 S1
  have S4 : Sat H1 (star (bigs (rvT 60) 0 []) :: pt db (.cells ⟨[.int .i64 md.1, .int .i64 md.2, .slice none 0 0]⟩ 63) :: pt s2 (.cells ⟨[.int .i64 0, .int .i64 0, .slice none 0 0]⟩ 63) :: pt kb (.cells ⟨[.int .i64 md.1, .int .i64 md.2, .slice p X.length c]⟩ 34) :: [old H]) := S1.to (.star (by simp only [bigs, List.nil_append]; exact Fits.out))
  have S5 : Sat H1 (sl GS.cells 84 4 none 0 0 (([] : List GX).map (·.1)) :: star (bigs (rvT 60) 0 []) :: pt db (.cells ⟨[.int .i64 md.1, .int .i64 md.2, .slice none 0 0]⟩ 63) :: pt s2 (.cells ⟨[.int .i64 0, .int .i64 0, .slice none 0 0]⟩ 63) :: pt kb (.cells ⟨[.int .i64 md.1, .int .i64 md.2, .slice p X.length c]⟩ 34) :: [old H]) := S4.to (.slNil .refl)
  exact dumpIn_loop (c := c) hG hn hr X.length 0 _ [] none 0 _ (by omega) rfl rfl (S5.to Fits.out)
end
end Go.Proofs.Ytpjnmdeeoafclaa
