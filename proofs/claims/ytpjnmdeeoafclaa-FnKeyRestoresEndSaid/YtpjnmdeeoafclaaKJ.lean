/- What functions of this seat do, each proved by a walk; no condition. -/
import Derived.Test.YtpjnmdeeoafclaaKI
set_option linter.unusedVariables false
set_option linter.unusedSimpArgs false
namespace Go.Proofs.Ytpjnmdeeoafclaa
open Go Go.Den Go.Proofs
section
variable {kb : Nat} {key : Value} {md : Rv} {p : Option Addr} {n c : Nat} {X : List GX} {l : List HP} {H : Heap}
def keepM (t : Int) (G : List Gn) (m : List (Rv × Unit)) : List (Rv × Unit) := match cpJ t G with
  | none => cpM t G m
  | some j => if j + 1 = (nthG G (cpI t G)).2.2.length ∧ cpI t G + 1 ≠ G.length then mdel (cpM t G m) ((nthG G (cpI t G)).2.2.getD j (0, 0)) else cpM t G m
theorem keep_ok {G : List Gn} {t : Int} {mr : Nat} {m : List (Rv × Unit)} (hG : GOk G) (hne : G ≠ []) (hne2 : G.map (·.2.2) ≠ [[]]) (hne3 : ∀ i x, G[i]? = some x → i + 1 < G.length → x.2.2 ≠ []) (S : KiS H kb key md G (rmp mr m :: l)) :
    CallsH Try.prog 64 ⟨[.pointer (some ⟨kb, 0, none⟩), .int .i64 t, .map (some mr)]⟩ H (fun e H1 => e = .returned (.tuple ⟨[]⟩) ∧ KiS H1 kb key md G (rmp mr (keepM t G m) :: l)) := by
  obtain ⟨p, n, c, X, rfl, S⟩ := S
  refine F64.calls ?_
  unfold F64.go
  refine call_of (emp_ok S) ?_
  rintro e H1 ⟨rfl, S1⟩
  (repeat (first | (refine Step.go ?_; intros) | refine iteB_t (by decide) ?_ | refine iteB_f (by decide) ?_ | (refine Duo.mk (by first | omega | exact rfl | decide) ?_; intros) | (refine Duo.mk (Clo.mk (by kernel_rfl)) ?_; intros)))
  refine iteB_f (by simpa using hne2) ?_
  have hX : X ≠ [] := by simpa using hne
  obtain ⟨h1, h2⟩ := kis_len S1
  have h3 : 0 < X.length := List.length_pos_iff.2 hX
  have hn : n < 100000 := by have := hG.1; simp at this; omega
  have hr : ∀ x ∈ X, x.2.length < 100000 := fun x hx => (hG.2 (gx x) (List.mem_map_of_mem hx)).2
  obtain ⟨r, o, rfl⟩ := S1.slSome (List.mem_cons_of_mem _ (List.mem_cons_self ..)) (by omega)
  have S2 : Sat H1 (rmp mr m :: kis kb key md (some ⟨r, o, none⟩) n c X l) := S1.to Fits.out
  refine call_of (dc_ok (t := t) hn (by omega) hr (fun i x hx hi => hne3 i (gx x) (by rw [List.getElem?_map, hx]; rfl) (by simp; omega)) S2) ?_
  rintro e H2 ⟨i, x, hi, hx, rfl, S3⟩
  have hil := lt_of hx
  have ei : cpI t (X.map gx) = i := by unfold cpI; rw [hi, List.length_map, h1]
  have en : nthG (X.map gx) i = gx x := nthG_of hx
  have hl := kis_rvs hx (S3.to (.drop .refl))
  have hr1 := hr _ (List.mem_of_getElem? hx)
  obtain ⟨⟨ver, cr, p1, n1, c1⟩, rs⟩ := x
  replace hl : rs.length = n1 := hl
  replace hr1 : rs.length < 100000 := hr1
  have ej : cpJ t (X.map gx) = wkO t rs rs.length := by unfold cpJ; rw [ei, en]; rfl
  have em : cpM t (X.map gx) m = wkM m rs (wkO t rs rs.length) := by unfold cpM; rw [ei, en, ej]; rfl
  have ec : keepM t (X.map gx) m = match wkO t rs rs.length with | none => cpM t (X.map gx) m | some j => if j + 1 = rs.length ∧ i + 1 ≠ X.length then mdel (cpM t (X.map gx) m) (rs.getD j (0, 0)) else cpM t (X.map gx) m := by
    unfold keepM; rw [ej, ei, en, List.length_map]; rfl
  dsimp only at S3
  rw [← em] at S3
  have A1 : HasI (X.map (·.1)) (i : Int) ⟨ver, cr, p1, n1, c1⟩ := hasX hx
  have A2 := atX' hx
  (repeat (first | (refine Step.go ?_; intros) | refine iteB_t (by decide) ?_ | refine iteB_f (by decide) ?_ | (refine Duo.mk (by first | omega | exact rfl | decide) ?_; intros) | (refine Duo.mk (Clo.mk (by kernel_rfl)) ?_; intros)))
  have S4 : Sat H2 (kis kb key md (some ⟨r, o, none⟩) n c X (rmp mr (cpM t (X.map gx) m) :: l)) := S3.to Fits.out
  refine call_of (gemp_ok (i := i) hx rfl rfl S4) ?_
  rintro e H3 ⟨rfl, S5⟩
  (repeat (first | (refine Step.go ?_; intros) | refine iteB_t (by decide) ?_ | refine iteB_f (by decide) ?_ | (refine Duo.mk (by first | omega | exact rfl | decide) ?_; intros) | (refine Duo.mk (Clo.mk (by kernel_rfl)) ?_; intros)))
  have w1 : IntKind.wrap .i64 ((n : Int) - 1) = (n : Int) - 1 := wr (by omega) (by omega)
  have w2 : IntKind.wrap .i64 ((n1 : Int) - 1) = (n1 : Int) - 1 := wr (by omega) (by omega)
  have fin : keepM t (X.map gx) m = cpM t (X.map gx) m → KiS H3 kb key md (X.map gx) (rmp mr (keepM t (X.map gx) m) :: l) := by
    intro hk
    rw [hk]
    exact ⟨_, _, _, _, rfl, S5⟩
  refine iteB_i (fun h => ?_) (fun h => ?_)
  · have h0 : rs ≠ [] := of_decide_eq_false ((Bool.not_eq_true' _).mp h)
    have hn1 : 0 < n1 := by have := List.length_pos_iff.2 h0; omega
    (repeat (first | (refine Step.go ?_; intros) | refine iteB_t (by decide) ?_ | refine iteB_f (by decide) ?_ | (refine Duo.mk (by first | omega | exact rfl | decide) ?_; intros) | (refine Duo.mk (Clo.mk (by kernel_rfl)) ?_; intros)))
    dsimp only
    rw [w2]
    cases hw : wkO t rs rs.length with
    | none =>
      rw [hw] at ec
      dsimp only [wkI]
      refine iteB_f (by rw [beq_eq_false_iff_ne]; omega) ?_
      exact ⟨rfl, fin ec⟩
    | some j =>
      rw [hw] at ec
      dsimp only at ec
      have hj := (wkO_lt hw).2
      dsimp only [wkI]
      refine iteB_i (fun h4 => ?_) (fun h4 => ?_)
      · replace h4 := eq_of_beq h4
        (repeat (first | (refine Step.go ?_; intros) | refine iteB_t (by decide) ?_ | refine iteB_f (by decide) ?_ | (refine Duo.mk (by first | omega | exact rfl | decide) ?_; intros) | (refine Duo.mk (Clo.mk (by kernel_rfl)) ?_; intros)))
        rw [w1]
        refine iteB_i (fun h5 => ?_) (fun h5 => ?_)
        · replace h5 := bne_iff_ne.1 h5
          have hc : j + 1 = rs.length ∧ i + 1 ≠ X.length := ⟨by omega, by omega⟩
          rw [if_pos hc] at ec
          rw [ec]
          obtain ⟨z, hz⟩ := get_of (l := rs) (i := j) (by omega)
          have A3 : HasI rs (j : Int) z := ⟨by simpa using hz⟩
          have ez : rs.getD j (0, 0) = z := by rw [List.getD_eq_getElem?_getD, hz]; rfl
          refine F64.L0_step ?_
          unfold F64.L0n
          (repeat (first | (refine Step.go ?_; intros) | refine iteB_t (by decide) ?_ | refine iteB_f (by decide) ?_ | (refine Duo.mk (by first | omega | exact rfl | decide) ?_; intros) | (refine Duo.mk (Clo.mk (by kernel_rfl)) ?_; intros)))
          refine S5.idx (p := p1) ⟨by omega, by first | omega | (dsimp only; omega), ?_⟩
          rintro r2 o2 rfl
          (repeat (first | (refine Step.go ?_; intros) | refine iteB_t (by decide) ?_ | refine iteB_f (by decide) ?_ | (refine Duo.mk (by first | omega | exact rfl | decide) ?_; intros) | (refine Duo.mk (Clo.mk (by kernel_rfl)) ?_; intros)))
          rename_i H6 S6
          rw [ez]
          exact ⟨rfl, _, _, _, _, rfl, S6⟩
        · replace h5 := bne_eq_false_iff_eq.1 h5
          rw [if_neg (c := j + 1 = rs.length ∧ i + 1 ≠ X.length) (by omega)] at ec
          exact ⟨rfl, fin ec⟩
      · replace h4 := beq_eq_false_iff_ne.1 h4
        rw [if_neg (c := j + 1 = rs.length ∧ i + 1 ≠ X.length) (by omega)] at ec
        exact ⟨rfl, fin ec⟩
  · have h := of_decide_eq_true ((Bool.not_eq_false' _).mp h)
    replace h : rs = [] := h
    rw [h] at ec
    exact ⟨rfl, fin ec⟩
end
end Go.Proofs.Ytpjnmdeeoafclaa
