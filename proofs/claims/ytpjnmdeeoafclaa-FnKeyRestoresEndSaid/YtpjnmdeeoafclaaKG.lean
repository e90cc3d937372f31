/- What functions of this seat do, each proved by a walk; no condition. -/
import Derived.Test.YtpjnmdeeoafclaaKF
set_option linter.unusedVariables false
namespace Go.Proofs.Ytpjnmdeeoafclaa
open Go Go.Den Go.Proofs
/-! Asking for a number. -/
def nthG (G : List Gn) (i : Nat) : Gn := G.getD i g0
def getG (t : Int) (G : List Gn) : Option (Rv × Rv × Int) := match fg t G G.length with
  | none => none
  | some i => match wkO t (nthG G i).2.2 (nthG G i).2.2.length with
    | none => none
    | some j => some ((nthG G i).2.2.getD j (0, 0), (nthG G i).2.1, (nthG G i).1 - ((nthG G i).2.2.length - j - 1))
def rvV (r : Rv) : Value := .agg ⟨[.int .i64 r.1, .int .i64 r.2]⟩
def getR (e : Ending) : Option (Rv × Rv × Int) → Prop
  | none => ∃ v, e = .returned (.tuple ⟨[rvV (0, 0), rvV (0, 0), .int .i64 0, .iface 122 v]⟩)
  | some x => e = .returned (.tuple ⟨[rvV x.1, rvV x.2.1, .int .i64 x.2.2, .nilIface]⟩)
theorem fg_lt {t : Int} {G : List Gn} : ∀ {k i : Nat}, fg t G k = some i → i < k ∧ (∃ x, G[i]? = some x ∧ x.2.2 ≠ []) := by
  intro k
  induction k with
  | zero => intro i h; cases h
  | succ k ih =>
    intro i h
    unfold fg at h
    cases hx : G[k]? with
    | none => rw [hx] at h; cases h
    | some x =>
      rw [hx] at h
      dsimp only at h
      split at h
      · have := ih h; exact ⟨by omega, this.2⟩
      · rename_i h0
        split at h
        · cases h
        · split at h
          · cases h; exact ⟨by omega, x, hx, h0⟩
          · have := ih h; exact ⟨by omega, this.2⟩
theorem wkO_lt {t : Int} {rs : List Rv} : ∀ {k i : Nat}, wkO t rs k = some i → i < k ∧ i < rs.length := by
  intro k
  induction k with
  | zero => intro i h; cases h
  | succ k ih =>
    intro i h
    unfold wkO at h
    cases hx : rs[k]? with
    | none => rw [hx] at h; cases h
    | some x =>
      rw [hx] at h
      dsimp only at h
      split at h
      · cases h; exact ⟨by omega, lt_of hx⟩
      · have := ih h; exact ⟨by omega, this.2⟩
section
variable {kb : Nat} {key : Value} {md : Rv} {p : Option Addr} {n c : Nat} {X : List GX} {l : List HP} {H : Heap}
theorem get_ok {G : List Gn} {lg : Option Addr} {t : Int} (hG : GOk G) (hne : G ≠ []) (hne2 : G.map (·.2.2) ≠ [[]]) (S : KiS H kb key md G l) : CallsH Try.prog 59 ⟨[.pointer (some ⟨kb, 0, none⟩), .pointer lg, .int .i64 t]⟩ H
    (fun e H1 => getR e (getG t G) ∧ KiS H1 kb key md G l) := by
  obtain ⟨p, n, c, X, rfl, S⟩ := S
  refine F59.calls ?_
  unfold F59.go
  (repeat (first | (refine Step.go ?_; intros) | refine iteB_t (by decide) ?_ | refine iteB_f (by decide) ?_ | (refine Duo.mk (by first | omega | exact rfl | decide) ?_; intros) | (refine Duo.mk (Clo.mk (by kernel_rfl)) ?_; intros)))
  rename_i a1 _ _ a2 _ _ a3 H0 S0
  have S9 : Sat H0 (kis kb key md p n c X (pt a3 (.cells ⟨[.int .i64 0, .int .i64 0]⟩ 60) :: pt a2 (.cells ⟨[.int .i64 0, .int .i64 0]⟩ 60) :: pt a1 (.cells ⟨[.int .i64 t]⟩ 2) :: l)) := S0.to Fits.out
  refine call_of (emp_ok S9) ?_
  rintro e H1 ⟨rfl, S1⟩
  (repeat (first | (refine Step.go ?_; intros) | refine iteB_t (by decide) ?_ | refine iteB_f (by decide) ?_ | (refine Duo.mk (by first | omega | exact rfl | decide) ?_; intros) | (refine Duo.mk (Clo.mk (by kernel_rfl)) ?_; intros)))
  refine iteB_f (by simpa using hne2) ?_
  refine F59.L0_step ?_
  unfold F59.L0n
  have hX : X ≠ [] := by simpa using hne
  obtain ⟨h1, h2⟩ := kis_len S1
  have h3 : 0 < X.length := List.length_pos_iff.2 hX
  have hn : n < 100000 := by have := hG.1; simp at this; omega
  have hr : ∀ x ∈ X, x.2.length < 100000 := fun x hx => (hG.2 (gx x) (List.mem_map_of_mem hx)).2
  obtain ⟨r, o, rfl⟩ := S1.slSome (List.mem_cons_of_mem _ (List.mem_cons_self ..)) (by omega)
  (repeat (first | (refine Step.go ?_; intros) | refine iteB_t (by decide) ?_ | refine iteB_f (by decide) ?_ | (refine Duo.mk (by first | omega | exact rfl | decide) ?_; intros) | (refine Duo.mk (Clo.mk (by kernel_rfl)) ?_; intros)))
  refine call_of (fg_ok hn hr S1) ?_
  rintro e H2 ⟨rfl, S2⟩
  (repeat (first | (refine Step.go ?_; intros) | refine iteB_t (by decide) ?_ | refine iteB_f (by decide) ?_ | (refine Duo.mk (by first | omega | exact rfl | decide) ?_; intros) | (refine Duo.mk (Clo.mk (by kernel_rfl)) ?_; intros)))
  have eG : getG t (X.map gx) = match fg t (X.map gx) X.length with
    | none => none
    | some i => match wkO t (nthG (X.map gx) i).2.2 (nthG (X.map gx) i).2.2.length with
      | none => none
      | some j => some ((nthG (X.map gx) i).2.2.getD j (0, 0), (nthG (X.map gx) i).2.1, (nthG (X.map gx) i).1 - ((nthG (X.map gx) i).2.2.length - j - 1)) := by
    unfold getG
    rw [List.length_map]
  cases hf : fg t (X.map gx) X.length with
  | none =>
    rw [hf] at eG
    dsimp only [gpt]
    refine call_of (S := fun e H3 => e = .returned (.bool true) ∧ H3 = H2) ?_ ?_
    · refine F68.calls ?_
      unfold F68.go
      refine iteB_t rfl ?_
      exact ⟨rfl, rfl⟩
    · rintro e H3 ⟨rfl, rfl⟩
      (repeat (first | (refine Step.go ?_; intros) | refine iteB_t (by decide) ?_ | refine iteB_f (by decide) ?_ | (refine Duo.mk (by first | omega | exact rfl | decide) ?_; intros) | (refine Duo.mk (Clo.mk (by kernel_rfl)) ?_; intros)))
      refine ⟨?_, some ⟨r, o, none⟩, n, c, X, rfl, Sat.fin⟩
      rw [eG]
      exact ⟨_, rfl⟩
  | some i =>
    obtain ⟨hi, y, hy, hy2⟩ := fg_lt hf
    rw [List.getElem?_map] at hy
    cases hx : X[i]? with
    | none => rw [hx] at hy; cases hy
    | some x =>
      rw [hx] at hy
      obtain rfl : gx x = y := by simpa using hy
      have hl := kis_rvs hx S2
      have hr1 := hr x (List.mem_of_getElem? hx)
      have hv := (hG.2 (gx x) (List.mem_map_of_mem (List.mem_of_getElem? hx))).1
      obtain ⟨⟨ver, cr, p1, n1, c1⟩, rs⟩ := x
      replace hy2 : rs ≠ [] := hy2
      replace hl : rs.length = n1 := hl
      replace hr1 : rs.length < 100000 := hr1
      replace hv : 0 ≤ ver ∧ ver < 1000000 := hv
      have en : nthG (X.map gx) i = (ver, cr, rs) := by unfold nthG; rw [List.getD_eq_getElem?_getD, List.getElem?_map, hx]; rfl
      rw [hf] at eG
      dsimp only at eG
      rw [en] at eG
      dsimp only at eG
      dsimp only [gpt]
      refine call_of (gemp_ok (i := i) hx rfl rfl S2) ?_
      rintro e H3 ⟨rfl, S3⟩
      (repeat (first | (refine Step.go ?_; intros) | refine iteB_t (by decide) ?_ | refine iteB_f (by decide) ?_ | (refine Duo.mk (by first | omega | exact rfl | decide) ?_; intros) | (refine Duo.mk (Clo.mk (by kernel_rfl)) ?_; intros)))
      refine iteB_f (decide_eq_false hy2) ?_
      have A1 : HasI (X.map (·.1)) (i : Int) ⟨ver, cr, p1, n1, c1⟩ := hasX hx
      have A2 := atX' hx
      have S4 : Sat H3 (pt a1 (.cells ⟨[.int .i64 t]⟩ 2) :: kis kb key md (some ⟨r, o, none⟩) n c X (pt a3 (.cells ⟨[.int .i64 0, .int .i64 0]⟩ 60) :: pt a2 (.cells ⟨[.int .i64 0, .int .i64 0]⟩ 60) :: l)) := S3.to Fits.out
      refine call_of (walk_ok (t := t) (p := p1) (n := n1) (c := c1) (rs := rs) (A := pt a1 (.cells ⟨[.int .i64 t]⟩ 2)) (B := fun _ => pt a1 (.cells ⟨[.int .i64 t]⟩ 2)) (by omega) inferInstance hl ?_ (by kernel_rfl) ?_ S4) ?_
      · intro H S
        exact elt_cell (α := GS) (f := GS.cells) (E := 105) (z := 4) (a := ⟨r, o, none⟩) (n := n) (c := c) (i := (i : Int)) (j := 3) (x := ⟨ver, cr, p1, n1, c1⟩) (xs := List.map (fun (x : GX) => x.1) X) S inferInstance inferInstance A1 inferInstance
      · intro x H S
        exact above_ok S
      rintro e H5 ⟨rfl, S5⟩
      have S6 : Sat H5 (pt a1 (.cells ⟨[.int .i64 t]⟩ 2) :: kis kb key md (some ⟨r, o, none⟩) n c X (pt a3 (.cells ⟨[.int .i64 0, .int .i64 0]⟩ 60) :: pt a2 (.cells ⟨[.int .i64 0, .int .i64 0]⟩ 60) :: l)) := by
        cases hw : wkO t rs rs.length with
        | none => rw [hw] at S5; exact S5
        | some j => rw [hw] at S5; exact S5
      clear S5
      (repeat (first | (refine Step.go ?_; intros) | refine iteB_t (by decide) ?_ | refine iteB_f (by decide) ?_ | (refine Duo.mk (by first | omega | exact rfl | decide) ?_; intros) | (refine Duo.mk (Clo.mk (by kernel_rfl)) ?_; intros)))
      cases hw : wkO t rs rs.length with
      | none =>
        rw [hw] at eG
        dsimp only [wkI]
        (repeat (first | (refine Step.go ?_; intros) | refine iteB_t (by decide) ?_ | refine iteB_f (by decide) ?_ | (refine Duo.mk (by first | omega | exact rfl | decide) ?_; intros) | (refine Duo.mk (Clo.mk (by kernel_rfl)) ?_; intros)))
        refine ⟨?_, some ⟨r, o, none⟩, n, c, X, rfl, Sat.fin⟩
        rw [eG]
        exact ⟨_, rfl⟩
      | some j =>
        rw [hw] at eG
        dsimp only at eG
        have hj := wkO_lt hw
        dsimp only [wkI]
        obtain ⟨z, hz⟩ := get_of (l := rs) (i := j) (by omega)
        have A3 : HasI rs (j : Int) z := ⟨by simpa using hz⟩
        have ez : rs.getD j (0, 0) = z := by rw [List.getD_eq_getElem?_getD, hz]; rfl
        have e9 : IntKind.wrap .i64 (ver - (IntKind.wrap .i64 ((IntKind.wrap .i64 ((n1 : Int) - j)) - 1))) = ver - (rs.length - j - 1) := by
          rw [wr (i := (n1 : Int) - j) (by omega) (by omega), wr (i := (n1 : Int) - j - 1) (by omega) (by omega), wr (by omega) (by omega), hl]
        refine iteB_t (by rw [bne_iff_ne]; omega) ?_
        refine ⟨?_, ?_, ?_, ?_, ?_, ?_, ?_, ?_, ?_, ?_, ?_, ?_, ?_, ?_, ?_, ?_, ?_, ?_⟩
        all_goals
          (repeat (first | (refine Step.go ?_; intros) | refine iteB_t (by decide) ?_ | refine iteB_f (by decide) ?_ | (refine Duo.mk (by first | omega | exact rfl | decide) ?_; intros) | (refine Duo.mk (Clo.mk (by kernel_rfl)) ?_; intros)))
          refine S6.idx (p := p1) ⟨by omega, by first | omega | (dsimp only; omega), ?_⟩
          rintro r2 o2 rfl
          (repeat (first | (refine Step.go ?_; intros) | refine iteB_t (by decide) ?_ | refine iteB_f (by decide) ?_ | (refine Duo.mk (by first | omega | exact rfl | decide) ?_; intros) | (refine Duo.mk (Clo.mk (by kernel_rfl)) ?_; intros)))
          rw [e9]
          refine ⟨?_, some ⟨r, o, none⟩, n, c, X, rfl, Sat.fin⟩
          rw [eG, ez]
          rfl
end
end Go.Proofs.Ytpjnmdeeoafclaa
