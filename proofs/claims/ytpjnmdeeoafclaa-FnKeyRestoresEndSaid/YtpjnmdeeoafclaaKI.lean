/- What functions of this seat do, each proved by a walk; no condition. -/
import Derived.Test.YtpjnmdeeoafclaaKH
set_option linter.unusedVariables false
set_option linter.unusedSimpArgs false
namespace Go.Proofs.Ytpjnmdeeoafclaa
open Go Go.Den Go.Proofs
theorem bigs_rvs : ∀ {X : List GX} {k : Nat}, bigs rvs k X = X.map (rvs 0) := by
  intro X
  induction X with
  | nil => intro k; rfl
  | cons x X ih => intro k; unfold bigs; rw [ih]; rfl
theorem Ent.dropStar {a b l : List HP} : Ent (star (a ++ b) :: l) (star b :: l) := by
  refine .starL ?_
  induction a with
  | nil => exact .star .refl
  | cons x a ih => exact .drop ih
section
variable {kb : Nat} {key : Value} {md : Rv} {p : Option Addr} {n c : Nat} {X : List GX} {l : List HP} {H : Heap}
theorem cp_tail {i : Nat} (hn : n < 100000) (hi : i ≤ n) (S : Sat H (kis kb key md p n c X l)) : F63.L1 (some ⟨kb, 0, none⟩) (i : Int) H (fun e H1 => e = .returned (.tuple ⟨[]⟩) ∧ KiS H1 kb key md ((X.drop i).map gx) l) := by
  obtain ⟨h1, h2⟩ := kis_len S
  refine F63.L1_step ?_
  unfold F63.L1n
  (repeat (first | (refine Step.go ?_; intros) | refine iteB_t (by decide) ?_ | refine iteB_f (by decide) ?_ | (refine Duo.mk (by first | omega | exact rfl | decide) ?_; intros) | (refine Duo.mk (Clo.mk (by kernel_rfl)) ?_; intros)))
  rename_i H1 S1
  refine ⟨rfl, slP p i c 4, n - i, c - i, X.drop i, rfl, ?_⟩
  refine S1.to (.cons ?_)
  refine Ent.trans (Ent.slPart (lo := i) (hi := n) (mx := c) (by omega) (by omega) (by omega) (by omega)) ?_
  have e1 : ((X.map (·.1)).drop i).take (n - i) = (X.drop i).map (·.1) := by
    rw [← List.map_drop, List.take_of_length_le (by simp; omega)]
  rw [e1]
  refine .cons ?_
  rw [bigs_rvs, bigs_rvs, show X.map (rvs 0) = (X.take i).map (rvs 0) ++ (X.drop i).map (rvs 0) by rw [← List.map_append, List.take_append_drop]]
  exact Ent.dropStar
def cpI (t : Int) (G : List Gn) : Nat := dcN t G 0 (G.length - 1)
def cpJ (t : Int) (G : List Gn) : Option Nat := wkO t (nthG G (cpI t G)).2.2 (nthG G (cpI t G)).2.2.length
def compactG (t : Int) (G : List Gn) : List Gn := match cpJ t G with
  | none => G.drop (cpI t G)
  | some j => ((nthG G (cpI t G)).1, (nthG G (cpI t G)).2.1, (nthG G (cpI t G)).2.2.drop j) :: G.drop (cpI t G + 1)
def cpM (t : Int) (G : List Gn) (m : List (Rv × Unit)) : List (Rv × Unit) := wkM m (nthG G (cpI t G)).2.2 (cpJ t G)
theorem compact_ok {G : List Gn} {lg : Option Addr} {t : Int} {mr : Nat} {m : List (Rv × Unit)} (hG : GOk G) (hne : G ≠ []) (hne2 : G.map (·.2.2) ≠ [[]]) (hne3 : ∀ i x, G[i]? = some x → i + 1 < G.length → x.2.2 ≠ []) (S : KiS H kb key md G (rmp mr m :: l)) :
    CallsH Try.prog 63 ⟨[.pointer (some ⟨kb, 0, none⟩), .pointer lg, .int .i64 t, .map (some mr)]⟩ H (fun e H1 => e = .returned (.tuple ⟨[]⟩) ∧ KiS H1 kb key md (compactG t G) (rmp mr (cpM t G m) :: l)) := by
  obtain ⟨p, n, c, X, rfl, S⟩ := S
  refine F63.calls ?_
  unfold F63.go
  refine call_of (emp_ok S) ?_
  rintro e H1 ⟨rfl, S1⟩
  (repeat (first | (refine Step.go ?_; intros) | refine iteB_t (by decide) ?_ | refine iteB_f (by decide) ?_ | (refine Duo.mk (by first | omega | exact rfl | decide) ?_; intros) | (refine Duo.mk (Clo.mk (by kernel_rfl)) ?_; intros)))
  refine iteB_f (by simpa using hne2) ?_
  refine F63.L0_step ?_
  unfold F63.L0n
  have hX : X ≠ [] := by simpa using hne
  obtain ⟨h1, h2⟩ := kis_len S1
  have h3 : 0 < X.length := List.length_pos_iff.2 hX
  have hn : n < 100000 := by have := hG.1; simp at this; omega
  have hr : ∀ x ∈ X, x.2.length < 100000 := fun x hx => (hG.2 (gx x) (List.mem_map_of_mem hx)).2
  obtain ⟨r, o, rfl⟩ := S1.slSome (List.mem_cons_of_mem _ (List.mem_cons_self ..)) (by omega)
  have S2 : Sat H1 (rmp mr m :: kis kb key md (some ⟨r, o, none⟩) n c X l) := S1.to Fits.out
  refine call_of (dc_ok (t := t) hn (by omega) hr (fun i x hx hi => hne3 i (gx x) (by rw [List.getElem?_map, hx]; rfl) (by simp; omega)) S2) ?_
  rintro e H2 ⟨i, x, hi, hx, rfl, S3⟩
  have hil := lt_of hx
  have ei : cpI t (X.map gx) = i := by unfold cpI; rw [hi, List.length_map, h1]
  have en : nthG (X.map gx) i = gx x := nthG_of hx
  have hl := kis_rvs hx (S3.to (.drop .refl))
  have hr1 := hr _ (List.mem_of_getElem? hx)
  obtain ⟨⟨ver, cr, p1, n1, c1⟩, rs⟩ := x
  replace hl : rs.length = n1 := hl
  replace hr1 : rs.length < 100000 := hr1
  have ej : cpJ t (X.map gx) = wkO t rs rs.length := by unfold cpJ; rw [ei, en]; rfl
  have em : cpM t (X.map gx) m = wkM m rs (wkO t rs rs.length) := by unfold cpM; rw [ei, en, ej]; rfl
  have ec : compactG t (X.map gx) = match wkO t rs rs.length with | none => (X.map gx).drop i | some j => (ver, cr, rs.drop j) :: (X.map gx).drop (i + 1) := by
    unfold compactG; rw [ej, ei, en]; rfl
  dsimp only at S3
  rw [← em] at S3
  have A1 : HasI (X.map (·.1)) (i : Int) ⟨ver, cr, p1, n1, c1⟩ := hasX hx
  have A2 := atX' hx
  (repeat (first | (refine Step.go ?_; intros) | refine iteB_t (by decide) ?_ | refine iteB_f (by decide) ?_ | (refine Duo.mk (by first | omega | exact rfl | decide) ?_; intros) | (refine Duo.mk (Clo.mk (by kernel_rfl)) ?_; intros)))
  have S4 : Sat H2 (kis kb key md (some ⟨r, o, none⟩) n c X (rmp mr (cpM t (X.map gx) m) :: l)) := S3.to Fits.out
  refine call_of (gemp_ok (i := i) hx rfl rfl S4) ?_
  rintro e H3 ⟨rfl, S5⟩
  (repeat (first | (refine Step.go ?_; intros) | refine iteB_t (by decide) ?_ | refine iteB_f (by decide) ?_ | (refine Duo.mk (by first | omega | exact rfl | decide) ?_; intros) | (refine Duo.mk (Clo.mk (by kernel_rfl)) ?_; intros)))
  have fin0 : wkO t rs rs.length = none → F63.L1 (some ⟨kb, 0, none⟩) (i : Int) H3 (fun e H1 => e = .returned (.tuple ⟨[]⟩) ∧ KiS H1 kb key md (compactG t (X.map gx)) (rmp mr (cpM t (X.map gx) m) :: l)) := by
    intro hw
    rw [ec, hw]
    dsimp only
    rw [← List.map_drop]
    exact cp_tail hn (by omega) S5
  refine iteB_i (fun h => ?_) (fun h => ?_)
  · cases hw : wkO t rs rs.length with
    | none =>
      dsimp only [wkI]
      refine iteB_f (by decide) ?_
      exact fin0 hw
    | some j =>
      have hj := (wkO_lt hw).2
      dsimp only [wkI]
      refine iteB_t (by rw [bne_iff_ne]; omega) ?_
      (repeat (first | (refine Step.go ?_; intros) | refine iteB_t (by decide) ?_ | refine iteB_f (by decide) ?_ | (refine Duo.mk (by first | omega | exact rfl | decide) ?_; intros) | (refine Duo.mk (Clo.mk (by kernel_rfl)) ?_; intros)))
      dsimp only
      rw [Int.toNat_natCast j]
      refine Duo.mk ⟨by omega, by omega⟩ ?_
      (repeat (first | (refine Step.go ?_; intros) | refine iteB_t (by decide) ?_ | refine iteB_f (by decide) ?_ | (refine Duo.mk (by first | omega | exact rfl | decide) ?_; intros) | (refine Duo.mk (Clo.mk (by kernel_rfl)) ?_; intros)))
      rename_i H6 S6
      have S7 : Sat H6 (star (bigs rvs 0 X) :: kiB kb key md (some ⟨r, o, none⟩) n c :: sl GS.cells 105 4 (some ⟨r, o, none⟩) n c ((X.map (·.1)).set (Int.toNat (i : Int)) ⟨ver, cr, slP p1 j c1 2, n1 - j, c1 - j⟩) :: rmp mr (cpM t (X.map gx) m) :: l) := S6.to Fits.out
      obtain ⟨R, S8, hR⟩ := S7.bigOut hx
      have S9 := S8.to (Ent.slPart (lo := j) (hi := n1) (mx := c1) (by omega) (by have := S8.slLen (List.mem_cons_self ..); exact this.2) (Nat.le_refl _) (Nat.le_refl _))
      rw [show ((rs.drop j).take (n1 - j)) = rs.drop j from List.take_of_length_le (by simp; omega)] at S9
      have S10 := S9.to (hR (⟨ver, cr, slP p1 j c1 2, n1 - j, c1 - j⟩, rs.drop j))
      have e2 : ((X.map (·.1)).set (Int.toNat (i : Int)) ⟨ver, cr, slP p1 j c1 2, n1 - j, c1 - j⟩) = (X.set i (⟨ver, cr, slP p1 j c1 2, n1 - j, c1 - j⟩, rs.drop j)).map (·.1) := by
        rw [List.map_set, Int.toNat_natCast]
      rw [e2] at S10
      have S11 : Sat H6 (kis kb key md (some ⟨r, o, none⟩) n c (X.set i (⟨ver, cr, slP p1 j c1 2, n1 - j, c1 - j⟩, rs.drop j)) (rmp mr (cpM t (X.map gx) m) :: l)) := S10.to Fits.out
      refine GoL.mono (cp_tail (i := i) hn (by omega) S11) ?_
      rintro e H7 ⟨rfl, S12⟩
      refine ⟨rfl, ?_⟩
      rw [ec, hw]
      dsimp only
      have e3 : ((X.set i (⟨ver, cr, slP p1 j c1 2, n1 - j, c1 - j⟩, rs.drop j)).drop i).map gx = (ver, cr, rs.drop j) :: (X.map gx).drop (i + 1) := by
        rw [List.drop_eq_getElem_cons (by simp; omega), List.map_cons]
        congr 1
        · rw [List.getElem_set_self]; rfl
        · rw [List.drop_set_of_lt (by omega), List.map_drop]
      rw [e3] at S12
      exact S12
  · have h := of_decide_eq_true ((Bool.not_eq_false' _).mp h)
    replace h : rs = [] := h
    exact fin0 (by rw [h]; rfl)
end
end Go.Proofs.Ytpjnmdeeoafclaa
