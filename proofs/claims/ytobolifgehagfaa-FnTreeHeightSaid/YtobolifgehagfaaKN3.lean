/- What functions of this seat do, each proved by a walk; no condition. -/
import Derived.Test.YtobolifgehagfaaKN2
import Derived.Test.YtobolifgehagfaaJN1
set_option linter.unusedVariables false
set_option linter.unusedSimpArgs false
set_option linter.unnecessarySimpa false
namespace Go.Proofs.Ytobolifgehagfaa
open Go Go.Den Go.Proofs
/-! FnTreeHeight. -/
abbrev zS : SP := ⟨ByteArray.mk #[], ByteArray.mk #[], false, 0, 0⟩
section
variable {H H0 : Heap} {l : List HP} {g : PH} {o : Int} {sr tp n : Nat} {T : Tr}
theorem treedH (hh : T.ht ≤ 40) (hn : n ≤ 200) (hle : 2 ^ T.ht ≤ (n + 1) * (n + 1)) (ho : 0 ≤ o ∧ o ≤ 3) (S : Sat H (tr g o sr sr T :: pt tp (treO (T.ref sr) (n : Int) sr) :: pt sr senO :: has g :: l)) :
    CallsH Try.prog 40 ⟨[.iface 136 (pA tp), .int .i64 o, .agg ⟨opC 9 zS 0 0 none 0 0 none 0 0⟩]⟩ H (fun e H1 => ∃ m : Int, e = .returned (ansV false (T.ht : Nat) m none 0 0 none 0 0) ∧ (T.ht : Int) ≤ m ∧ ∃ g', PH.sub g g' ∧ Sat H1 (tr g' o sr sr T :: pt tp (treO (T.ref sr) (n : Int) sr) :: pt sr senO :: has g' :: l)) := by
  refine F40.calls (s0 := .mk 136 (pA tp)) ?_
  unfold F40.go
  (repeat (first | (refine Step.go ?_; intros) | refine iteB_t (by decide) ?_ | refine iteB_f (by decide) ?_ | (refine Duo.mk (by first | omega | exact rfl | decide) ?_; intros) | (refine Duo.mk (Clo.mk (by kernel_rfl)) ?_; intros)))
  rename_i r _ _ r1 _ _ r2 _ _ _ _ _ _ _ _ _ _ H1 S1
  have T1 : Sat H1 (tr g o sr sr T :: pt tp (treO (T.ref sr) (n : Int) sr) :: pt sr senO :: has g :: pt r (.cells ⟨opC 9 zS 0 0 none 0 0 none 0 0⟩ 44) :: pt r1 (ansO false 0 0 none 0 0 none 0 0) :: pt r2 (ansO false 0 0 none 0 0 none 0 0) :: l) := S1.to Fits.out
  clear S1 S
  have hz : Sz zS := ⟨by decide, by decide⟩
  have hnum : NumOk o zS := fun _ => ⟨rfl, ⟨by show (-2305843009213693952 : Int) ≤ 0; omega, by show (0 : Int) ≤ 2305843009213693952; omega⟩, ⟨by show (-2305843009213693952 : Int) ≤ 0; omega, by show (0 : Int) ≤ 2305843009213693952; omega⟩⟩
  refine callD_i (spanG_ok ho hz hnum) ?_
  rintro e H2 ⟨E2, i, j, rfl, hi, hj⟩
  have T2 := tree_more T1 E2
  have hsub : PH.sub g (plus g H1 H2) := sub_plus_l
  generalize plus g H1 H2 = g' at T2 hsub
  clear T1
  (repeat (first | (refine Step.go ?_; intros) | refine iteB_t (by decide) ?_ | refine iteB_f (by decide) ?_ | (refine Duo.mk (by first | omega | exact rfl | decide) ?_; intros) | (refine Duo.mk (Clo.mk (by kernel_rfl)) ?_; intros)))
  rename_i r3 _ _ _ _ _ _ r4 _ _ H5 S5
  have ST := standT S5 (n := (n : Int)) (tp := tp) (T := T) (g := g') (o := o) (sr := sr) (by (repeat (first | exact Sel.here | apply Sel.there))) (by (repeat (first | exact Sel.here | apply Sel.there))) (by (repeat (first | exact Sel.here | apply Sel.there))) (by (repeat (first | exact Sel.here | apply Sel.there)))
  refine callI_i (f := 141) (by kernel_rfl) (by kernel_rfl) (by kernel_rfl) ?_
  refine gives_i S5 (Height_ok (rt := 0) (by omega) ST) ?_
  intro H6 E6 S6
  clear S5
  (repeat (first | (refine Step.go ?_; intros) | refine iteB_t (by decide) ?_ | refine iteB_f (by decide) ?_ | (refine Duo.mk (by first | omega | exact rfl | decide) ?_; intros) | (refine Duo.mk (Clo.mk (by kernel_rfl)) ?_; intros)))
  rename_i H7 S7
  have ST := standT S7 (n := (n : Int)) (tp := tp) (T := T) (g := g') (o := o) (sr := sr) (by (repeat (first | exact Sel.here | apply Sel.there))) (by (repeat (first | exact Sel.here | apply Sel.there))) (by (repeat (first | exact Sel.here | apply Sel.there))) (by (repeat (first | exact Sel.here | apply Sel.there)))
  obtain ⟨m, hm, hall⟩ := MaxHeight_ok hn ST
  refine callI_i (f := 145) (by kernel_rfl) (by kernel_rfl) (by kernel_rfl) ?_
  refine gives_i S7 hm ?_
  intro H8 E8 S8
  clear S7 S6
  (repeat (first | (refine Step.go ?_; intros) | refine iteB_t (by decide) ?_ | refine iteB_f (by decide) ?_ | (refine Duo.mk (by first | omega | exact rfl | decide) ?_; intros) | (refine Duo.mk (Clo.mk (by kernel_rfl)) ?_; intros)))
  have S9 := ‹Sat _ _›
  exact ⟨m, rfl, hall T.ht hh hle, g', hsub, S9.to Fits.out⟩
theorem Tree_height {xs : List (SP × Int)} {p : Option Addr} {n c : Nat} (ho : 0 ≤ o ∧ o ≤ 3) (hg : ∀ x ∈ xs, GoodX o x) (hx : xs.length ≤ 200)
    (S : Sat H (sl OPr.cells 44 10 p n c (xs.map insO ++ [lastO 9 zS 0 0]) :: l)) :
    CallsH Try.prog 20 ⟨[.int .i64 o, .slice p n c]⟩ H (fun e H1 => ∃ op oc, ∃ h : Nat, ∃ m : Int, e = .returned (.slice op (xs.length + 1) oc) ∧ h ≤ 40 ∧ (h : Int) ≤ m ∧ xs.length + 1 ≤ 2 ^ h ∧ 2 ^ h ≤ (xs.length + 1) * (xs.length + 1) ∧
      Sat H1 (sl TA.cells 40 5 op (xs.length + 1) oc (List.replicate xs.length zTA ++ [⟨false, (h : Nat), m, none, 0, 0, none, 0, 0⟩]) :: l)) := by
  have hn := (Sat.slLen S (List.mem_cons_self ..)).1
  rw [List.length_append, List.length_map, List.length_singleton] at hn
  refine F20.calls ?_
  refine tree_open (last := [lastO 9 zS 0 0]) (l := l) ho hg (by omega) ((has_nothing S).to Fits.out) ?_
  intro tp sr g T op oc H1 hT S1
  have hI : HasI (xs.map insO ++ [lastO 9 zS 0 0]) ((xs.length : Nat) : Int) (lastO 9 zS 0 0) := HasI.nat (by rw [List.getElem?_append_right (by simp)]; simp)
  refine F20.L0_step ?_
  unfold F20.L0n
  refine iteB_t (by simp; omega) ?_
  refine Sat.idx (f := OPr.cells) (E := 44) (z := 10) S1 ⟨by omega, by omega, fun r0 o0 hr => ?_⟩
  subst hr
  (repeat (first | (refine Step.go ?_; intros) | refine iteB_t (by decide) ?_ | refine iteB_f (by decide) ?_ | (refine Duo.mk (by first | omega | exact rfl | decide) ?_; intros) | (refine Duo.mk (Clo.mk (by kernel_rfl)) ?_; intros)))
  have hlen : T.inL.length = xs.length := by rw [hT.len, putAll_len]; simp
  obtain ⟨b1, b2⟩ := hT.wt.rb.height
  rw [hlen] at b1 b2
  have hh : T.ht ≤ 40 := by
    rcases Nat.lt_or_ge 40 T.ht with hlt | hge
    · exfalso
      have h1 : 2 ^ 41 ≤ 2 ^ T.ht := Nat.pow_le_pow_right (by omega) hlt
      have h2 : (xs.length + 1) * (xs.length + 1) ≤ 201 * 201 := Nat.mul_le_mul (by omega) (by omega)
      have h3 : (2 : Nat) ^ 41 = 2199023255552 := by decide
      omega
    · exact hge
  refine callD_i (treedH (T := T) (n := xs.length) (g := g) (sr := sr) (tp := tp) hh hx b2 ho (l := sl OPr.cells 44 10 (some ⟨r0, o0, none⟩) n c (xs.map insO ++ [lastO 9 zS 0 0]) :: sl TA.cells 40 5 op xs.length oc (List.replicate xs.length zTA) :: l) (S1.to Fits.out)) ?_
  rintro e H2 ⟨m, rfl, hm, g', hsub, S2⟩
  (iterate 13 (refine Step.go ?_; intros))
  refine tree_last (op := op) (oc := oc) (ta := ⟨false, (T.ht : Nat), m, none, 0, 0, none, 0, 0⟩) (m := l) (by omega) hn.symm (S2.to Fits.out) ?_
  intro op' oc' H3 S3
  exact ⟨op', oc', T.ht, m, rfl, hh, hm, b1, b2, S3⟩
theorem trHigh_ok {h n : Nat} {m : Int} (hh : h ≤ 40) (hm : (h : Int) ≤ m) (hn : n ≤ 200) (b1 : n + 1 ≤ 2 ^ h) (b2 : 2 ^ h ≤ (n + 1) * (n + 1)) : CallsH Try.prog 21 ⟨[ansV false (h : Nat) m none 0 0 none 0 0, .int .i64 (n : Nat)]⟩ H (Gives (.bool true) H) := by
  have S := Sat.start H
  refine F21.calls ?_
  unfold F21.go
  (repeat (first | (refine Step.go ?_; intros) | refine iteB_t (by decide) ?_ | refine iteB_f (by decide) ?_ | (refine Duo.mk (by first | omega | exact rfl | decide) ?_; intros) | (refine Duo.mk (Clo.mk (by kernel_rfl)) ?_; intros)))
  refine iteB_f (by simp) ?_
  (repeat (first | (refine Step.go ?_; intros) | refine iteB_t (by decide) ?_ | refine iteB_f (by decide) ?_ | (refine Duo.mk (by first | omega | exact rfl | decide) ?_; intros) | (refine Duo.mk (Clo.mk (by kernel_rfl)) ?_; intros)))
  refine iteB_f (by simp; omega) ?_
  (repeat (first | (refine Step.go ?_; intros) | refine iteB_t (by decide) ?_ | refine iteB_f (by decide) ?_ | (refine Duo.mk (by first | omega | exact rfl | decide) ?_; intros) | (refine Duo.mk (Clo.mk (by kernel_rfl)) ?_; intros)))
  refine iteB_f (by simp; omega) ?_
  refine F21.L0_step ?_
  unfold F21.L0n
  have h2 : (2 : Nat) ^ h ≤ 201 * 201 := Nat.le_trans b2 (Nat.mul_le_mul (by omega) (by omega))
  have e2 : shlZ .i64 (1 : Int) ((h : Nat) : Int) = ((2 ^ h : Nat) : Int) := by
    unfold shlZ
    have : min ((h : Nat) : Int).toNat (IntKind.bits .i64) = h := by
      rw [Int.toNat_natCast]
      exact Nat.min_eq_left (by show h ≤ 64; omega)
    rw [this, Int.one_mul]
    have e : ((2 : Int) ^ h) = ((2 ^ h : Nat) : Int) := by simp
    rw [e]
    exact wr (by omega) (by omega)
  have e3 : IntKind.wrap .i64 (((n : Nat) : Int) + (1 : Int)) = ((n + 1 : Nat) : Int) := by
    rw [wr (by omega) (by omega)]; omega
  have hm1 : (n + 1) * (n + 1) ≤ 201 * 201 := Nat.mul_le_mul (by omega) (by omega)
  have e4 : IntKind.wrap .i64 (((n + 1 : Nat) : Int) * ((n + 1 : Nat) : Int)) = (((n + 1) * (n + 1) : Nat) : Int) := by
    rw [show ((n + 1 : Nat) : Int) * ((n + 1 : Nat) : Int) = (((n + 1) * (n + 1) : Nat) : Int) from (Int.natCast_mul ..).symm]
    exact wr (by omega) (by omega)
  rw [e3, e4]
  (repeat (first | (refine Step.go ?_; intros) | refine iteB_t (by decide) ?_ | refine iteB_f (by decide) ?_ | (refine Duo.mk (by first | omega | exact rfl | decide) ?_; intros) | (refine Duo.mk (Clo.mk (by kernel_rfl)) ?_; intros)))
  rw [e2]
  refine iteB_t (decide_eq_true (Int.ofNat_le.2 b1)) ?_
  (repeat (first | (refine Step.go ?_; intros) | refine iteB_t (by decide) ?_ | refine iteB_f (by decide) ?_ | (refine Duo.mk (by first | omega | exact rfl | decide) ?_; intros) | (refine Duo.mk (Clo.mk (by kernel_rfl)) ?_; intros)))
  rw [e2]
  refine ⟨?_, Sat.grown⟩
  congr 2
  rw [decide_eq_true_iff]
  exact_mod_cast b2
end
theorem treeHeight_ok {H : Heap} {o : Int} {xs : List SP} {q : Option Addr} {n qc : Nat} (hR : RowsAt SP.cells 5 H q xs) (hn : xs.length = n) : CallsH Try.prog 6 ⟨[.int .i64 o, .slice q n qc]⟩ H (Gives (.bool true) H) := by
  refine F6.calls ?_
  unfold F6.go
  refine callD_i (fit38 hR hn) ?_
  rintro e H2 ⟨E2, b1, rfl, hb1⟩
  (repeat (first | (refine Step.go ?_; intros) | refine iteB_t (by decide) ?_ | refine iteB_f (by decide) ?_ | (refine Duo.mk (by first | omega | exact rfl | decide) ?_; intros) | (refine Duo.mk (Clo.mk (by kernel_rfl)) ?_; intros)))
  refine iteB_i (fun h => ⟨rfl, E2⟩) (fun h => ?_)
  obtain ⟨hnb, hz⟩ := hb1 (by simpa using h)
  refine callD_i (filled_ok (hR.ext E2) hn hz) ?_
  rintro e H4 hend
  rcases hend with ⟨E4, rfl⟩ | ⟨ch, op, oc, pr, p, c, b, rfl, hg, hl, hb, S4⟩
  · have S := (Sat.start H).ext (E2.trans E4)
    (repeat (first | (refine Step.go ?_; intros) | refine iteB_t (by decide) ?_ | refine iteB_f (by decide) ?_ | (refine Duo.mk (by first | omega | exact rfl | decide) ?_; intros) | (refine Duo.mk (Clo.mk (by kernel_rfl)) ?_; intros)))
    exact live_end (E2.trans E4) S
  have E4 : ExtH H2 H4 := Sat.grown
  (repeat (first | (refine Step.go ?_; intros) | refine iteB_t (by decide) ?_ | refine iteB_f (by decide) ?_ | (refine Duo.mk (by first | omega | exact rfl | decide) ?_; intros) | (refine Duo.mk (Clo.mk (by kernel_rfl)) ?_; intros)))
  refine iteB_i (fun h => ?_) (fun hbt => ?_)
  · exact live_end (E2.trans E4) S4
  have ho := hb (by simpa using hbt)
  (repeat (first | (refine Step.go ?_; intros) | refine iteB_t (by decide) ?_ | refine iteB_f (by decide) ?_ | (refine Duo.mk (by first | omega | exact rfl | decide) ?_; intros) | (refine Duo.mk (Clo.mk (by kernel_rfl)) ?_; intros)))
  rename_i r5 H7 S7
  refine appOp (x := lastO 9 zS 0 0) (by omega) S7 (by (repeat (first | exact Sel.here | apply Sel.there))) (Sat.obj S7) ?_
  intro op' oc' H8 S8
  clear S7
  (repeat (first | (refine Step.go ?_; intros) | refine iteB_t (by decide) ?_ | refine iteB_f (by decide) ?_ | (refine Duo.mk (by first | omega | exact rfl | decide) ?_; intros) | (refine Duo.mk (Clo.mk (by kernel_rfl)) ?_; intros)))
  refine callD_i (Tree_height (o := o) (xs := ch) ho hg (by omega) (l := pt pr (pcO o p ch.length c) :: [old H2]) (S8.to Fits.out)) ?_
  rintro e H9 ⟨oq, ocq, hgt, m, rfl, hh, hm, b1, b2, S9⟩
  clear S8
  have hTA : (List.replicate ch.length zTA ++ [(⟨false, (hgt : Nat), m, none, 0, 0, none, 0, 0⟩ : TA)])[ch.length]? = some ⟨false, (hgt : Nat), m, none, 0, 0, none, 0, 0⟩ := by
    rw [List.getElem?_append_right (by simp)]; simp
  have hI := HasI.nat hTA
  (repeat (first | (refine Step.go ?_; intros) | refine iteB_t (by decide) ?_ | refine iteB_f (by decide) ?_ | (refine Duo.mk (by first | omega | exact rfl | decide) ?_; intros) | (refine Duo.mk (Clo.mk (by kernel_rfl)) ?_; intros)))
  refine iteB_t (by rw [wr (by omega) (by omega)]; simp) ?_
  obtain ⟨ra, oa, rfl⟩ := S9.slSome (List.mem_cons_self ..) (by omega)
  refine Sat.idx (f := TA.cells) (E := 40) (z := 5) S9 ⟨by omega, by omega, fun r0 o0 hr => ?_⟩
  cases hr
  (repeat (first | (refine Step.go ?_; intros) | refine iteB_t (by decide) ?_ | refine iteB_f (by decide) ?_ | (refine Duo.mk (by first | omega | exact rfl | decide) ?_; intros) | (refine Duo.mk (Clo.mk (by kernel_rfl)) ?_; intros)))
  refine gives_i S9 (trHigh_ok hh hm hl b1 b2) ?_
  intro H10 E10 S10
  clear S9
  (repeat (first | (refine Step.go ?_; intros) | refine iteB_t (by decide) ?_ | refine iteB_f (by decide) ?_ | (refine Duo.mk (by first | omega | exact rfl | decide) ?_; intros) | (refine Duo.mk (Clo.mk (by kernel_rfl)) ?_; intros)))
  have E29 : ExtH H2 H10 := S10.old (by simp)
  exact live_end (E2.trans E29) S10
end Go.Proofs.Ytobolifgehagfaa
