/- What functions of this seat do, each proved by a walk; no condition. -/
import Derived.Test.YtobolifgehagfaaJM4
set_option linter.unusedVariables false
set_option linter.unusedSimpArgs false
set_option linter.unnecessarySimpa false
namespace Go.Proofs.Ytobolifgehagfaa
open Go Go.Den Go.Proofs
/-! FnTreeStab. -/
theorem live_end {H H1 : Heap} {l : List HP} (E : ExtH H H1) (S : Sat H1 l) : callD Try.prog 18 [] H1 (panK (Gives (.bool true) H)) fun v H2 => tBool v fun b => Gives (.bool true) H (.returned (.bool b)) H2 := by
  refine gives_i S trLive_ok ?_
  intro H2 E2 S2
  (repeat (first | (refine Step.go ?_; intros) | refine iteB_t (by decide) ?_ | refine iteB_f (by decide) ?_ | (refine Duo.mk (by first | omega | exact rfl | decide) ?_; intros) | (refine Duo.mk (Clo.mk (by kernel_rfl)) ?_; intros)))
  exact ⟨rfl, E.trans E2⟩
theorem treeStab_ok {H : Heap} {o : Int} {xs : List SP} {q : Option Addr} {n qc : Nat} (s : SP) (hR : RowsAt SP.cells 5 H q xs) (hn : xs.length = n) : CallsH Try.prog 7 ⟨[.int .i64 o, .slice q n qc, .agg ⟨s.cells⟩]⟩ H (Gives (.bool true) H) := by
  have S := Sat.start H
  refine F7.calls ?_
  unfold F7.go
  (repeat (first | (refine Step.go ?_; intros) | refine iteB_t (by decide) ?_ | refine iteB_f (by decide) ?_ | (refine Duo.mk (by first | omega | exact rfl | decide) ?_; intros) | (refine Duo.mk (Clo.mk (by kernel_rfl)) ?_; intros)))
  rename_i r H1 S1
  have E1 : ExtH H H1 := Sat.grown
  refine callD_i (fit38 (hR.ext E1) hn) ?_
  rintro e H2 ⟨E2, b1, rfl, hb1⟩
  have S2 := Sat.later S1 E2
  (repeat (first | (refine Step.go ?_; intros) | refine iteB_t (by decide) ?_ | refine iteB_f (by decide) ?_ | (refine Duo.mk (by first | omega | exact rfl | decide) ?_; intros) | (refine Duo.mk (Clo.mk (by kernel_rfl)) ?_; intros)))
  refine iteB_i (fun h => ⟨rfl, E1.trans E2⟩) (fun h => ?_)
  obtain ⟨hnb, hz⟩ := hb1 (by simpa using h)
  (repeat (first | (refine Step.go ?_; intros) | refine iteB_t (by decide) ?_ | refine iteB_f (by decide) ?_ | (refine Duo.mk (by first | omega | exact rfl | decide) ?_; intros) | (refine Duo.mk (Clo.mk (by kernel_rfl)) ?_; intros)))
  refine callD_i (fit36 s) ?_
  rintro e H3 ⟨E3, b2, rfl, hb2⟩
  have S3 := Sat.later S2 E3
  have E13 := (E1.trans E2).trans E3
  (repeat (first | (refine Step.go ?_; intros) | refine iteB_t (by decide) ?_ | refine iteB_f (by decide) ?_ | (refine Duo.mk (by first | omega | exact rfl | decide) ?_; intros) | (refine Duo.mk (Clo.mk (by kernel_rfl)) ?_; intros)))
  refine iteB_i (fun h => ⟨rfl, E13⟩) (fun h => ?_)
  have hs := hb2 (by simpa using h)
  refine F7.L0_step ?_
  unfold F7.L0n
  (repeat (first | (refine Step.go ?_; intros) | refine iteB_t (by decide) ?_ | refine iteB_f (by decide) ?_ | (refine Duo.mk (by first | omega | exact rfl | decide) ?_; intros) | (refine Duo.mk (Clo.mk (by kernel_rfl)) ?_; intros)))
  refine callD_i (ask_stab (hR.ext E13) hn hz hs) ?_
  rintro e H4 hend
  rcases hend with ⟨b, x, y, lp, ln, lc, vp, vn, vc, b', x', y', lp', ln', lc', vp', vn', vc', rfl, E4⟩ | hend
  · have S4 := Sat.later S3 E4
    have E14 := E13.trans E4
    (repeat (first | (refine Step.go ?_; intros) | refine iteB_t (by decide) ?_ | refine iteB_f (by decide) ?_ | (refine Duo.mk (by first | omega | exact rfl | decide) ?_; intros) | (refine Duo.mk (Clo.mk (by kernel_rfl)) ?_; intros)))
    exact live_end Sat.grown (by assumption)
  · obtain ⟨F, hF, hFl, ho, lp, lc, vp, vc, lp', lc', vp', vc', rfl, S4⟩ := hend
    have S5 := Sat.onto (m := [sl SP.cells 35 5 lp F.length lc (F.map (outX o)), sl inC 3 1 vp F.length vc (F.map (·.2)), sl SP.cells 35 5 lp' F.length lc' (F.map fun x => plainS x.1), sl inC 3 1 vp' F.length vc' (F.map (·.2))]) S4 S3
    simp only [List.cons_append, List.nil_append] at S5
    clear S4
    (repeat (first | (refine Step.go ?_; intros) | refine iteB_t (by decide) ?_ | refine iteB_f (by decide) ?_ | (refine Duo.mk (by first | omega | exact rfl | decide) ?_; intros) | (refine Duo.mk (Clo.mk (by kernel_rfl)) ?_; intros)))
    have S9 := ‹Sat _ _›
    refine gives_i S9 (same_ans (A1 := F.map (outX o)) (A2 := F.map fun x => plainS x.1) (V := F.map (·.2)) (by omega) (by omega) (S9.rowsAt (f := SP.cells) (E := 35) (z := 5) (n := F.length) (k := lc) (by simp)) (S9.rowsAt (f := inC) (E := 3) (z := 1) (n := F.length) (k := vc) (by simp)) (S9.rowsAt (f := SP.cells) (E := 35) (z := 5) (n := F.length) (k := lc') (by simp)) (S9.rowsAt (f := inC) (E := 3) (z := 1) (n := F.length) (k := vc') (by simp)) (by simp) (by simp) (by simp) ?_) ?_
    · intro i a c ha hc
      rw [List.getElem?_map] at ha hc
      cases hx : F[i]? with
      | none => rw [hx] at ha; simp at ha
      | some x =>
        rw [hx] at ha hc
        simp at ha hc
        subst ha hc
        have hsz := hF x (List.mem_of_getElem? hx)
        exact ⟨outX_p, outX_b hsz, hsz, sameS_out ho⟩
    intro H15 E15 S15
    (repeat (first | (refine Step.go ?_; intros) | refine iteB_t (by decide) ?_ | refine iteB_f (by decide) ?_ | (refine Duo.mk (by first | omega | exact rfl | decide) ?_; intros) | (refine Duo.mk (Clo.mk (by kernel_rfl)) ?_; intros)))
    exact live_end Sat.grown S15

end Go.Proofs.Ytobolifgehagfaa
