/- What functions of this seat do, each proved by a walk; no condition. -/
import Derived.Test.YtobolifgehagfaaGreatRJ
set_option linter.unusedVariables false
set_option linter.unusedSimpArgs false
set_option linter.unnecessarySimpa false
namespace Go.Proofs.YtobolifgehagfaaGreat
open Go Go.Den Go.Proofs
/-! A watcher of a key is told of it. -/
abbrev intC (n : Int) : List Value := [.int .i64 n]
abbrev idC (x : List Value) : List Value := x
abbrev op0 : List Value := opC 1 3 (ByteArray.mk #[107]) (ByteArray.mk #[]) false 0 (ByteArray.mk #[])
abbrev op1 : List Value := opC 4 0 (ByteArray.mk #[]) (ByteArray.mk #[]) false 0 (ByteArray.mk #[107])
abbrev an0 : List Value := [.bool true, .int .i64 0, .slice none 0 0, .slice none 0 0]
abbrev an1 (q : Option Addr) (c : Nat) : List Value := [.bool false, .int .i64 0, .slice q 1 c, .slice none 0 0]
section
variable {H H0 : Heap} {l : List HP}
theorem opKey_ok {z km tp wm im sr w r kb kc ch : Nat} {g : PH} (hr : g r = some (watO kb kc 0 3 ch)) (S : Sat H (grp1 z km tp wm im sr w r g l)) : CallsH Tryz.prog 24 ⟨[pA z, .agg ⟨op1⟩]⟩ H (fun e H1 => ∃ q c, e = .returned (ansV false 0 q 1 c) ∧ Sat H1 (sl intC 2 1 q 1 c [3] :: l)) := by
  refine F24.calls ?_
  unfold F24.go
  (repeat (first | (refine Step.go ?_; intros) | refine iteB_t (by decide) ?_ | refine iteB_f (by decide) ?_ | (refine Duo.mk (by first | omega | exact rfl | decide) ?_; intros) | (refine Duo.mk (Clo.mk (by kernel_rfl)) ?_; intros)))
  have S1 := ‹Sat _ _›
  refine callD_i (byKey_ok (z := z) (km := km) (tp := tp) (wm := wm) (im := im) (sr := sr) (w := w) (g := g) hr (S1.to (by
    iterate 7 (apply Ent.pick; (focus (repeat (first | exact Sel.here | apply Sel.there))))
    exact Ent.refl))) ?_
  rintro _ H2 ⟨q, c, rfl, S2⟩
  clear S1 S
  (repeat (first | (refine Step.go ?_; intros) | refine iteB_t (by decide) ?_ | refine iteB_f (by decide) ?_ | (refine Duo.mk (by first | omega | exact rfl | decide) ?_; intros) | (refine Duo.mk (Clo.mk (by kernel_rfl)) ?_; intros)))
  have S3 := ‹Sat _ (_ :: _)›
  refine gives_i S3 sort_one fun H4 E4 S4 => ?_
  clear S2 S3
  (repeat (first | (refine Step.go ?_; intros) | refine iteB_t (by decide) ?_ | refine iteB_f (by decide) ?_ | (refine Duo.mk (by first | omega | exact rfl | decide) ?_; intros) | (refine Duo.mk (Clo.mk (by kernel_rfl)) ?_; intros)))
  have S9 := ‹Sat _ _›
  refine ⟨q, c, rfl, S9.to ?_⟩
  iterate 1 (apply Ent.pick; (focus (repeat (first | exact Sel.here | apply Sel.there))))
  exact Ent.drop (Ent.drop (Ent.drop Ent.refl))
theorem group_ok {p : Option Addr} (S : Sat H (sl idC 30 10 p 2 2 [op0, op1] :: l)) : CallsH Tryz.prog 15 ⟨[.slice p 2 2]⟩ H (fun e H1 => ∃ q c q' c', e = .returned (.slice q 2 c) ∧ Sat H1 (sl idC 55 4 q 2 c [an0, an1 q' c'] :: sl intC 2 1 q' 1 c' [3] :: l)) := by
  refine F15.calls ?_
  unfold F15.go
  refine callD_i (newGroup_ok S) ?_
  rintro _ H1 ⟨z, km, tp, wm, im, sr, rfl, S1⟩
  clear S
  (repeat (first | (refine Step.go ?_; intros) | refine iteB_t (by decide) ?_ | refine iteB_f (by decide) ?_ | (refine Duo.mk (by first | omega | exact rfl | decide) ?_; intros) | (refine Duo.mk (Clo.mk (by kernel_rfl)) ?_; intros)))
  have h0 : HasI [op0, op1] (0 : Int) op0 := HasI.nat (i := 0) rfl
  have h1 : HasI [op0, op1] (1 : Int) op1 := HasI.nat (i := 1) rfl
  obtain ⟨ra, oa, rfl⟩ := S1.slSome (f := idC) (E := 30) (z := 10) (p := p) (n := 2) (c := 2) (xs := [op0, op1]) (List.mem_cons_of_mem _ (List.mem_cons_of_mem _ (List.mem_cons_of_mem _ (List.mem_cons_of_mem _ (List.mem_cons_of_mem _ (List.mem_cons_self ..)))))) (by omega)
  refine F15.L0_step ?_
  unfold F15.L0n
  refine iteB_t (by decide) ?_
  (repeat (first | (refine Step.go ?_; intros) | refine iteB_t (by decide) ?_ | refine iteB_f (by decide) ?_ | (refine Duo.mk (by first | omega | exact rfl | decide) ?_; intros) | (refine Duo.mk (Clo.mk (by kernel_rfl)) ?_; intros)))
  refine callD_i (opAdd_ok (S1.to (by
    iterate 5 (apply Ent.pick; (focus (repeat (first | exact Sel.here | apply Sel.there))))
    exact Ent.refl))) ?_
  rintro _ H2 ⟨rfl, w, r, g, kb, kc, ch, hr, S2⟩
  clear S1
  (repeat (first | (refine Step.go ?_; intros) | refine iteB_t (by decide) ?_ | refine iteB_f (by decide) ?_ | (refine Duo.mk (by first | omega | exact rfl | decide) ?_; intros) | (refine Duo.mk (Clo.mk (by kernel_rfl)) ?_; intros)))
  rename_i r2 H3 S3
  have S4 : Sat H3 (sl idC 55 4 none 0 0 [] :: pt r2 (.cells ⟨an0⟩ 55) :: grp1 z km tp wm im sr w r g (sl idC 30 10 (some ⟨ra, oa, none⟩) 2 2 [op0, op1] :: l)) := by
    refine S3.to (Ent.slNil ?_)
    exact Ent.refl
  refine S4.slApp (ys := [an0]) (q := some ⟨r2, 0, none⟩) (d := 1) ?_ rfl (by simp) (by simp [isCell]) rfl (by decide) (by omega) fun q c H5 S5 => ?_
  · simp only [List.flatMap_cons, List.flatMap_nil, List.append_nil]
    exact cellsAt_one (S4.at_ (List.mem_cons_of_mem _ (List.mem_cons_self ..)))
  clear S2 S3 S4
  rw [show IntKind.wrap .i64 ((0 : Int) + 1) = 1 from rfl]
  refine F15.L0_step ?_
  unfold F15.L0n
  refine iteB_t (by decide) ?_
  (repeat (first | (refine Step.go ?_; intros) | refine iteB_t (by decide) ?_ | refine iteB_f (by decide) ?_ | (refine Duo.mk (by first | omega | exact rfl | decide) ?_; intros) | (refine Duo.mk (Clo.mk (by kernel_rfl)) ?_; intros)))
  refine callD_i (opKey_ok (z := z) (km := km) (tp := tp) (wm := wm) (im := im) (sr := sr) (w := w) (g := g) hr (S5.to (by
    iterate 7 (apply Ent.pick; (focus (repeat (first | exact Sel.here | apply Sel.there))))
    exact Ent.refl))) ?_
  rintro _ H6 ⟨q', c', rfl, S6⟩
  clear S5
  (repeat (first | (refine Step.go ?_; intros) | refine iteB_t (by decide) ?_ | refine iteB_f (by decide) ?_ | (refine Duo.mk (by first | omega | exact rfl | decide) ?_; intros) | (refine Duo.mk (Clo.mk (by kernel_rfl)) ?_; intros)))
  rename_i r3 H7 S7
  have S8 : Sat H7 (sl idC 55 4 q 1 c [an0] :: pt r3 (.cells ⟨an1 q' c'⟩ 55) :: sl intC 2 1 q' 1 c' [3] :: l) := by
    refine S7.to ?_
    iterate 3 (apply Ent.pick; (focus (repeat (first | exact Sel.here | apply Sel.there))))
    exact Ent.drop (Ent.drop Ent.refl)
  refine S8.slApp (ys := [an1 q' c']) (q := some ⟨r3, 0, none⟩) (d := 1) ?_ rfl (by simp) (by simp [isCell]) rfl (by decide) (by omega) fun q2 c2 H8 S9 => ?_
  · simp only [List.flatMap_cons, List.flatMap_nil, List.append_nil]
    exact cellsAt_one (S8.at_ (List.mem_cons_of_mem _ (List.mem_cons_self ..)))
  rw [show IntKind.wrap .i64 ((1 : Int) + 1) = 2 from rfl]
  refine F15.L0_step ?_
  unfold F15.L0n
  refine iteB_f (by decide) ?_
  refine ⟨q2, c2, q', c', rfl, S9.to (Ent.cons (Ent.drop Ent.refl))⟩
theorem live_ok : CallsH Tryz.prog 9 ⟨[]⟩ H (Gives (.bool true) H) := by
  have S := Sat.start H
  refine F9.calls ?_
  unfold F9.go
  refine Step.go ?_
  intro r H1 S1
  clear S
  have S2 : Sat H1 (sl idC 30 10 (some ⟨r, 0, none⟩) 2 2 [op0, op1] :: old H :: []) := S1.to (Ent.slClose (f := idC) (pre := []) (sp := []) (xs := [op0, op1]) rfl (by simp) (Nat.le_refl 2) rfl (by simp))
  refine callD_i (group_ok S2) ?_
  rintro _ H2 ⟨q, c, q', c', rfl, S3⟩
  clear S1 S2
  have E : ExtH H H2 := S3.old (by simp)
  (repeat (first | (refine Step.go ?_; intros) | refine iteB_t (by decide) ?_ | refine iteB_f (by decide) ?_ | (refine Duo.mk (by first | omega | exact rfl | decide) ?_; intros) | (refine Duo.mk (Clo.mk (by kernel_rfl)) ?_; intros)))
  have h1 : HasI [an0, an1 q' c'] (1 : Int) (an1 q' c') := HasI.nat (i := 1) rfl
  have h2 : HasI [(3 : Int)] (0 : Int) (3 : Int) := HasI.nat (i := 0) rfl
  obtain ⟨ra, oa, rfl⟩ := S3.slSome (List.mem_cons_self ..) (by omega)
  obtain ⟨rb, ob, rfl⟩ := S3.slSome (f := intC) (E := 2) (z := 1) (p := q') (n := 1) (c := c') (xs := [3]) (List.mem_cons_of_mem _ (List.mem_cons_self ..)) (by omega)
  (repeat (first | (refine Step.go ?_; intros) | refine iteB_t (by decide) ?_ | refine iteB_f (by decide) ?_ | (refine Duo.mk (by first | omega | exact rfl | decide) ?_; intros) | (refine Duo.mk (Clo.mk (by kernel_rfl)) ?_; intros)))
  exact ⟨rfl, E⟩
end
end Go.Proofs.YtobolifgehagfaaGreat
