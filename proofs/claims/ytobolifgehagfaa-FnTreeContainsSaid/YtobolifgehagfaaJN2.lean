/- What functions of this seat do, each proved by a walk; no condition. -/
import Derived.Test.YtobolifgehagfaaJN1
set_option linter.unusedVariables false
set_option linter.unusedSimpArgs false
set_option linter.unnecessarySimpa false
namespace Go.Proofs.Ytobolifgehagfaa
open Go Go.Den Go.Proofs
/-! FnTreeContains. -/
theorem All2.any_eq {α β : Type} {R : α → β → Prop} {f : α → Bool} {h : β → Bool} (e : ∀ a b, R a b → f a = h b) : ∀ {l : List α} {m : List β}, All2 R l m → l.any f = m.any h
  | _, _, .nil => rfl
  | _, _, .cons (a := a) (b := b) h1 h2 => by rw [List.any_cons, List.any_cons, e a b h1, h2.any_eq e]
theorem All2.all_eq {α β : Type} {R : α → β → Prop} {f : α → Bool} {h : β → Bool} (e : ∀ a b, R a b → f a = h b) : ∀ {l : List α} {m : List β}, All2 R l m → l.all f = m.all h
  | _, _, .nil => rfl
  | _, _, .cons (a := a) (b := b) h1 h2 => by rw [List.all_cons, List.all_cons, e a b h1, h2.all_eq e]
theorem has_rel {o : Int} {y : EN} {l : List It} {m : List (SP × Int)} (h : All2 Rl l m) : hasI o y l = hasP o y m :=
  h.any_eq fun a b r => by rw [r.1, r.2.1]
theorem con_plain {o : Int} {s : SP} {T : Tr} {L : List (SP × Int)} (hT : TrSt o T L) (hs : ltE o s.B s.E = true) : conR o s.B s.E (foldV (conF o) (none, true) (Go.Proofs.Ytobolifgehagfaa.vis o s.B s.E T)).1 = covP o s L := by
  rw [vis_ok hs T hT.wt.srt hT.wt.prop, contains_law hT.wt.srt hT.wt.prop hs]
  unfold covI covP
  rw [has_rel hT.rel, hT.rel.all_eq (h := fun x => !innerX o s x || hasP o x.1.E L) fun a b r => by unfold innerI innerX; rw [r.2.1, has_rel hT.rel]]
theorem treeContains_ok {H : Heap} {o : Int} {xs : List SP} {q : Option Addr} {n qc : Nat} (s : SP) (hR : RowsAt SP.cells 5 H q xs) (hn : xs.length = n) : CallsH Try.prog 5 ⟨[.int .i64 o, .slice q n qc, .agg ⟨s.cells⟩]⟩ H (Gives (.bool true) H) := by
  have S := Sat.start H
  refine F5.calls ?_
  unfold F5.go
  (repeat (first | (refine Step.go ?_; intros) | refine iteB_t (by decide) ?_ | refine iteB_f (by decide) ?_ | (refine Duo.mk (by first | omega | exact rfl | decide) ?_; intros) | (refine Duo.mk (Clo.mk (by kernel_rfl)) ?_; intros)))
  rename_i r H1 S1
  have E1 : ExtH H H1 := Sat.grown
  refine callD_i (fit38 (hR.ext E1) hn) ?_
  rintro e H2 ⟨E2, b1, rfl, hb1⟩
  have S2 := Sat.later S1 E2
  (repeat (first | (refine Step.go ?_; intros) | refine iteB_t (by decide) ?_ | refine iteB_f (by decide) ?_ | (refine Duo.mk (by first | omega | exact rfl | decide) ?_; intros) | (refine Duo.mk (Clo.mk (by kernel_rfl)) ?_; intros)))
  refine iteB_i (fun h => ⟨rfl, E1.trans E2⟩) (fun h => ?_)
  obtain ⟨hnb, hz⟩ := hb1 (by simpa using h)
  (repeat (first | (refine Step.go ?_; intros) | refine iteB_t (by decide) ?_ | refine iteB_f (by decide) ?_ | (refine Duo.mk (by first | omega | exact rfl | decide) ?_; intros) | (refine Duo.mk (Clo.mk (by kernel_rfl)) ?_; intros)))
  refine callD_i (fit36 s) ?_
  rintro e H3 ⟨E3, b2, rfl, hb2⟩
  have S3 := Sat.later S2 E3
  have E13 := (E1.trans E2).trans E3
  (repeat (first | (refine Step.go ?_; intros) | refine iteB_t (by decide) ?_ | refine iteB_f (by decide) ?_ | (refine Duo.mk (by first | omega | exact rfl | decide) ?_; intros) | (refine Duo.mk (Clo.mk (by kernel_rfl)) ?_; intros)))
  refine iteB_i (fun h => ⟨rfl, E13⟩) (fun h => ?_)
  have hs := hb2 (by simpa using h)
  refine F5.L0_step ?_
  unfold F5.L0n
  (repeat (first | (refine Step.go ?_; intros) | refine iteB_t (by decide) ?_ | refine iteB_f (by decide) ?_ | (refine Duo.mk (by first | omega | exact rfl | decide) ?_; intros) | (refine Duo.mk (Clo.mk (by kernel_rfl)) ?_; intros)))
  refine callD_i (ask_con (hR.ext E13) hn hz hs) ?_
  rintro e H4 hend
  rcases hend with ⟨b, x, y, lp, ln, lc, vp, vn, vc, b', x', y', lp', ln', lc', vp', vn', vc', rfl, E4⟩ | hend
  · have S4 := Sat.later S3 E4
    have E14 := E13.trans E4
    (repeat (first | (refine Step.go ?_; intros) | refine iteB_t (by decide) ?_ | refine iteB_f (by decide) ?_ | (refine Duo.mk (by first | omega | exact rfl | decide) ?_; intros) | (refine Duo.mk (Clo.mk (by kernel_rfl)) ?_; intros)))
    exact live_end Sat.grown (by assumption)
  · obtain ⟨b, b', ch, T, hg, gs, ho, hT, hb, hb', rfl, E4⟩ := hend
    have hbb : b = b' := by rw [hb, hb']; exact con_plain hT gs.2.2
    rw [hbb] at *
    have S4 := Sat.later S3 E4
    (repeat (first | (refine Step.go ?_; intros) | refine iteB_t (by decide) ?_ | refine iteB_f (by decide) ?_ | (refine Duo.mk (by first | omega | exact rfl | decide) ?_; intros) | (refine Duo.mk (Clo.mk (by kernel_rfl)) ?_; intros)))
    have S9 := ‹Sat _ _›
    refine gives_i S9 (same_ans (k := 0) (k2 := 0) (A1 := []) (A2 := []) (V := []) (by omega) (by omega) .nil .nil .nil .nil rfl rfl rfl (by intro i s t h; simp at h)) ?_
    intro H15 E15 S15
    (repeat (first | (refine Step.go ?_; intros) | refine iteB_t (by decide) ?_ | refine iteB_f (by decide) ?_ | (refine Duo.mk (by first | omega | exact rfl | decide) ?_; intros) | (refine Duo.mk (Clo.mk (by kernel_rfl)) ?_; intros)))
    exact live_end Sat.grown S15

end Go.Proofs.Ytobolifgehagfaa
