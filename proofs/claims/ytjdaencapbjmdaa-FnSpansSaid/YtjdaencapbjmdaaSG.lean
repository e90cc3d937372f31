/- What functions of this seat do, each proved by a walk; no condition. -/
import Derived.Test.YtjdaencapbjmdaaSF
set_option linter.unusedVariables false
set_option linter.unusedSimpArgs false
set_option linter.unnecessarySimpa false
namespace Go.Proofs.Ytjdaencapbjmdaa
open Go Go.Den Go.Proofs
section
variable {H : Heap}
theorem compareSpans_ok {o : Int} {s t : SP} (ho : 0 ≤ o ∧ o ≤ 3) (hz : Sz s) (hz2 : Sz t) (hn : NumOk o s) (hn2 : NumOk o t) (hs : ltE o s.B s.E = true) (ht : ltE o t.B t.E = true) :
    CallsH Try.prog 7 ⟨[.int .i64 o, .agg ⟨s.cells⟩, .agg ⟨t.cells⟩]⟩ H (Gives (.int .i64 (if meetS o s t then 0 else if aheadS o s t then -1 else 1)) H) := by
  have S := Sat.start H
  rw [← spans_law hs ht]
  refine F7.calls ?_
  unfold F7.go
  (repeat (first | (refine Step.go ?_; intros) | refine iteB_t (by decide) ?_ | refine iteB_f (by decide) ?_ | (refine Duo.mk (by first | omega | exact rfl | decide) ?_; intros) | (refine Duo.mk (Clo.mk (by kernel_rfl)) ?_; intros)))
  rename_i r H1 S1 r1 H2 S2
  refine callD_i (spanIn_ok ho hz hn) ?_
  rintro e H3 ⟨E3, i, j, rfl, hi, hj⟩
  have E2 : ExtH H H2 := Sat.grown
  have b1 := E3.block_some (S2.at_ (r := r1) (List.mem_cons_self ..))
  have A1 := atOld b1
  have S3 := Sat.start H3
  (repeat (first | (refine Step.go ?_; intros) | refine iteB_t (by decide) ?_ | refine iteB_f (by decide) ?_ | (refine Duo.mk (by first | omega | exact rfl | decide) ?_; intros) | (refine Duo.mk (Clo.mk (by kernel_rfl)) ?_; intros)))
  rename_i r2 _ _ _ _ H5 S5
  have E5 : ExtH H3 H5 := Sat.grown
  refine callD_i (spanIn_ok ho hz2 hn2) ?_
  rintro e H6 ⟨E6, i2, j2, rfl, hi2, hj2⟩
  have A2 := atOld (E6.block_some (S5.at_ (r := r2) (List.mem_cons_self ..)))
  have S6 := Sat.start H6
  (repeat (first | (refine Step.go ?_; intros) | refine iteB_t (by decide) ?_ | refine iteB_f (by decide) ?_ | (refine Duo.mk (by first | omega | exact rfl | decide) ?_; intros) | (refine Duo.mk (Clo.mk (by kernel_rfl)) ?_; intros)))
  rename_i r3 _ _ _ _ H7 S7
  have E7 : ExtH H6 H7 := Sat.grown
  have E37 := (E5.trans E6).trans E7
  refine gives_i S7 (compare_ok (o := o) (x := s.B) (xe := s.E) (y := t.B) (ye := t.E) S7.obj S7.obj (hi.ext E37) (hj.ext E37) (hi2.ext E7) (hj2.ext E7)) ?_
  intro H8 E8 S8
  (repeat (first | (refine Step.go ?_; intros) | refine iteB_t (by decide) ?_ | refine iteB_f (by decide) ?_ | (refine Duo.mk (by first | omega | exact rfl | decide) ?_; intros) | (refine Duo.mk (Clo.mk (by kernel_rfl)) ?_; intros)))
  exact ⟨rfl, ((E2.trans E3).trans E37).trans E8⟩
theorem fit37 {b e : ByteArray} {p : Bool} : CallsH Try.prog 10 ⟨[.agg ⟨[.string b, .string e, .bool p]⟩]⟩ H (fun e' H1 => ExtH H H1 ∧ ∃ r, e' = .returned (.bool r) ∧ (r = true → b.size ≤ 2147483647 ∧ e.size ≤ 2147483647)) := by
  have S := Sat.start H
  refine F10.calls ?_
  unfold F10.go
  (repeat (first | (refine Step.go ?_; intros) | refine iteB_t (by decide) ?_ | refine iteB_f (by decide) ?_ | (refine Duo.mk (by first | omega | exact rfl | decide) ?_; intros) | (refine Duo.mk (Clo.mk (by kernel_rfl)) ?_; intros)))
  refine iteB_i (fun h => ⟨Sat.grown, _, rfl, by simp⟩) (fun h1 => ?_)
  have h1 := of_decide_eq_false h1
  (repeat (first | (refine Step.go ?_; intros) | refine iteB_t (by decide) ?_ | refine iteB_f (by decide) ?_ | (refine Duo.mk (by first | omega | exact rfl | decide) ?_; intros) | (refine Duo.mk (Clo.mk (by kernel_rfl)) ?_; intros)))
  refine iteB_i (fun h => ⟨Sat.grown, _, rfl, by simp⟩) (fun h2 => ?_)
  have h2 := of_decide_eq_false h2
  exact ⟨Sat.grown, _, rfl, fun _ => ⟨by omega, by omega⟩⟩
theorem fit36 (s : SP) : CallsH Try.prog 4 ⟨[.agg ⟨s.cells⟩]⟩ H (fun e' H1 => ExtH H H1 ∧ ∃ r, e' = .returned (.bool r) ∧ (r = true → Sz s)) := by
  have S := Sat.start H
  refine F4.calls ?_
  unfold F4.go
  (repeat (first | (refine Step.go ?_; intros) | refine iteB_t (by decide) ?_ | refine iteB_f (by decide) ?_ | (refine Duo.mk (by first | omega | exact rfl | decide) ?_; intros) | (refine Duo.mk (Clo.mk (by kernel_rfl)) ?_; intros)))
  rename_i r H1 S1
  have E1 : ExtH H H1 := Sat.grown
  refine callD_i fit37 ?_
  rintro e H2 ⟨E2, b, rfl, hb⟩
  (repeat (first | (refine Step.go ?_; intros) | refine iteB_t (by decide) ?_ | refine iteB_f (by decide) ?_ | (refine Duo.mk (by first | omega | exact rfl | decide) ?_; intros) | (refine Duo.mk (Clo.mk (by kernel_rfl)) ?_; intros)))
  refine iteB_i (fun h => ⟨E1.trans E2, _, rfl, by simp⟩) (fun h => ?_)
  exact ⟨E1.trans E2, _, rfl, fun _ => hb (by simpa using h)⟩
/-- What the law asks of a span. -/
def GoodS (o : Int) (s : SP) : Prop := ltE o s.B s.E = true ∧ NumOk o s
theorem spanOf_ok {o : Int} (s : SP) (hz : Sz s) (hrange : o = 3 → s.p = false → ltE o s.B s.E = true → True) : CallsH Try.prog 11 ⟨[.int .i64 o, .agg ⟨s.cells⟩]⟩ H (fun e' H1 => ExtH H H1 ∧ ∃ r, e' = .returned (.bool r) ∧ (r = true → GoodS o s)) := by
  have S := Sat.start H
  refine F11.calls ?_
  unfold F11.go
  (repeat (first | (refine Step.go ?_; intros) | refine iteB_t (by decide) ?_ | refine iteB_f (by decide) ?_ | (refine Duo.mk (by first | omega | exact rfl | decide) ?_; intros) | (refine Duo.mk (Clo.mk (by kernel_rfl)) ?_; intros)))
  rename_i r H1 S1
  refine gives_i S1 (proper_ok s hz) ?_
  intro H2 E2 S2
  (repeat (first | (refine Step.go ?_; intros) | refine iteB_t (by decide) ?_ | refine iteB_f (by decide) ?_ | (refine Duo.mk (by first | omega | exact rfl | decide) ?_; intros) | (refine Duo.mk (Clo.mk (by kernel_rfl)) ?_; intros)))
  refine iteB_i (fun h => ?_) (fun h => ⟨Sat.grown, _, rfl, by simp⟩)
  have h : ltE o s.B s.E = true := h
  refine iteB_i (fun h3 => ?_) (fun h3 => ?_)
  · have h3 : ¬ o = 3 := by simpa using h3
    exact ⟨Sat.grown, _, rfl, fun _ => ⟨h, fun e => absurd e h3⟩⟩
  have h3 : o = 3 := by simpa using h3
  (repeat (first | (refine Step.go ?_; intros) | refine iteB_t (by decide) ?_ | refine iteB_f (by decide) ?_ | (refine Duo.mk (by first | omega | exact rfl | decide) ?_; intros) | (refine Duo.mk (Clo.mk (by kernel_rfl)) ?_; intros)))
  refine iteB_i (fun hp => ?_) (fun hp => ⟨Sat.grown, _, rfl, by simp⟩)
  have hp : s.p = false := by simpa using hp
  (repeat (first | (refine Step.go ?_; intros) | refine iteB_t (by decide) ?_ | refine iteB_f (by decide) ?_ | (refine Duo.mk (by first | omega | exact rfl | decide) ?_; intros) | (refine Duo.mk (Clo.mk (by kernel_rfl)) ?_; intros)))
  refine iteB_i (fun h4 => ?_) (fun h4 => ⟨Sat.grown, _, rfl, by simp⟩)
  have h4 := of_decide_eq_true h4
  (repeat (first | (refine Step.go ?_; intros) | refine iteB_t (by decide) ?_ | refine iteB_f (by decide) ?_ | (refine Duo.mk (by first | omega | exact rfl | decide) ?_; intros) | (refine Duo.mk (Clo.mk (by kernel_rfl)) ?_; intros)))
  refine ⟨Sat.grown, _, rfl, fun h5 => ⟨h, fun _ => ⟨hp, ?_⟩⟩⟩
  have h5 := of_decide_eq_true h5
  have hlt : s.f < s.t := by
    unfold ltE at h
    rw [if_pos h3] at h
    exact of_decide_eq_true h
  unfold near
  exact ⟨⟨by omega, by omega⟩, ⟨by omega, by omega⟩⟩
theorem trProper_ok {o : Int} (s : SP) (hz : Sz s) : CallsH Try.prog 5 ⟨[.int .i64 o, .agg ⟨[.int .i64 0, .string s.b, .string s.e, .bool s.p, .int .i64 s.f, .int .i64 s.t, .int .i64 0, .int .i64 0, .slice none 0 0, .slice none 0 0]⟩]⟩ H (fun e' H1 => ExtH H H1 ∧ ∃ r, e' = .returned (.bool r) ∧ (r = true → GoodS o s)) := by
  have S := Sat.start H
  refine F5.calls ?_
  unfold F5.go
  (repeat (first | (refine Step.go ?_; intros) | refine iteB_t (by decide) ?_ | refine iteB_f (by decide) ?_ | (refine Duo.mk (by first | omega | exact rfl | decide) ?_; intros) | (refine Duo.mk (Clo.mk (by kernel_rfl)) ?_; intros)))
  rename_i r H1 S1
  refine F5.L0_step ?_
  unfold F5.L0n
  (repeat (first | (refine Step.go ?_; intros) | refine iteB_t (by decide) ?_ | refine iteB_f (by decide) ?_ | (refine Duo.mk (by first | omega | exact rfl | decide) ?_; intros) | (refine Duo.mk (Clo.mk (by kernel_rfl)) ?_; intros)))
  refine F5.L1_step ?_
  unfold F5.L1n
  (repeat (first | (refine Step.go ?_; intros) | refine iteB_t (by decide) ?_ | refine iteB_f (by decide) ?_ | (refine Duo.mk (by first | omega | exact rfl | decide) ?_; intros) | (refine Duo.mk (Clo.mk (by kernel_rfl)) ?_; intros)))
  rename_i rb H2 S2
  have S3 : Sat H2 (sl SP.cells 25 5 (some ⟨rb, 0, none⟩) 1 1 [s] :: [old H]) := (S2.to (m := [pt rb (.cells ⟨[.string s.b, .string s.e, .bool s.p, .int .i64 s.f, .int .i64 s.t]⟩ 25), old H]) Fits.out).to (Ent.slClose (f := SP.cells) (pre := []) (xs := [s]) (sp := []) rfl (by intro x hx; simp at hx; subst hx; rfl) (Nat.le_refl _) rfl (by simp))
  refine S3.slApp (ys := []) (q := none) (by intro j v hj; simp at hj) rfl (by simp) (by simp) rfl (by decide) (by decide) ?_
  intro p' c' H3 S4
  have S4 : Sat H3 [sl SP.cells 25 5 p' 1 c' [s], old H] := S4
  obtain ⟨r', o', rfl⟩ := S4.slSome (List.mem_cons_self ..) (by decide)
  have I0 : HasI [s] (0 : Int) s := ⟨rfl⟩
  refine F5.L2_step ?_
  unfold F5.L2n
  refine iteB_t rfl ?_
  (repeat (first | (refine Step.go ?_; intros) | refine iteB_t (by decide) ?_ | refine iteB_f (by decide) ?_ | (refine Duo.mk (by first | omega | exact rfl | decide) ?_; intros) | (refine Duo.mk (Clo.mk (by kernel_rfl)) ?_; intros)))
  rename_i H4 S5
  have E4 : ExtH H H4 := Sat.grown
  refine callD_i (spanOf_ok s hz (fun _ _ _ => trivial)) ?_
  rintro e H5 ⟨E5, b, rfl, hb⟩
  (repeat (first | (refine Step.go ?_; intros) | refine iteB_t (by decide) ?_ | refine iteB_f (by decide) ?_ | (refine Duo.mk (by first | omega | exact rfl | decide) ?_; intros) | (refine Duo.mk (Clo.mk (by kernel_rfl)) ?_; intros)))
  refine iteB_i (fun h => ⟨E4.trans E5, _, rfl, by simp⟩) (fun h => ?_)
  refine F5.L2_step ?_
  unfold F5.L2n
  refine iteB_f rfl ?_
  exact ⟨E4.trans E5, _, rfl, fun _ => hb (by simpa using h)⟩
end
end Go.Proofs.Ytjdaencapbjmdaa
