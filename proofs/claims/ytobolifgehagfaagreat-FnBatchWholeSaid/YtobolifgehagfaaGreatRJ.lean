/- What functions of this seat do, each proved by a walk; no condition. -/
import Derived.Test.YtobolifgehagfaaGreatRI
set_option linter.unusedVariables false
set_option linter.unusedSimpArgs false
set_option linter.unnecessarySimpa false
namespace Go.Proofs.YtobolifgehagfaaGreat
open Go Go.Den Go.Proofs
/-! The group of one watcher is asked. -/
section
variable {H H0 : Heap} {l : List HP}
theorem len64_one : CallsH Tryz.prog 79 ⟨[.int .u64 1]⟩ H (Gives (.int .i64 1) H) := by
  refine F79.calls ?_
  unfold F79.go
  refine iteB_f rfl ?_
  refine F79.L0_step ?_
  unfold F79.L0n
  refine iteB_f rfl ?_
  refine F79.L1_step ?_
  unfold F79.L1n
  refine iteB_f rfl ?_
  refine F79.L2_step ?_
  unfold F79.L2n
  refine ⟨by decide, (1 : UInt8), by kernel_rfl, ?_⟩
  exact ⟨rfl, ExtH.refl _⟩
theorem sort_one {q : Option Addr} {c : Nat} : CallsH Tryz.prog 43 ⟨[.slice q 1 c]⟩ H (Gives (.tuple ⟨[]⟩) H) := by
  have S := Sat.start H
  refine F43.calls ?_
  unfold F43.go
  have h1 : CallsH Tryz.prog 58 ⟨[.int .u64 (IntKind.wrap .u64 ((1 : Nat) : Int))]⟩ H (Gives (.int .i64 1) H) := by
    refine F58.calls ?_
    unfold F58.go
    refine gives_i S len64_one fun H1 E1 S1 => ?_
    refine tInt_i ?_
    exact ⟨rfl, E1⟩
  refine gives_i S h1 fun H1 E1 S1 => ?_
  refine tInt_i ?_
  have h2 : CallsH Tryz.prog 57 ⟨[.slice q 1 c, .int .i64 0, .int .i64 ((1 : Nat) : Int), .int .i64 1]⟩ H1 (Gives (.tuple ⟨[]⟩) H1) := by
    refine F57.calls ?_
    unfold F57.go
    refine F57.L0_step ?_
    unfold F57.L0n
    refine iteB_t rfl ?_
    have h3 : CallsH Tryz.prog 69 ⟨[.slice q 1 c, .int .i64 0, .int .i64 ((1 : Nat) : Int)]⟩ H1 (Gives (.tuple ⟨[]⟩) H1) := by
      refine F69.calls ?_
      unfold F69.go
      refine F69.L0_step ?_
      unfold F69.L0n
      refine iteB_f rfl ?_
      exact ⟨rfl, ExtH.refl _⟩
    refine gives_i S1 h3 fun H2 E2 S2 => ?_
    refine tTup_i ?_
    refine tNil_i ?_
    exact ⟨rfl, E2⟩
  refine gives_i S1 h2 fun H2 E2 S2 => ?_
  refine tTup_i ?_
  refine tNil_i ?_
  exact ⟨rfl, E1.trans E2⟩
abbrev opC (k id : Int) (key e : ByteArray) (he : Bool) (m : Int) (qk : ByteArray) : List Value := [.int .i64 k, .int .i64 id, .string key, .string e, .bool he, .int .i64 m, .string qk, .int .i64 0, .int .i64 0, .slice none 0 0]
abbrev ansV (ok : Bool) (n : Int) (q : Option Addr) (qn qc : Nat) : Value := .agg ⟨[.bool ok, .int .i64 n, .slice q qn qc, .slice none 0 0]⟩
theorem end_ok : CallsH Tryz.prog 39 ⟨[.string (ByteArray.mk #[]), .bool false]⟩ H (Gives (.slice none 0 0) H) := by
  refine F39.calls ?_
  unfold F39.go
  exact ⟨rfl, ExtH.refl _⟩
theorem has_ok {z km tp wm im sr : Nat} (S : Sat H (grp0 z km tp wm im sr l)) : CallsH Tryz.prog 36 ⟨[pA z, .int .i64 3]⟩ H (fun e H1 => e = .returned (.bool false) ∧ H1 = H) := by
  refine F36.calls ?_
  unfold F36.go
  (iterate 2 (refine Step.go ?_; intros))
  refine Step.go ?_
  refine Duo.mk (fun v hv => by cases hv) (fun _ => ?_)
  (repeat (first | (refine Step.go ?_; intros) | refine iteB_t (by decide) ?_ | refine iteB_f (by decide) ?_ | (refine Duo.mk (by first | omega | exact rfl | decide) ?_; intros) | (refine Duo.mk (Clo.mk (by kernel_rfl)) ?_; intros)))
  exact ⟨rfl, rfl⟩
theorem size_ok {z km tp wm im sr : Nat} (S : Sat H (grp0 z km tp wm im sr l)) : CallsH Tryz.prog 37 ⟨[pA z]⟩ H (fun e H1 => e = .returned (.int .i64 0) ∧ H1 = H) := by
  refine F37.calls ?_
  unfold F37.go
  (repeat (first | (refine Step.go ?_; intros) | refine iteB_t (by decide) ?_ | refine iteB_f (by decide) ?_ | (refine Duo.mk (by first | omega | exact rfl | decide) ?_; intros) | (refine Duo.mk (Clo.mk (by kernel_rfl)) ?_; intros)))
  have h : CallsH Tryz.prog 52 ⟨[pA z]⟩ H (fun e H1 => e = .returned (.int .i64 0) ∧ H1 = H) := by
    refine F52.calls ?_
    unfold F52.go
    (repeat (first | (refine Step.go ?_; intros) | refine iteB_t (by decide) ?_ | refine iteB_f (by decide) ?_ | (refine Duo.mk (by first | omega | exact rfl | decide) ?_; intros) | (refine Duo.mk (Clo.mk (by kernel_rfl)) ?_; intros)))
    obtain ⟨h, ⟨es, clk, hb, he, _, _⟩, hs⟩ := S.mem (c := mp ptrK unitF wm []) (List.mem_cons_of_mem _ (List.mem_cons_of_mem _ (List.mem_cons_self ..)))
    refine mapLen (t := 94) rfl um (hs _ _ hb) ?_
    have he0 : es.size = 0 := by
      have := congrArg List.length he
      simpa using this
    rw [he0]
    (repeat (first | (refine Step.go ?_; intros) | refine iteB_t (by decide) ?_ | refine iteB_f (by decide) ?_ | (refine Duo.mk (by first | omega | exact rfl | decide) ?_; intros) | (refine Duo.mk (Clo.mk (by kernel_rfl)) ?_; intros)))
    exact ⟨rfl, rfl⟩
  refine callD_i h ?_
  rintro _ H1 ⟨rfl, rfl⟩
  (repeat (first | (refine Step.go ?_; intros) | refine iteB_t (by decide) ?_ | refine iteB_f (by decide) ?_ | (refine Duo.mk (by first | omega | exact rfl | decide) ?_; intros) | (refine Duo.mk (Clo.mk (by kernel_rfl)) ?_; intros)))
  exact ⟨rfl, rfl⟩
theorem opAdd_ok {z km tp wm im sr : Nat} (S : Sat H (grp0 z km tp wm im sr l)) : CallsH Tryz.prog 24 ⟨[pA z, .agg ⟨opC 1 3 (ByteArray.mk #[107]) (ByteArray.mk #[]) false 0 (ByteArray.mk #[])⟩]⟩ H (fun e H1 => e = .returned (ansV true 0 none 0 0) ∧ ∃ w r g kb kc ch, g r = some (watO kb kc 0 3 ch) ∧ Sat H1 (grp1 z km tp wm im sr w r g l)) := by
  refine F24.calls ?_
  unfold F24.go
  (repeat (first | (refine Step.go ?_; intros) | refine iteB_t (by decide) ?_ | refine iteB_f (by decide) ?_ | (refine Duo.mk (by first | omega | exact rfl | decide) ?_; intros) | (refine Duo.mk (Clo.mk (by kernel_rfl)) ?_; intros)))
  have S1 := ‹Sat _ _›
  refine callD_i (has_ok (z := z) (km := km) (tp := tp) (wm := wm) (im := im) (sr := sr) (S1.to (by
    iterate 5 (apply Ent.pick; (focus (repeat (first | exact Sel.here | apply Sel.there))))
    exact Ent.refl))) ?_
  rintro _ H2 ⟨rfl, rfl⟩
  (repeat (first | (refine Step.go ?_; intros) | refine iteB_t (by decide) ?_ | refine iteB_f (by decide) ?_ | (refine Duo.mk (by first | omega | exact rfl | decide) ?_; intros) | (refine Duo.mk (Clo.mk (by kernel_rfl)) ?_; intros)))
  refine callD_i (size_ok (z := z) (km := km) (tp := tp) (wm := wm) (im := im) (sr := sr) (S1.to (by
    iterate 5 (apply Ent.pick; (focus (repeat (first | exact Sel.here | apply Sel.there))))
    exact Ent.refl))) ?_
  rintro _ H2 ⟨rfl, rfl⟩
  (repeat (first | (refine Step.go ?_; intros) | refine iteB_t (by decide) ?_ | refine iteB_f (by decide) ?_ | (refine Duo.mk (by first | omega | exact rfl | decide) ?_; intros) | (refine Duo.mk (Clo.mk (by kernel_rfl)) ?_; intros)))
  refine F24.L1_step ?_
  unfold F24.L1n
  refine ⟨?_, ?_⟩
  · (repeat (first | (refine Step.go ?_; intros) | refine iteB_t (by decide) ?_ | refine iteB_f (by decide) ?_ | (refine Duo.mk (by first | omega | exact rfl | decide) ?_; intros) | (refine Duo.mk (Clo.mk (by kernel_rfl)) ?_; intros)))
    have S2 := ‹Sat _ (pt _ (.cells ⟨bytesOf _ ++ _⟩ _ _) :: _)›
    refine gives_i S2 end_ok fun H3 E3 S3 => ?_
    clear S2
    (repeat (first | (refine Step.go ?_; intros) | refine iteB_t (by decide) ?_ | refine iteB_f (by decide) ?_ | (refine Duo.mk (by first | omega | exact rfl | decide) ?_; intros) | (refine Duo.mk (Clo.mk (by kernel_rfl)) ?_; intros)))
    refine callD_i (zzAdd_ok (z := z) (km := km) (tp := tp) (wm := wm) (im := im) (sr := sr) (S3.to (by
      iterate 6 (apply Ent.pick; (focus (repeat (first | exact Sel.here | apply Sel.there))))
      exact Ent.refl))) ?_
    rintro _ H4 ⟨rfl, w, r, g, ch, hr, hk, S4⟩
    clear S3
    (repeat (first | (refine Step.go ?_; intros) | refine iteB_t (by decide) ?_ | refine iteB_f (by decide) ?_ | (refine Duo.mk (by first | omega | exact rfl | decide) ?_; intros) | (refine Duo.mk (Clo.mk (by kernel_rfl)) ?_; intros)))
    have S9 := ‹Sat _ _›
    refine ⟨rfl, w, r, g, _, _, ch, hr, S9.to ?_⟩
    iterate 7 (apply Ent.pick; (focus (repeat (first | exact Sel.here | apply Sel.there))))
    exact Ent.drop (Ent.drop (Ent.drop Ent.refl))
  · (repeat (first | (refine Step.go ?_; intros) | refine iteB_t (by decide) ?_ | refine iteB_f (by decide) ?_ | (refine Duo.mk (by first | omega | exact rfl | decide) ?_; intros) | (refine Duo.mk (Clo.mk (by kernel_rfl)) ?_; intros)))
    refine gives_i S1 end_ok fun H3 E3 S3 => ?_
    clear S1
    (repeat (first | (refine Step.go ?_; intros) | refine iteB_t (by decide) ?_ | refine iteB_f (by decide) ?_ | (refine Duo.mk (by first | omega | exact rfl | decide) ?_; intros) | (refine Duo.mk (Clo.mk (by kernel_rfl)) ?_; intros)))
    have S5 := ‹Sat _ (pt _ (.cells ⟨bytesOf _ ++ _⟩ _ _) :: _)›
    refine callD_i (zzAdd_ok (z := z) (km := km) (tp := tp) (wm := wm) (im := im) (sr := sr) (S5.to (by
      iterate 6 (apply Ent.pick; (focus (repeat (first | exact Sel.here | apply Sel.there))))
      exact Ent.refl))) ?_
    rintro _ H4 ⟨rfl, w, r, g, ch, hr, hk, S4⟩
    clear S5
    (repeat (first | (refine Step.go ?_; intros) | refine iteB_t (by decide) ?_ | refine iteB_f (by decide) ?_ | (refine Duo.mk (by first | omega | exact rfl | decide) ?_; intros) | (refine Duo.mk (Clo.mk (by kernel_rfl)) ?_; intros)))
    have S9 := ‹Sat _ _›
    refine ⟨rfl, w, r, g, _, _, ch, hr, S9.to ?_⟩
    iterate 7 (apply Ent.pick; (focus (repeat (first | exact Sel.here | apply Sel.there))))
    exact Ent.drop (Ent.drop (Ent.drop Ent.refl))
end
end Go.Proofs.YtobolifgehagfaaGreat
