/- What functions of this seat do, each proved by a walk; no condition. -/
import Derived.Test.YtkejocbhmcphiaaDoorWQ3
import Derived.Test.YtkejocbhmcphiaaDoorWQ2
set_option linter.unusedVariables false
set_option linter.unusedSimpArgs false
set_option linter.unnecessarySimpa false
set_option maxRecDepth 100000
namespace Go.Proofs.YtkejocbhmcphiaaDoor
open Go Go.Den Go.Proofs
/-! FnWalBack. -/
theorem good_head : GoodR head0 := ⟨rfl, by decide, fun _ => rfl, fun _ => rfl⟩
theorem good_all {rs : List WR} (h : ∀ r ∈ rs, GoodR r) : ∀ r ∈ head0 :: rs, GoodR r := fun r hr => by
  rcases List.mem_cons.1 hr with rfl | hr
  · exact good_head
  · exact h r hr
theorem rg_all {rs : List WR} (h : ∀ r ∈ rs, Rg r) : ∀ r ∈ head0 :: rs, Rg r := fun r hr => by
  rcases List.mem_cons.1 hr with rfl | hr
  · exact ⟨by decide, by decide⟩
  · exact h r hr
theorem headed_all {rs : List WR} : Headed (head0 :: rs) := fun r hr => by simp at hr; subst hr; rfl
section
variable {H0 : Heap} {p : Option Addr} {n c : Nat} {rs : List WR} {s : W32} {e0 e1 : Addr}
theorem back_ok {off : Int} (hE : ErP (PH.of H0) e0 e1) (hR : RowsAt WR.cells 6 H0 p rs) (hn : rs.length = n) (hrg : ∀ r ∈ rs, Rg r) :
    CallsH Tryd.prog 3 ⟨[.int .u32 (iv s), .int .i64 off, .slice p n c]⟩ H0 (Gives (.bool true) H0) := by
  refine F3.calls ?_
  unfold F3.go
  refine call_of (fits_ok hR hn) ?_
  rintro e H1 ⟨b1, rfl, _, E1⟩
  (repeat (first | (refine Step.go ?_; intros) | refine iteB_t (by decide) ?_ | refine iteB_f (by decide) ?_ | (refine Duo.mk (by first | omega | exact rfl | decide) ?_; intros) | (refine Duo.mk (Clo.mk (by kernel_rfl)) ?_; intros)))
  refine iteB_i (fun _ => ⟨rfl, E1⟩) (fun _ => ?_)
  refine call_of (good_ok (hR.ext E1) hn) ?_
  rintro e H2 ⟨b2, rfl, hgood, E2⟩
  (repeat (first | (refine Step.go ?_; intros) | refine iteB_t (by decide) ?_ | refine iteB_f (by decide) ?_ | (refine Duo.mk (by first | omega | exact rfl | decide) ?_; intros) | (refine Duo.mk (Clo.mk (by kernel_rfl)) ?_; intros)))
  refine iteB_i (fun _ => ⟨rfl, E1.trans E2⟩) (fun hb => ?_)
  obtain ⟨hn60, hoff, hg⟩ := hgood (by simpa using hb)
  have S2 : Sat H2 [old H0] := (Sat.start H0).ext (E1.trans E2)
  refine call_of (headed_ok (hR.ext (E1.trans E2)) hn (by omega) S2) ?_
  rintro e H3 ⟨q, qc, rfl, S3⟩
  clear S2
  (repeat (first | (refine Step.go ?_; intros) | refine iteB_t (by decide) ?_ | refine iteB_f (by decide) ?_ | (refine Duo.mk (by first | omega | exact rfl | decide) ?_; intros) | (refine Duo.mk (Clo.mk (by kernel_rfl)) ?_; intros)))
  have hga := good_all hg
  generalize hrs : head0 :: rs = rs' at *
  have hn' : rs'.length = n + 1 := by rw [← hrs]; simp [hn]
  have hlb := logB_len (s := s) hga
  refine call_of (walwrite_ok (s := s) (by omega) hoff hga S3) ?_
  rintro e H4 ⟨bq, bc, rfl, S4⟩
  clear S3
  (repeat (first | (refine Step.go ?_; intros) | refine iteB_t (by decide) ?_ | refine iteB_f (by decide) ?_ | (refine Duo.mk (by first | omega | exact rfl | decide) ?_; intros) | (refine Duo.mk (Clo.mk (by kernel_rfl)) ?_; intros)))
  rename_i fr H5 S5
  clear S4
  have e1' : IntKind.wrap .i64 (((n + 1 : Nat) : Int) + (9 : Int)) = ((n + 10 : Nat) : Int) := by rw [wr64 (by omega) (by omega)]; omega
  rw [e1']
  haveI El : Ers [old H0] e0 e1 := Ers.old hE
  have hw := walread_of (most := ((n + 10 : Nat) : Int)) (e0 := e0) (e1 := e1) (P := fun gs en of su => GotAll s rs' gs ∧ en = 1 ∧ of = (logB s rs').length ∧ su = lastS s rs') (fs := strB (logB s rs')) (fr := fr) (l := sl bC 5 1 bq (logB s rs').length bc (logB s rs') :: sl WR.cells 38 6 q (n + 1) qc rs' :: [old H0]) (by show (logB s rs').length ≤ _; omega) S5 (by
    intro H1 l' db fb g2 r8 bp bcc sb br R Er hbb hout S
    have hF : (strB (logB s rs')).data.toList = logB s rs' := rfl
    rw [hF] at R S
    refine rd_loop (T := []) (s := s) (rs := rs') (by omega) (by show (logB s rs').length ≤ bcc; exact hbb) R (by simp) (hrs ▸ headed_all) hga (hrs ▸ rg_all hrg) (by omega) (by omega) ?_ rs'.length 0 H1 sb br 1 none 0 [] 0#32 (by omega) rfl rfl S
    intro H sb br brc q qc gs s1 hG hs S
    refine fin_eof (by have := hG.len; omega) rfl ⟨hG, rfl, rfl, ?_⟩ S
    rw [hs, if_neg (by omega)])
  refine call_of hw ?_
  rintro e H6 ⟨gq, gc, gs, en, of, su, rfl, ⟨hG, rfl, rfl, rfl⟩, S6⟩
  clear S5
  (repeat (first | (refine Step.go ?_; intros) | refine iteB_t (by decide) ?_ | refine iteB_f (by decide) ?_ | (refine Duo.mk (by first | omega | exact rfl | decide) ?_; intros) | (refine Duo.mk (Clo.mk (by kernel_rfl)) ?_; intros)))
  rename_i r1 _ _ _ _ _ _ _ _ H7 S7
  clear S6
  have S8 : Sat H7 (sl WR.cells 38 6 gq gs.length gc gs :: sl WR.cells 38 6 q (n + 1) qc rs' :: pt r1 (.cells ⟨[.slice gq gs.length gc, .int .i64 1, .int .i64 ((logB s rs').length : Int), .int .u32 (iv (lastS s rs'))]⟩ 31) :: [old H0]) := S7.to (by
    iterate 3 (apply Ent.pick; (focus (repeat (first | exact Sel.here | apply Sel.there))))
    exact Fits.out)
  clear S7
  refine call_of (same_ok hG (by omega) hga S8) ?_
  rintro e H8 ⟨rfl, S9⟩
  clear S8
  (repeat (first | (refine Step.go ?_; intros) | refine iteB_t (by decide) ?_ | refine iteB_f (by decide) ?_ | (refine Duo.mk (by first | omega | exact rfl | decide) ?_; intros) | (refine Duo.mk (Clo.mk (by kernel_rfl)) ?_; intros)))
  refine iteB_t (beq_self_eq_true _) ?_
  (repeat (first | (refine Step.go ?_; intros) | refine iteB_t (by decide) ?_ | refine iteB_f (by decide) ?_ | (refine Duo.mk (by first | omega | exact rfl | decide) ?_; intros) | (refine Duo.mk (Clo.mk (by kernel_rfl)) ?_; intros)))
  have hRR : RowsAt WR.cells 6 H8 q rs' := by
    have := rows_sl S9 (List.mem_cons_self ..) 0 rs'.length (by omega)
    rw [slP_zero, List.drop_zero, List.take_length] at this
    exact this
  refine gives_i S9 (last_ok (s := s) hRR hn' (by omega) hga) fun H9 E9 S10 => ?_
  (repeat (first | (refine Step.go ?_; intros) | refine iteB_t (by decide) ?_ | refine iteB_f (by decide) ?_ | (refine Duo.mk (by first | omega | exact rfl | decide) ?_; intros) | (refine Duo.mk (Clo.mk (by kernel_rfl)) ?_; intros)))
  rw [beq_self_eq_true]
  exact ⟨rfl, S10.old (by simp)⟩
end
end Go.Proofs.YtkejocbhmcphiaaDoor
