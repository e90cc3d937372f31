/- What functions of this seat do, each proved by a walk; no condition. -/
import Derived.Test.YtjdaencapbjmdaaSG
set_option linter.unusedVariables false
set_option linter.unusedSimpArgs false
set_option linter.unnecessarySimpa false
namespace Go.Proofs.Ytjdaencapbjmdaa
open Go Go.Den Go.Proofs
/-! A tree of one interval. -/
section
variable {P : Program} {H : Heap} {Q : List PanicEntry → Heap → Prop}
theorem assertOk_same {t xt : TypeId} {v : Value} {K : Value → Heap → Prop} (h : concT P t = true) (k : K (.tuple ⟨[v, .bool true]⟩) H) : valD P (Instr.typeAssert (IV.v (.mk t v)) xt t true) H Q K := by
  refine ⟨?_⟩
  unfold concT at h
  unfold Instr.typeAssert
  split at h
  · cases h
  · rename_i d hni hu
    rw [SemH_bind, SemH_underlying hu]
    show SemH P (match d, Value.iface t v with | .interface _, .nilIface => _ | .interface want, .iface t _ => _ | _, .nilIface => _ | _, .iface t v => _ | _, _ => _) H K _
    cases d <;> simp only [if_true] <;> first | exact k | exact (hni _ rfl).elim
  · cases h
theorem assertOk_ne {t u xt : TypeId} {v z : Value} {K : Value → Heap → Prop} (hn : t ≠ u) (h : concT P u = true) (hz : pureV P (zeroValue u) = some z) (k : K (.tuple ⟨[z, .bool false]⟩) H) : valD P (Instr.typeAssert (IV.v (.mk t v)) xt u true) H Q K := by
  refine ⟨?_⟩
  unfold concT at h
  unfold Instr.typeAssert
  split at h
  · cases h
  · rename_i d hni hu
    rw [SemH_bind, SemH_underlying hu]
    show SemH P (match d, Value.iface t v with | .interface _, .nilIface => _ | .interface want, .iface t _ => _ | _, .nilIface => _ | _, .iface t v => _ | _, _ => _) H K _
    have key : SemH P (do pure (.tuple #[← zeroValue u, .bool false]) : Sem Value) H K (fun v H' => Q [{ v, recovered := false }] H') := by
      rw [SemH_bind]
      exact semH_of_pure hz k
    cases d <;> simp only [if_neg hn, if_true] <;> first | exact key | exact (hni _ rfl).elim
  · cases h
end
theorem pq_same {H : Heap} {a : Addr} {k : Bool → Prop} (h : k true) : pqD H (some a) (some a) k := by
  refine .inl ⟨rfl, ?_⟩
  have e : (a == a) = true := by simp
  rw [e]
  exact h
instance {i : IV} {X : Prop} : Step (guardB (isCell i.v) X) X := ⟨fun h => by rw [isCell_IV]; exact h⟩
theorem pq_ne {H : Heap} {a b : Nat} {ca cb : Array Value} {Ta Tb : TypeId} {za zb : Nat} {k : Bool → Prop} (hn : a ≠ b) (ha : H[a]? = some (.cells ca Ta (za, za))) (hb : H[b]? = some (.cells cb Tb (zb, zb))) (h : k false) : pqD H (some ⟨a, 0, none⟩) (some ⟨b, 0, none⟩) k :=
  .inr ⟨hn, ⟨_, _, _, ha⟩, ⟨_, _, _, hb⟩, h⟩
abbrev senO : Obj := .cells ⟨[.nilIface, .nilIface, .nilIface, .nilIface, .pointer none, .pointer none, .pointer none, .int .i64 0]⟩ 67
abbrev pA (b : Nat) : Value := .pointer (some ⟨b, 0, none⟩)
abbrev treO (root : Nat) (n : Int) (sr : Nat) : Obj := .cells ⟨[pA root, .int .i64 n, pA sr]⟩ 70
abbrev eA : Value := .iface 83 (.string ⟨#[97]⟩)
abbrev eC : Value := .iface 83 (.string ⟨#[99]⟩)
abbrev nodO (par sr : Nat) (col : Int) : Obj := .cells ⟨[eA, eC, .iface 3 (.int .i64 4), eC, pA sr, pA sr, .pointer (some ⟨par, 0, none⟩), .int .i64 col]⟩ 67
section
variable {H : Heap} {L : List HP} {tr sr nb : Nat}
theorem color_sen (sr : Nat) : CallsH Try.prog 62 ⟨[pA sr, pA sr]⟩ H (Gives (.int .i64 0) H) := by
  refine F62.calls ?_
  unfold F62.go
  refine pq_same ?_
  refine iteB_t rfl ?_
  exact ⟨rfl, ExtH.refl H⟩
theorem fixup_ok (S : Sat H (pt tr (treO nb 0 sr) :: pt nb (nodO sr sr 1) :: pt sr senO :: L)) : CallsH Try.prog 66 ⟨[pA tr, pA nb]⟩ H (fun e H1 => e = .returned (.tuple ⟨[]⟩) ∧ Sat H1 (pt tr (treO nb 0 sr) :: pt nb (nodO sr sr 0) :: pt sr senO :: L)) := by
  refine F66.calls ?_
  unfold F66.go
  refine F66.L0_step ?_
  unfold F66.L0n
  (repeat (first | (refine Step.go ?_; intros) | refine iteB_t (by decide) ?_ | refine iteB_f (by decide) ?_ | (refine Duo.mk (by first | omega | exact rfl | decide) ?_; intros) | (refine Duo.mk (Clo.mk (by kernel_rfl)) ?_; intros)))
  refine gives_i S (color_sen sr) ?_
  intro H1 E1 S1
  (repeat (first | (refine Step.go ?_; intros) | refine iteB_t (by decide) ?_ | refine iteB_f (by decide) ?_ | (refine Duo.mk (by first | omega | exact rfl | decide) ?_; intros) | (refine Duo.mk (Clo.mk (by kernel_rfl)) ?_; intros)))
  rename_i H2 S2
  exact ⟨rfl, S2⟩
theorem create_ok (S : Sat H (pt tr (treO sr 0 sr) :: pt sr senO :: L)) : CallsH Try.prog 65 ⟨[pA tr, .agg ⟨[eA, eC]⟩, .iface 3 (.int .i64 4)]⟩ H (fun e H1 => ∃ nb, e = .returned (pA nb) ∧ Sat H1 (pt nb (nodO sr sr 1) :: pt tr (treO sr 0 sr) :: pt sr senO :: L)) := by
  refine F65.calls (ivl_0 := .mk 83 (.string ⟨#[97]⟩)) (ivl_1 := .mk 83 (.string ⟨#[99]⟩)) (val := .mk 3 (.int .i64 4)) ?_
  unfold F65.go
  (repeat (first | (refine Step.go ?_; intros) | refine iteB_t (by decide) ?_ | refine iteB_f (by decide) ?_ | (refine Duo.mk (by first | omega | exact rfl | decide) ?_; intros) | (refine Duo.mk (Clo.mk (by kernel_rfl)) ?_; intros)))
  rename_i r H1 S1 nb H2 S2
  have S3 : Sat H2 (pt nb (nodO sr sr 1) :: pt r (.cells ⟨[eA, eC]⟩ 45) :: pt tr (treO sr 0 sr) :: pt sr senO :: L) := S2
  exact ⟨nb, rfl, S3.to Fits.out⟩
theorem insert_ok (S : Sat H (pt tr (treO sr 0 sr) :: pt sr senO :: L)) : CallsH Try.prog 52 ⟨[pA tr, .agg ⟨[eA, eC]⟩, .iface 3 (.int .i64 4)]⟩ H (fun e H1 => e = .returned (.tuple ⟨[]⟩) ∧ ∃ nb, Sat H1 (pt tr (treO nb 1 sr) :: pt nb (nodO sr sr 0) :: pt sr senO :: L)) := by
  refine F52.calls (s1_0 := .mk 83 (.string ⟨#[97]⟩)) (s1_1 := .mk 83 (.string ⟨#[99]⟩)) (s2 := .mk 3 (.int .i64 4)) ?_
  unfold F52.go
  (repeat (first | (refine Step.go ?_; intros) | refine iteB_t (by decide) ?_ | refine iteB_f (by decide) ?_ | (refine Duo.mk (by first | omega | exact rfl | decide) ?_; intros) | (refine Duo.mk (Clo.mk (by kernel_rfl)) ?_; intros)))
  rename_i r H1 S1
  have S1' : Sat H1 (pt tr (treO sr 0 sr) :: pt sr senO :: L) := S1.to Fits.out
  refine callD_i (create_ok S1') ?_
  rintro e H2 ⟨nb, rfl, S2⟩
  (repeat (first | (refine Step.go ?_; intros) | refine iteB_t (by decide) ?_ | refine iteB_f (by decide) ?_ | (refine Duo.mk (by first | omega | exact rfl | decide) ?_; intros) | (refine Duo.mk (Clo.mk (by kernel_rfl)) ?_; intros)))
  refine F52.L0_step ?_
  unfold F52.L0n
  (repeat (first | (refine Step.go ?_; intros) | refine iteB_t (by decide) ?_ | refine iteB_f (by decide) ?_ | (refine Duo.mk (by first | omega | exact rfl | decide) ?_; intros) | (refine Duo.mk (Clo.mk (by kernel_rfl)) ?_; intros)))
  refine pq_same ?_
  refine iteB_f rfl ?_
  (repeat (first | (refine Step.go ?_; intros) | refine iteB_t (by decide) ?_ | refine iteB_f (by decide) ?_ | (refine Duo.mk (by first | omega | exact rfl | decide) ?_; intros) | (refine Duo.mk (Clo.mk (by kernel_rfl)) ?_; intros)))
  rename_i H3 S3
  refine pq_same ?_
  refine iteB_t rfl ?_
  (repeat (first | (refine Step.go ?_; intros) | refine iteB_t (by decide) ?_ | refine iteB_f (by decide) ?_ | (refine Duo.mk (by first | omega | exact rfl | decide) ?_; intros) | (refine Duo.mk (Clo.mk (by kernel_rfl)) ?_; intros)))
  rename_i H4 S4
  refine F52.L2_step ?_
  unfold F52.L2n
  (repeat (first | (refine Step.go ?_; intros) | refine iteB_t (by decide) ?_ | refine iteB_f (by decide) ?_ | (refine Duo.mk (by first | omega | exact rfl | decide) ?_; intros) | (refine Duo.mk (Clo.mk (by kernel_rfl)) ?_; intros)))
  rename_i H5 S5
  have S5' : Sat H5 (pt tr (treO nb 0 sr) :: pt nb (nodO sr sr 1) :: pt sr senO :: L) := S5.to Fits.out
  refine callD_i (fixup_ok S5') ?_
  rintro e H6 ⟨rfl, S6⟩
  (repeat (first | (refine Step.go ?_; intros) | refine iteB_t (by decide) ?_ | refine iteB_f (by decide) ?_ | (refine Duo.mk (by first | omega | exact rfl | decide) ?_; intros) | (refine Duo.mk (Clo.mk (by kernel_rfl)) ?_; intros)))
  rename_i H7 S7
  exact ⟨rfl, nb, S7⟩
theorem nb_ne (S : Sat H (pt tr (treO nb 1 sr) :: pt nb (nodO sr sr 0) :: pt sr senO :: L)) : nb ≠ sr := by
  intro e
  subst e
  have h1 := S.at_ (r := nb) (o := nodO nb nb 0) (by simp)
  have h2 := S.at_ (r := nb) (o := senO) (by simp)
  rw [h1] at h2
  simp at h2
theorem cmp_self {x : EN} (o : Int) : cmpE o x x = 0 := by
  unfold cmpE
  have : ltE o x x = false := by
    cases h : ltE o x x with
    | false => rfl
    | true => have := ltE_asymm h; rw [h] at this; cases this
  rw [this]; rfl
theorem find_ok (S : Sat H (pt tr (treO nb 1 sr) :: pt nb (nodO sr sr 0) :: pt sr senO :: L)) : CallsH Try.prog 60 ⟨[pA tr, .agg ⟨[eA, eC]⟩]⟩ H (fun e H1 => e = .returned (pA nb) ∧ Sat H1 (pt tr (treO nb 1 sr) :: pt nb (nodO sr sr 0) :: pt sr senO :: L)) := by
  have hne := nb_ne S
  refine F60.calls (s1_0 := .mk 83 (.string ⟨#[97]⟩)) (s1_1 := .mk 83 (.string ⟨#[99]⟩)) ?_
  unfold F60.go
  (repeat (first | (refine Step.go ?_; intros) | refine iteB_t (by decide) ?_ | refine iteB_f (by decide) ?_ | (refine Duo.mk (by first | omega | exact rfl | decide) ?_; intros) | (refine Duo.mk (Clo.mk (by kernel_rfl)) ?_; intros)))
  rename_i r H1 S1
  refine F60.L0_step ?_
  unfold F60.L0n
  (repeat (first | (refine Step.go ?_; intros) | refine iteB_t (by decide) ?_ | refine iteB_f (by decide) ?_ | (refine Duo.mk (by first | omega | exact rfl | decide) ?_; intros) | (refine Duo.mk (Clo.mk (by kernel_rfl)) ?_; intros)))
  refine pq_ne hne (S1.at_ (r := nb) (o := nodO sr sr 0) (by simp)) (S1.at_ (r := sr) (o := senO) (by simp)) ?_
  refine iteB_t rfl ?_
  (repeat (first | (refine Step.go ?_; intros) | refine iteB_t (by decide) ?_ | refine iteB_f (by decide) ?_ | (refine Duo.mk (by first | omega | exact rfl | decide) ?_; intros) | (refine Duo.mk (Clo.mk (by kernel_rfl)) ?_; intros)))
  refine nilV_of ⟨_, _, rfl⟩ ?_
  (repeat (first | (refine Step.go ?_; intros) | refine iteB_t (by decide) ?_ | refine iteB_f (by decide) ?_ | (refine Duo.mk (by first | omega | exact rfl | decide) ?_; intros) | (refine Duo.mk (Clo.mk (by kernel_rfl)) ?_; intros)))
  refine cmp_i (o := 1) (x := (⟨#[97]⟩, 0)) (y := (⟨#[97]⟩, 0)) (i := .mk 83 (.string ⟨#[97]⟩)) (j := .mk 83 (.string ⟨#[97]⟩)) (IsE.aff (x := (⟨#[97]⟩, 0))) (IsE.aff (x := (⟨#[97]⟩, 0))) S1 ?_
  intro H2 E2 S2
  rw [cmp_self]
  (repeat (first | (refine Step.go ?_; intros) | refine iteB_t (by decide) ?_ | refine iteB_f (by decide) ?_ | (refine Duo.mk (by first | omega | exact rfl | decide) ?_; intros) | (refine Duo.mk (Clo.mk (by kernel_rfl)) ?_; intros)))
  refine nilV_of ⟨_, _, rfl⟩ ?_
  (repeat (first | (refine Step.go ?_; intros) | refine iteB_t (by decide) ?_ | refine iteB_f (by decide) ?_ | (refine Duo.mk (by first | omega | exact rfl | decide) ?_; intros) | (refine Duo.mk (Clo.mk (by kernel_rfl)) ?_; intros)))
  refine cmp_i (o := 1) (x := (⟨#[99]⟩, 0)) (y := (⟨#[99]⟩, 0)) (i := .mk 83 (.string ⟨#[99]⟩)) (j := .mk 83 (.string ⟨#[99]⟩)) (IsE.aff (x := (⟨#[99]⟩, 0))) (IsE.aff (x := (⟨#[99]⟩, 0))) S2 ?_
  intro H3 E3 S3
  rw [cmp_self]
  (repeat (first | (refine Step.go ?_; intros) | refine iteB_t (by decide) ?_ | refine iteB_f (by decide) ?_ | (refine Duo.mk (by first | omega | exact rfl | decide) ?_; intros) | (refine Duo.mk (Clo.mk (by kernel_rfl)) ?_; intros)))
  exact ⟨rfl, S3.to (.drop .refl)⟩
theorem findV_ok (S : Sat H (pt tr (treO nb 1 sr) :: pt nb (nodO sr sr 0) :: pt sr senO :: L)) : CallsH Try.prog 50 ⟨[pA tr, .agg ⟨[eA, eC]⟩]⟩ H (fun e H1 => e = .returned (pA nb) ∧ Sat H1 (pt tr (treO nb 1 sr) :: pt nb (nodO sr sr 0) :: pt sr senO :: L)) := by
  have hne := nb_ne S
  refine F50.calls (ivl_0 := .mk 83 (.string ⟨#[97]⟩)) (ivl_1 := .mk 83 (.string ⟨#[99]⟩)) ?_
  unfold F50.go
  (repeat (first | (refine Step.go ?_; intros) | refine iteB_t (by decide) ?_ | refine iteB_f (by decide) ?_ | (refine Duo.mk (by first | omega | exact rfl | decide) ?_; intros) | (refine Duo.mk (Clo.mk (by kernel_rfl)) ?_; intros)))
  rename_i r H1 S1
  have S1 : Sat H1 (pt r (.cells ⟨[eA, eC]⟩ 45) :: pt tr (treO nb 1 sr) :: pt nb (nodO sr sr 0) :: pt sr senO :: L) := S1
  refine callD_i (find_ok (L := pt r (.cells ⟨[eA, eC]⟩ 45) :: L) (S1.to (m := pt tr (treO nb 1 sr) :: pt nb (nodO sr sr 0) :: pt sr senO :: pt r (.cells ⟨[eA, eC]⟩ 45) :: L) Fits.out)) ?_
  rintro e H2 ⟨rfl, S2⟩
  (repeat (first | (refine Step.go ?_; intros) | refine iteB_t (by decide) ?_ | refine iteB_f (by decide) ?_ | (refine Duo.mk (by first | omega | exact rfl | decide) ?_; intros) | (refine Duo.mk (Clo.mk (by kernel_rfl)) ?_; intros)))
  refine pq_ne hne (S2.at_ (r := nb) (o := nodO sr sr 0) (by simp)) (S2.at_ (r := sr) (o := senO) (by simp)) ?_
  refine iteB_f rfl ?_
  (repeat (first | (refine Step.go ?_; intros) | refine iteB_t (by decide) ?_ | refine iteB_f (by decide) ?_ | (refine Duo.mk (by first | omega | exact rfl | decide) ?_; intros) | (refine Duo.mk (Clo.mk (by kernel_rfl)) ?_; intros)))
  exact ⟨rfl, S2.to Fits.out⟩
end
end Go.Proofs.Ytjdaencapbjmdaa
