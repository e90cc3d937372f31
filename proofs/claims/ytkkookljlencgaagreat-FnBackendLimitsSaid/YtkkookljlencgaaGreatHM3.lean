/- What functions of this seat do, each proved by a walk; no condition. -/
import Derived.Test.YtkkookljlencgaaGreatHM2
import Derived.Test.YtkkookljlencgaaGreatHC2
set_option linter.unusedVariables false
set_option linter.unusedSimpArgs false
set_option linter.unnecessarySimpa false
set_option maxRecDepth 100000
namespace Go.Proofs.YtkkookljlencgaaGreat
open Go Go.Den Go.Proofs
/-! What was written is handed over to the readers. -/
abbrev rtO (rm : Nat) (ver : Int) (mu tx : Option Addr) (rb : Nat) (wg : Option Addr) : Obj := .cells ⟨[.map (some rm), .int .u64 ver, .pointer mu, .pointer tx, .map (some rb), .pointer wg]⟩ 117
section
variable {H H0 : Heap} {l : List HP} {n : Int}
theorem dedupe1 {bb u c : Nat} {q : Option Addr} (hu : u ≤ 1) (S : Sat H (pt bb (bbO q c u) :: l)) : CallsH Tryz.prog 53 ⟨[.pointer (some ⟨bb, 0, none⟩)]⟩ H (Gives (.tuple ⟨[]⟩) H) := by
  refine F53.calls ?_
  unfold F53.go
  (repeat (first | (refine Step.go ?_; intros) | refine iteB_t (by decide) ?_ | refine iteB_f (by decide) ?_ | (refine Duo.mk (by first | omega | exact rfl | decide) ?_; intros) | (refine Duo.mk (Clo.mk (by kernel_rfl)) ?_; intros)))
  refine iteB_t (decide_eq_true (by omega)) ?_
  exact ⟨rfl, ExtH.refl H⟩
theorem wb0 {bt tx be pend m1 m2 rt rm rb : Nat} {z ver : Int} {mu rx wg : Option Addr} (S : Sat H (pt bt (btO tx be pend (some m1) (some m2) z) :: mpB m1 [] :: mpS m2 [] :: pt rt (rtO rm ver mu rx rb wg) :: l)) :
    CallsH Tryz.prog 45 ⟨[.pointer (some ⟨bt, 3, none⟩), .pointer (some ⟨rt, 0, none⟩)]⟩ H (fun e H1 => e = .returned (.tuple ⟨[]⟩) ∧ Sat H1 (pt bt (btO tx be pend (some m1) (some m2) z) :: mpB m1 [] :: mpS m2 [] :: pt rt (rtO rm (IntKind.wrap .u64 (ver + 1)) mu rx rb wg) :: l)) := by
  refine F45.calls ?_
  unfold F45.go
  refine nilD_i ?_
  (repeat (first | (refine Step.go ?_; intros) | refine iteB_t (by decide) ?_ | refine iteB_f (by decide) ?_ | (refine Duo.mk (by first | omega | exact rfl | decide) ?_; intros) | (refine Duo.mk (Clo.mk (by kernel_rfl)) ?_; intros)))
  refine rangeNone (fk := Value.int .i64) (fv := pv) um101 (S.to (m := mpB m1 [] :: pt bt (btO tx be pend (some m1) (some m2) z) :: mpS m2 [] :: pt rt (rtO rm ver mu rx rb wg) :: l) (by
    iterate 4 (apply Ent.pick; (focus (repeat (first | exact Sel.here | apply Sel.there))))
    exact .refl)) fun ir c H2 S2 => ?_
  clear S
  refine ⟨_, rfl, ?_⟩
  refine F45.L0_step ?_
  unfold F45.L0n
  refine nextNone S2 ?_
  (repeat (first | (refine Step.go ?_; intros) | refine iteB_t (by decide) ?_ | refine iteB_f (by decide) ?_ | (refine Duo.mk (by first | omega | exact rfl | decide) ?_; intros) | (refine Duo.mk (Clo.mk (by kernel_rfl)) ?_; intros)))
  refine call_of (wreset0 (S2.to (by
    iterate 3 (apply Ent.pick; (focus (repeat (first | exact Sel.here | apply Sel.there))))
    exact .refl))) ?_
  rintro e H3 ⟨rfl, S3⟩
  clear S2
  (repeat (first | (refine Step.go ?_; intros) | refine iteB_t (by decide) ?_ | refine iteB_f (by decide) ?_ | (refine Duo.mk (by first | omega | exact rfl | decide) ?_; intros) | (refine Duo.mk (Clo.mk (by kernel_rfl)) ?_; intros)))
  rename_i H4 S4
  clear S3
  refine ⟨rfl, S4.to ?_⟩
  iterate 4 (apply Ent.pick; (focus (repeat (first | exact Sel.here | apply Sel.there))))
  exact Ent.drop .refl
theorem wb1 {bt tx be pend m1 m2 rt rm rb bb u c : Nat} {q : Option Addr} {z ver : Int} {mu rx wg : Option Addr} {M2 : List (Int × Bool)} (hM : M2 = [] ∨ (M2 = [(n, false)] ∧ u ≤ 1)) (S : Sat H (pt bt (btO tx be pend (some m1) (some m2) z) :: mpB m1 [(n, bb)] :: mpS m2 M2 :: pt rt (rtO rm ver mu rx rb wg) :: mpB rm [] :: pt bb (bbO q c u) :: l)) :
    CallsH Tryz.prog 45 ⟨[.pointer (some ⟨bt, 3, none⟩), .pointer (some ⟨rt, 0, none⟩)]⟩ H (fun e H1 => e = .returned (.tuple ⟨[]⟩) ∧ Sat H1 (pt bt (btO tx be pend (some m1) (some m2) z) :: mpB m1 [] :: mpS m2 [] :: pt rt (rtO rm (IntKind.wrap .u64 (ver + 1)) mu rx rb wg) :: mpB rm [(n, bb)] :: pt bb (bbO q c u) :: l)) := by
  refine F45.calls ?_
  unfold F45.go
  refine nilD_i ?_
  (repeat (first | (refine Step.go ?_; intros) | refine iteB_t (by decide) ?_ | refine iteB_f (by decide) ?_ | (refine Duo.mk (by first | omega | exact rfl | decide) ?_; intros) | (refine Duo.mk (Clo.mk (by kernel_rfl)) ?_; intros)))
  refine rangeOne (fk := Value.int .i64) (fv := pv) um101 (S.to (m := mpB m1 [(n, bb)] :: pt bt (btO tx be pend (some m1) (some m2) z) :: mpS m2 M2 :: pt rt (rtO rm ver mu rx rb wg) :: mpB rm [] :: pt bb (bbO q c u) :: l) (by
    iterate 6 (apply Ent.pick; (focus (repeat (first | exact Sel.here | apply Sel.there))))
    exact .refl)) fun ir es clk H2 O S2 => ?_
  clear S
  refine ⟨_, rfl, ?_⟩
  refine F45.L0_step ?_
  unfold F45.L0n
  refine nextOne O S2 fun bn H3 hb S3 => ?_
  clear S2
  (repeat (first | (refine Step.go ?_; intros) | refine iteB_t (by decide) ?_ | refine iteB_f (by decide) ?_ | (refine Duo.mk (by first | omega | exact rfl | decide) ?_; intros) | (refine Duo.mk (Clo.mk (by kernel_rfl)) ?_; intros)))
  refine entryOne O hb S3 ?_
  have S4 : Sat H3 (mpB m1 [(n, bb)] :: pt ir (.mapIter (some m1) clk #[bn] clk) :: pt bt (btO tx be pend (some m1) (some m2) z) :: mpS m2 M2 :: pt rt (rtO rm ver mu rx rb wg) :: mpB rm [] :: pt bb (bbO q c u) :: l) := (S3.to ent_swp).to O.close
  clear S3
  (repeat (first | (refine Step.go ?_; intros) | refine iteB_t (by decide) ?_ | refine iteB_f (by decide) ?_ | (refine Duo.mk (by first | omega | exact rfl | decide) ?_; intros) | (refine Duo.mk (Clo.mk (by kernel_rfl)) ?_; intros)))
  refine Sat.lookup S4 (fk := Value.int .i64) (fv := pv) (r := rm) (m := []) (by simp) MI101 n (fun v hv => by cases hv) (fun _ => ?_)
  show tTup (.tuple ⟨[.pointer none, .bool false]⟩) _
  (repeat (first | (refine Step.go ?_; intros) | refine iteB_t (by decide) ?_ | refine iteB_f (by decide) ?_ | (refine Duo.mk (by first | omega | exact rfl | decide) ?_; intros) | (refine Duo.mk (Clo.mk (by kernel_rfl)) ?_; intros)))
  refine Sat.mpDel S4 MI101 n rfl fun H5 S5 => ?_
  clear S4
  have e1 : mdel [(n, bb)] n = [] := by simp [mdel]
  rw [e1] at S5
  (repeat (first | (refine Step.go ?_; intros) | refine iteB_t (by decide) ?_ | refine iteB_f (by decide) ?_ | (refine Duo.mk (by first | omega | exact rfl | decide) ?_; intros) | (refine Duo.mk (Clo.mk (by kernel_rfl)) ?_; intros)))
  have rest : ∀ H6, Sat H6 (mpB m1 [] :: pt ir (.mapIter (some m1) clk #[bn] clk) :: pt bt (btO tx be pend (some m1) (some m2) z) :: mpS m2 M2 :: pt rt (rtO rm ver mu rx rb wg) :: mpB rm [] :: pt bb (bbO q c u) :: l) → F45.L4 (some ⟨bt, 3, none⟩) (some ⟨rt, 0, none⟩) n (some ⟨bb, 0, none⟩) (some ⟨ir, 0, none⟩) H6 (fun e H1 => e = .returned (.tuple ⟨[]⟩) ∧ Sat H1 (pt bt (btO tx be pend (some m1) (some m2) z) :: mpB m1 [] :: mpS m2 [] :: pt rt (rtO rm (IntKind.wrap .u64 (ver + 1)) mu rx rb wg) :: mpB rm [(n, bb)] :: pt bb (bbO q c u) :: l)) := by
    intro H6 S6
    refine F45.L4_step ?_
    unfold F45.L4n
    refine nilD_i ?_
    refine Step.go ?_
    refine Sat.mpSet (fk := Value.int .i64) (fv := pv) (m := []) (r := rm) (S6.to (m := mpB rm [] :: mpB m1 [] :: pt ir (.mapIter (some m1) clk #[bn] clk) :: pt bt (btO tx be pend (some m1) (some m2) z) :: mpS m2 M2 :: pt rt (rtO rm ver mu rx rb wg) :: pt bb (bbO q c u) :: l) (by
      iterate 7 (apply Ent.pick; (focus (repeat (first | exact Sel.here | apply Sel.there))))
      exact .refl)) MI101 n bb fun H7 S7 => ?_
    clear S6
    have e2 : mset ([] : List (Int × Nat)) n bb = [(n, bb)] := rfl
    rw [e2] at S7
    refine F45.L0_step ?_
    unfold F45.L0n
    refine nextNone (fk := Value.int .i64) (fv := pv) (r := m1) (S7.to (m := pt ir (.mapIter (some m1) clk #[bn] clk) :: mpB m1 [] :: pt bt (btO tx be pend (some m1) (some m2) z) :: mpS m2 M2 :: pt rt (rtO rm ver mu rx rb wg) :: mpB rm [(n, bb)] :: pt bb (bbO q c u) :: l) (by
      iterate 7 (apply Ent.pick; (focus (repeat (first | exact Sel.here | apply Sel.there))))
      exact .refl)) ?_
    (repeat (first | (refine Step.go ?_; intros) | refine iteB_t (by decide) ?_ | refine iteB_f (by decide) ?_ | (refine Duo.mk (by first | omega | exact rfl | decide) ?_; intros) | (refine Duo.mk (Clo.mk (by kernel_rfl)) ?_; intros)))
    have wr : CallsH Tryz.prog 56 ⟨[.pointer (some ⟨bt, 3, none⟩)]⟩ H7 (fun e H1 => e = .returned (.tuple ⟨[]⟩) ∧ Sat H1 (pt bt (btO tx be pend (some m1) (some m2) z) :: mpB m1 [] :: mpS m2 [] :: pt rt (rtO rm ver mu rx rb wg) :: mpB rm [(n, bb)] :: pt bb (bbO q c u) :: l)) := by
      rcases hM with rfl | ⟨rfl, _⟩
      · refine wreset0 (S7.to ?_)
        iterate 6 (apply Ent.pick; (focus (repeat (first | exact Sel.here | apply Sel.there))))
        exact Ent.drop .refl
      · refine wreset2 (n := n) (S7.to ?_)
        iterate 6 (apply Ent.pick; (focus (repeat (first | exact Sel.here | apply Sel.there))))
        exact Ent.drop .refl
    refine call_of wr ?_
    rintro e H8 ⟨rfl, S8⟩
    clear S7
    (repeat (first | (refine Step.go ?_; intros) | refine iteB_t (by decide) ?_ | refine iteB_f (by decide) ?_ | (refine Duo.mk (by first | omega | exact rfl | decide) ?_; intros) | (refine Duo.mk (Clo.mk (by kernel_rfl)) ?_; intros)))
    rename_i H9 S9
    exact ⟨rfl, S9⟩
  rcases hM with hM | ⟨hM, hu⟩
  · subst hM
    refine Sat.lookup S5 (fk := Value.int .i64) (fv := Value.bool) (r := m2) (m := []) (by simp) MI134 n (fun v hv => by cases hv) (fun _ => ?_)
    show tTup (.tuple ⟨[.bool false, .bool false]⟩) _
    (repeat (first | (refine Step.go ?_; intros) | refine iteB_t (by decide) ?_ | refine iteB_f (by decide) ?_ | (refine Duo.mk (by first | omega | exact rfl | decide) ?_; intros) | (refine Duo.mk (Clo.mk (by kernel_rfl)) ?_; intros)))
    exact rest _ S5
  · subst hM
    refine Sat.lookup S5 (fk := Value.int .i64) (fv := Value.bool) (r := m2) (m := [(n, false)]) (by simp) MI134 n (fun v hv => ?_) (fun h => by simp [mget] at h)
    have hv : v = false := by simpa [mget] using hv.symm
    subst hv
    show tTup (.tuple ⟨[.bool false, .bool true]⟩) _
    (repeat (first | (refine Step.go ?_; intros) | refine iteB_t (by decide) ?_ | refine iteB_f (by decide) ?_ | (refine Duo.mk (by first | omega | exact rfl | decide) ?_; intros) | (refine Duo.mk (Clo.mk (by kernel_rfl)) ?_; intros)))
    refine F45.L3_step ?_
    unfold F45.L3n
    refine gives_i S5 (dedupe1 (q := q) (c := c) hu (S5.to (m := [pt bb (bbO q c u)]) (by
      iterate 1 (apply Ent.pick; (focus (repeat (first | exact Sel.here | apply Sel.there))))
      exact Ent.nil))) fun H6 E6 S6 => ?_
    (repeat (first | (refine Step.go ?_; intros) | refine iteB_t (by decide) ?_ | refine iteB_f (by decide) ?_ | (refine Duo.mk (by first | omega | exact rfl | decide) ?_; intros) | (refine Duo.mk (Clo.mk (by kernel_rfl)) ?_; intros)))
    exact rest _ S6
end
end Go.Proofs.YtkkookljlencgaaGreat

set_option linter.unusedVariables false
set_option linter.unusedSimpArgs false
set_option linter.unnecessarySimpa false
set_option maxRecDepth 100000
namespace Go.Proofs.YtkkookljlencgaaGreat
open Go Go.Den Go.Proofs
/-! What was written is put into the readers' buffer, which was empty. -/
section
variable {H H0 : Heap} {l : List HP} {n : Int}
theorem wb2 {bt tx be pend m1 m2 rt rm rb bb u c ab d : Nat} {q p : Option Addr} {X Y : List KR} {z ver : Int} {mu rx wg : Option Addr} (hu : u ≤ 500) (hu0 : u ≠ 0) (S : Sat H (pt bt (btO tx be pend (some m1) (some m2) z) :: mpB m1 [(n, bb)] :: mpS m2 [] :: pt rt (rtO rm ver mu rx rb wg) :: mpB rm [(n, ab)] :: pt ab (bbO p d 0) :: bufS p d X :: pt bb (bbO q c u) :: bufS q c Y :: l)) :
    CallsH Tryz.prog 45 ⟨[.pointer (some ⟨bt, 3, none⟩), .pointer (some ⟨rt, 0, none⟩)]⟩ H (fun e H1 => e = .returned (.tuple ⟨[]⟩) ∧ Sat H1 (pt bt (btO tx be pend (some m1) (some m2) z) :: mpB m1 [(n, bb)] :: mpS m2 [] :: pt rt (rtO rm (IntKind.wrap .u64 (ver + 1)) mu rx rb wg) :: mpB rm [(n, ab)] :: pt ab (bbO p d u) :: bufS p d (Y.take u ++ X.drop u) :: pt bb (bbO q c 0) :: bufS q c Y :: l)) := by
  refine F45.calls ?_
  unfold F45.go
  refine nilD_i ?_
  (repeat (first | (refine Step.go ?_; intros) | refine iteB_t (by decide) ?_ | refine iteB_f (by decide) ?_ | (refine Duo.mk (by first | omega | exact rfl | decide) ?_; intros) | (refine Duo.mk (Clo.mk (by kernel_rfl)) ?_; intros)))
  refine rangeOne (fk := Value.int .i64) (fv := pv) um101 (S.to (m := mpB m1 [(n, bb)] :: pt bt (btO tx be pend (some m1) (some m2) z) :: mpS m2 [] :: pt rt (rtO rm ver mu rx rb wg) :: mpB rm [(n, ab)] :: pt ab (bbO p d 0) :: bufS p d X :: pt bb (bbO q c u) :: bufS q c Y :: l) (by
    iterate 9 (apply Ent.pick; (focus (repeat (first | exact Sel.here | apply Sel.there))))
    exact .refl)) fun ir es clk H2 O S2 => ?_
  clear S
  refine ⟨_, rfl, ?_⟩
  refine F45.L0_step ?_
  unfold F45.L0n
  refine nextOne O S2 fun bn H3 hb S3 => ?_
  clear S2
  (repeat (first | (refine Step.go ?_; intros) | refine iteB_t (by decide) ?_ | refine iteB_f (by decide) ?_ | (refine Duo.mk (by first | omega | exact rfl | decide) ?_; intros) | (refine Duo.mk (Clo.mk (by kernel_rfl)) ?_; intros)))
  refine entryOne O hb S3 ?_
  (repeat (first | (refine Step.go ?_; intros) | refine iteB_t (by decide) ?_ | refine iteB_f (by decide) ?_ | (refine Duo.mk (by first | omega | exact rfl | decide) ?_; intros) | (refine Duo.mk (Clo.mk (by kernel_rfl)) ?_; intros)))
  refine Sat.lookup S3 (fk := Value.int .i64) (fv := pv) (r := rm) (m := [(n, ab)]) (by simp) MI101 n (fun v hv => ?_) (fun h => by simp [mget] at h)
  have hv : v = ab := by simpa [mget] using hv.symm
  subst hv
  show tTup (.tuple ⟨[pv v, .bool true]⟩) _
  (repeat (first | (refine Step.go ?_; intros) | refine iteB_t (by decide) ?_ | refine iteB_f (by decide) ?_ | (refine Duo.mk (by first | omega | exact rfl | decide) ?_; intros) | (refine Duo.mk (Clo.mk (by kernel_rfl)) ?_; intros)))
  refine Sat.lookup S3 (fk := Value.int .i64) (fv := Value.bool) (r := m2) (m := []) (by simp) MI134 n (fun v hv => by cases hv) (fun _ => ?_)
  show tTup (.tuple ⟨[.bool false, .bool false]⟩) _
  (repeat (first | (refine Step.go ?_; intros) | refine iteB_t (by decide) ?_ | refine iteB_f (by decide) ?_ | (refine Duo.mk (by first | omega | exact rfl | decide) ?_; intros) | (refine Duo.mk (Clo.mk (by kernel_rfl)) ?_; intros)))
  refine F45.L2_step ?_
  unfold F45.L2n
  refine call_of (merge_ok (Y := Y) (X := X) hu (S3.to (m := pt v (bbO p d 0) :: bufS p d X :: pt bb (bbO q c u) :: bufS q c Y :: pt ir (.mapIter (some m1) clk #[bn] clk) :: pt m1 (.map es clk) :: pt bt (btO tx be pend (some m1) (some m2) z) :: mpS m2 [] :: pt rt (rtO rm ver mu rx rb wg) :: mpB rm [(n, v)] :: l) (by
    iterate 10 (apply Ent.pick; (focus (repeat (first | exact Sel.here | apply Sel.there))))
    exact .refl))) ?_
  rintro e H4 ⟨rfl, S4⟩
  clear S3
  (repeat (first | (refine Step.go ?_; intros) | refine iteB_t (by decide) ?_ | refine iteB_f (by decide) ?_ | (refine Duo.mk (by first | omega | exact rfl | decide) ?_; intros) | (refine Duo.mk (Clo.mk (by kernel_rfl)) ?_; intros)))
  refine F45.L0_step ?_
  unfold F45.L0n
  have S5 := S4.to (m := pt ir (.mapIter (some m1) clk #[bn] clk) :: pt m1 (.map es clk) :: pt v (bbO p d u) :: bufS p d (Y.take u ++ X.drop u) :: pt bb (bbO q c u) :: bufS q c Y :: pt bt (btO tx be pend (some m1) (some m2) z) :: mpS m2 [] :: pt rt (rtO rm ver mu rx rb wg) :: mpB rm [(n, v)] :: l) (by
    iterate 10 (apply Ent.pick; (focus (repeat (first | exact Sel.here | apply Sel.there))))
    exact .refl)
  clear S4
  refine nextLast O hb S5 ?_
  (repeat (first | (refine Step.go ?_; intros) | refine iteB_t (by decide) ?_ | refine iteB_f (by decide) ?_ | (refine Duo.mk (by first | omega | exact rfl | decide) ?_; intros) | (refine Duo.mk (Clo.mk (by kernel_rfl)) ?_; intros)))
  refine call_of (wreset1 (n := n) (bb := bb) (u := u) (q := q) (c := c) hu0 (((S5.to (Ent.drop .refl)).to O.close).to (m := pt bt (btO tx be pend (some m1) (some m2) z) :: mpB m1 [(n, bb)] :: mpS m2 [] :: pt bb (bbO q c u) :: pt v (bbO p d u) :: bufS p d (Y.take u ++ X.drop u) :: bufS q c Y :: pt rt (rtO rm ver mu rx rb wg) :: mpB rm [(n, v)] :: l) (by
    iterate 9 (apply Ent.pick; (focus (repeat (first | exact Sel.here | apply Sel.there))))
    exact .refl))) ?_
  rintro e H6 ⟨rfl, S6⟩
  clear S5
  (repeat (first | (refine Step.go ?_; intros) | refine iteB_t (by decide) ?_ | refine iteB_f (by decide) ?_ | (refine Duo.mk (by first | omega | exact rfl | decide) ?_; intros) | (refine Duo.mk (Clo.mk (by kernel_rfl)) ?_; intros)))
  rename_i H7 S7
  clear S6
  refine ⟨rfl, S7.to ?_⟩
  iterate 9 (apply Ent.pick; (focus (repeat (first | exact Sel.here | apply Sel.there))))
  exact .refl
end
end Go.Proofs.YtkkookljlencgaaGreat

set_option linter.unusedVariables false
set_option linter.unusedSimpArgs false
set_option linter.unnecessarySimpa false
set_option maxRecDepth 100000
namespace Go.Proofs.YtkkookljlencgaaGreat
open Go Go.Den Go.Proofs
/-! The batch transaction is given back. -/
section
variable {H H0 : Heap} {l l' : List HP} {n : Int}
theorem tunlock_ok {bt tx be pend db lim rt : Nat} {m1 m2 : Option Nat} {z cm : Int} {bp : Option Addr} (hp : pend < lim) (S : Sat H (pt bt (btO tx be pend m1 m2 z) :: pt be (beO cm db lim bp rt) :: l)) :
    CallsH Tryz.prog 46 ⟨[.pointer (some ⟨bt, 0, none⟩)]⟩ H (Gives (.tuple ⟨[]⟩) H) := by
  refine F46.calls ?_
  unfold F46.go
  (repeat (first | (refine Step.go ?_; intros) | refine iteB_t (by decide) ?_ | refine iteB_f (by decide) ?_ | (refine Duo.mk (by first | omega | exact rfl | decide) ?_; intros) | (refine Duo.mk (Clo.mk (by kernel_rfl)) ?_; intros)))
  refine iteB_f (decide_eq_false (by omega)) ?_
  refine nilD_i (zf_i (by kernel_rfl) (S.at_ (List.mem_cons_self ..)) fun a => ?_)
  refine g_i lk57 fun H1 E => ?_
  exact ⟨_, rfl, rfl, rfl, E⟩
theorem unlock0 {bt tx be db lim rt : Nat} {m1 m2 : Option Nat} {z cm : Int} {bp : Option Addr} (hp : 0 < lim) (S : Sat H (pt bt (btO tx be 0 m1 m2 z) :: pt be (beO cm db lim bp rt) :: l)) :
    CallsH Tryz.prog 40 ⟨[.pointer (some ⟨bt, 0, none⟩)]⟩ H (Gives (.tuple ⟨[]⟩) H) := by
  refine F40.calls ?_
  unfold F40.go
  (repeat (first | (refine Step.go ?_; intros) | refine iteB_t (by decide) ?_ | refine iteB_f (by decide) ?_ | (refine Duo.mk (by first | omega | exact rfl | decide) ?_; intros) | (refine Duo.mk (Clo.mk (by kernel_rfl)) ?_; intros)))
  refine g_i (tunlock_ok hp S) fun H1 E => ?_
  exact ⟨_, rfl, rfl, rfl, E⟩
theorem unlock1 {bt tx be pend db lim rt rm rb : Nat} {m1 m2 : Option Nat} {cm ver ver' : Int} {bp mu rx wg : Option Addr} (hp0 : pend ≠ 0) (hp : pend < lim) (hb : pend ≤ 1000000)
    (S : Sat H (pt bt (btO tx be pend m1 m2 0) :: pt be (beO cm db lim bp rt) :: pt rt (rtO rm ver mu rx rb wg) :: l))
    (h45 : ∀ H1, Sat H1 (pt bt (btO tx be pend m1 m2 0) :: pt be (beO cm db lim bp rt) :: pt rt (rtO rm ver mu rx rb wg) :: l) → CallsH Tryz.prog 45 ⟨[.pointer (some ⟨bt, 3, none⟩), .pointer (some ⟨rt, 0, none⟩)]⟩ H1 (fun e H2 => e = .returned (.tuple ⟨[]⟩) ∧ Sat H2 (pt bt (btO tx be pend m1 m2 0) :: pt be (beO cm db lim bp rt) :: pt rt (rtO rm ver' mu rx rb wg) :: l'))) :
    CallsH Tryz.prog 40 ⟨[.pointer (some ⟨bt, 0, none⟩)]⟩ H (fun e H1 => e = .returned (.tuple ⟨[]⟩) ∧ Sat H1 (pt bt (btO tx be pend m1 m2 0) :: pt be (beO cm db lim bp rt) :: pt rt (rtO rm ver' mu rx rb wg) :: l')) := by
  refine F40.calls ?_
  unfold F40.go
  (repeat (first | (refine Step.go ?_; intros) | refine iteB_t (by decide) ?_ | refine iteB_f (by decide) ?_ | (refine Duo.mk (by first | omega | exact rfl | decide) ?_; intros) | (refine Duo.mk (Clo.mk (by kernel_rfl)) ?_; intros)))
  refine iteB_t (by simp; omega) ?_
  (repeat (first | (refine Step.go ?_; intros) | refine iteB_t (by decide) ?_ | refine iteB_f (by decide) ?_ | (refine Duo.mk (by first | omega | exact rfl | decide) ?_; intros) | (refine Duo.mk (Clo.mk (by kernel_rfl)) ?_; intros)))
  refine gives_i S (lk42 (S.obj (r := rt) (o := rtO rm ver mu rx rb wg))) fun H1 E1 S1 => ?_
  clear S
  (repeat (first | (refine Step.go ?_; intros) | refine iteB_t (by decide) ?_ | refine iteB_f (by decide) ?_ | (refine Duo.mk (by first | omega | exact rfl | decide) ?_; intros) | (refine Duo.mk (Clo.mk (by kernel_rfl)) ?_; intros)))
  refine call_of (h45 H1 S1) ?_
  rintro e H2 ⟨rfl, S2⟩
  clear S1
  (repeat (first | (refine Step.go ?_; intros) | refine iteB_t (by decide) ?_ | refine iteB_f (by decide) ?_ | (refine Duo.mk (by first | omega | exact rfl | decide) ?_; intros) | (refine Duo.mk (Clo.mk (by kernel_rfl)) ?_; intros)))
  refine gives_i S2 (lk44 (S2.obj (r := rt) (o := rtO rm ver' mu rx rb wg))) fun H3 E3 S3 => ?_
  clear S2
  (repeat (first | (refine Step.go ?_; intros) | refine iteB_t (by decide) ?_ | refine iteB_f (by decide) ?_ | (refine Duo.mk (by first | omega | exact rfl | decide) ?_; intros) | (refine Duo.mk (Clo.mk (by kernel_rfl)) ?_; intros)))
  refine iteB_f (decide_eq_false (by omega)) ?_
  (repeat (first | (refine Step.go ?_; intros) | refine iteB_t (by decide) ?_ | refine iteB_f (by decide) ?_ | (refine Duo.mk (by first | omega | exact rfl | decide) ?_; intros) | (refine Duo.mk (Clo.mk (by kernel_rfl)) ?_; intros)))
  refine gives_i S3 (tunlock_ok hp S3) fun H4 E4 S4 => ?_
  (repeat (first | (refine Step.go ?_; intros) | refine iteB_t (by decide) ?_ | refine iteB_f (by decide) ?_ | (refine Duo.mk (by first | omega | exact rfl | decide) ?_; intros) | (refine Duo.mk (Clo.mk (by kernel_rfl)) ?_; intros)))
  exact ⟨rfl, S4⟩
end
end Go.Proofs.YtkkookljlencgaaGreat

set_option linter.unusedVariables false
set_option linter.unusedSimpArgs false
set_option linter.unnecessarySimpa false
set_option maxRecDepth 100000
namespace Go.Proofs.YtkkookljlencgaaGreat
open Go Go.Den Go.Proofs
/-! The batch transaction is committed, and a new one begins. -/
abbrev btO' (tx : Option Addr) (be : Nat) (pend : Nat) (m1 m2 : Option Nat) (z : Int) : Obj := .cells ⟨[.pointer tx, .pointer (some ⟨be, 0, none⟩), .int .i64 (pend : Int), .map m1, .map m2, .int .i64 z]⟩ 138
section
variable {H H0 : Heap} {l l' : List HP} {n : Int} {g : PH}
theorem commitL1 {bt be pend db lim rt c : Nat} {tx : Option Addr} {m1 m2 : Option Nat} {z cm : Int} {bp q : Option Addr} {D : List DtI} {R : Ending → Heap → Prop} (hR : RowsG DtI.cells 2 g q D) (hl : D.length ≤ 1000)
    (S : Sat H (pt bt (btO' tx be pend m1 m2 z) :: pt be (beO cm db lim bp rt) :: pt db (dbO q D.length c) :: has g :: l))
    (k : ∀ (x : TxN D) H1, Sat H1 (pt bt (btO x.tx be pend m1 m2 z) :: pt be (beO cm db lim bp rt) :: txM x.tx db true false x.B x.p x.c g (pt db (dbO q D.length c) :: l)) → R (.returned (.tuple ⟨[]⟩)) H1) :
    F50.L1 (some ⟨bt, 0, none⟩) false H R := by
  refine F50.L1_step ?_
  unfold F50.L1n
  (repeat (first | (refine Step.go ?_; intros) | refine iteB_t (by decide) ?_ | refine iteB_f (by decide) ?_ | (refine Duo.mk (by first | omega | exact rfl | decide) ?_; intros) | (refine Duo.mk (Clo.mk (by kernel_rfl)) ?_; intros)))
  refine grow_i (ι := TxN D) (v := fun x => .pointer (some ⟨x.tx, 0, none⟩)) (m := fun x => x.m db true) S (txBegin_ok (wr := true) (S.obj (r := be) (o := beO cm db lim bp rt)) (S.obj (r := db) (o := dbO q D.length c)) (hR H (subOf S (by simp))) hl) fun x H1 E1 S1 => ?_
  clear S
  have hx : x.B.length = D.length := by have := congrArg List.length x.eq; rwa [List.length_map] at this
  have S2 : Sat H1 (pt x.tx (txO db true false x.p D.length x.c) :: sl ptrC 176 1 x.p D.length x.c (x.B.map BkI.b) :: bkts x.tx x.B :: pt bt (btO' tx be pend m1 m2 z) :: pt be (beO cm db lim bp rt) :: pt db (dbO q D.length c) :: has g :: l) := S1
  clear S1
  (repeat (first | (refine Step.go ?_; intros) | refine iteB_t (by decide) ?_ | refine iteB_f (by decide) ?_ | (refine Duo.mk (by first | omega | exact rfl | decide) ?_; intros) | (refine Duo.mk (Clo.mk (by kernel_rfl)) ?_; intros)))
  rename_i H2 S3
  clear S2
  refine k x H2 ?_
  unfold txM
  rw [hx]
  refine S3.to ?_
  iterate 7 (apply Ent.pick; (focus (repeat (first | exact Sel.here | apply Sel.there))))
  exact .refl
theorem tcommit0 {bt tx be : Nat} {m1 m2 : Option Nat} {z : Int} (S : Sat H (pt bt (btO tx be 0 m1 m2 z) :: l)) :
    CallsH Tryz.prog 50 ⟨[.pointer (some ⟨bt, 0, none⟩), .bool false]⟩ H (Gives (.tuple ⟨[]⟩) H) := by
  refine F50.calls ?_
  unfold F50.go
  (repeat (first | (refine Step.go ?_; intros) | refine iteB_t (by decide) ?_ | refine iteB_f (by decide) ?_ | (refine Duo.mk (by first | omega | exact rfl | decide) ?_; intros) | (refine Duo.mk (Clo.mk (by kernel_rfl)) ?_; intros)))
  refine iteB_t rfl ?_
  (repeat (first | (refine Step.go ?_; intros) | refine iteB_t (by decide) ?_ | refine iteB_f (by decide) ?_ | (refine Duo.mk (by first | omega | exact rfl | decide) ?_; intros) | (refine Duo.mk (Clo.mk (by kernel_rfl)) ?_; intros)))
  exact ⟨rfl, ExtH.refl H⟩
theorem tcommit1 {bt tx be pend db lim rt c n0 c0 : Nat} {m1 m2 : Option Nat} {z cm : Int} {bp p p0 : Option Addr} {B : List BkI} (hp : pend ≠ 0) (hb : pend ≤ 1000000) (hl : B.length ≤ 1000)
    (S : Sat H (pt bt (btO tx be pend m1 m2 z) :: pt be (beO cm db lim bp rt) :: txM tx db true false B p c g (pt db (dbO p0 n0 c0) :: l))) :
    CallsH Tryz.prog 50 ⟨[.pointer (some ⟨bt, 0, none⟩), .bool false]⟩ H (fun e H1 => e = .returned (.tuple ⟨[]⟩) ∧ ∃ (x : TxN (B.map BkI.dt)) (g' : PH) (q' : Option Addr) (c' : Nat) (cm' : Int), PH.sub g g' ∧ RowsG DtI.cells 2 g' q' (B.map BkI.dt) ∧
      Sat H1 (pt bt (btO x.tx be 0 m1 m2 z) :: pt be (beO cm' db lim bp rt) :: txM x.tx db true false x.B x.p x.c g' (pt db (dbO q' B.length c') :: l))) := by
  refine F50.calls ?_
  unfold F50.go
  (repeat (first | (refine Step.go ?_; intros) | refine iteB_t (by decide) ?_ | refine iteB_f (by decide) ?_ | (refine Duo.mk (by first | omega | exact rfl | decide) ?_; intros) | (refine Duo.mk (Clo.mk (by kernel_rfl)) ?_; intros)))
  refine iteB_t rfl ?_
  (repeat (first | (refine Step.go ?_; intros) | refine iteB_t (by decide) ?_ | refine iteB_f (by decide) ?_ | (refine Duo.mk (by first | omega | exact rfl | decide) ?_; intros) | (refine Duo.mk (Clo.mk (by kernel_rfl)) ?_; intros)))
  refine iteB_f (by simp; omega) ?_
  refine F50.L0_step ?_
  unfold F50.L0n
  (repeat (first | (refine Step.go ?_; intros) | refine iteB_t (by decide) ?_ | refine iteB_f (by decide) ?_ | (refine Duo.mk (by first | omega | exact rfl | decide) ?_; intros) | (refine Duo.mk (Clo.mk (by kernel_rfl)) ?_; intros)))
  refine call_of (commitT_ok hl (S.to (m := txM tx db true false B p c g (pt db (dbO p0 n0 c0) :: pt bt (btO tx be pend m1 m2 z) :: pt be (beO cm db lim bp rt) :: l)) (by
    iterate 7 (apply Ent.pick; (focus (repeat (first | exact Sel.here | apply Sel.there))))
    exact .refl))) ?_
  rintro e H1 ⟨rfl, g', q', c', s1, hR, S1⟩
  clear S
  (repeat (first | (refine Step.go ?_; intros) | refine iteB_t (by decide) ?_ | refine iteB_f (by decide) ?_ | (refine Duo.mk (by first | omega | exact rfl | decide) ?_; intros) | (refine Duo.mk (Clo.mk (by kernel_rfl)) ?_; intros)))
  rename_i H2 S2 H3 S3
  clear S1 S2
  have hn : (B.map BkI.dt).length = B.length := List.length_map ..
  refine commitL1 (D := B.map BkI.dt) (q := q') (c := c') (g := g') hR (by rw [hn]; exact hl) (tx := some ⟨tx, 0, none⟩) (pend := 0) (cm := IntKind.wrap .i64 (cm + 1)) (S3.to (m := pt bt (btO tx be 0 m1 m2 z) :: pt be (beO (IntKind.wrap .i64 (cm + 1)) db lim bp rt) :: pt db (dbO q' (B.map BkI.dt).length c') :: has g' :: l) ?_) ?_
  · rw [hn]
    iterate 4 (apply Ent.pick; (focus (repeat (first | exact Sel.here | apply Sel.there))))
    iterate 3 (apply Ent.drop)
    exact .refl
  · intro x H4 S4
    rw [hn] at S4
    exact ⟨rfl, x, g', q', c', _, s1, hR, S4⟩
end
end Go.Proofs.YtkkookljlencgaaGreat

set_option linter.unusedVariables false
set_option linter.unusedSimpArgs false
set_option linter.unnecessarySimpa false
set_option maxRecDepth 100000
namespace Go.Proofs.YtkkookljlencgaaGreat
open Go Go.Den Go.Proofs
/-! What is pending is committed; the readers begin anew. -/
def Buf.z (b : Buf) : Buf := ⟨b.bb, b.q, b.c, 0, b.Y⟩
abbrev mpK (r : Nat) (M : List (Int × Nat)) : HP := mp (Value.int .i64) pv r M
section
variable {H H0 : Heap} {l l' : List HP} {n : Int} {g : PH}
theorem rollback_ok {rx db n c : Nat} {wr dn : Bool} {p : Option Addr} (S : Sat H (pt rx (txO db wr dn p n c) :: l)) : CallsH Tryz.prog 48 ⟨[.pointer (some ⟨rx, 0, none⟩)]⟩ H (fun e H1 => e = .returned .nilIface ∧ Sat H1 (pt rx (txO db wr true p n c) :: l)) := by
  refine F48.calls ?_
  unfold F48.go
  (repeat (first | (refine Step.go ?_; intros) | refine iteB_t (by decide) ?_ | refine iteB_f (by decide) ?_ | (refine Duo.mk (by first | omega | exact rfl | decide) ?_; intros) | (refine Duo.mk (Clo.mk (by kernel_rfl)) ?_; intros)))
  rename_i H1 S1
  exact ⟨rfl, S1⟩
theorem rreset_ok {rt rm rb : Nat} {ver : Int} {mu tx wg : Option Addr} {o : Option Buf} (ho : ∀ b, o = some b → b.u ≠ 0) (S : Sat H (pt rt (rtO rm ver mu tx rb wg) :: mpB rm (bufM n o) :: bufP o :: l)) :
    CallsH Tryz.prog 49 ⟨[.pointer (some ⟨rt, 0, none⟩)]⟩ H (fun e H1 => e = .returned (.tuple ⟨[]⟩) ∧ ∃ (rb' : Nat) (wg' : Option Addr), Sat H1 (pt rt (rtO rm ver mu none rb' wg') :: mpB rm (bufM n o) :: bufP (o.map Buf.z) :: mpK rb' [] :: l)) := by
  refine F49.calls ?_
  unfold F49.go
  refine nilD_i ?_
  have h58 : CallsH Tryz.prog 58 ⟨[.pointer (some ⟨rt, 0, none⟩)]⟩ H (fun e H1 => e = .returned (.tuple ⟨[]⟩) ∧ Sat H1 (pt rt (rtO rm ver mu tx rb wg) :: mpB rm (bufM n o) :: bufP (o.map Buf.z) :: l)) := by
    cases o with
    | none => exact reset0 (off := 0) rfl S
    | some b =>
      have S1 : Sat H (pt rt (rtO rm ver mu tx rb wg) :: mpB rm [(n, b.bb)] :: pt b.bb (bbO b.q b.c b.u) :: bufS b.q b.c b.Y :: l) := by
        refine (S.to (m := bufP (some b) :: pt rt (rtO rm ver mu tx rb wg) :: mpB rm [(n, b.bb)] :: l) ?_).to (Ent.trans bufP_out ?_)
        · iterate 3 (apply Ent.pick; (focus (repeat (first | exact Sel.here | apply Sel.there))))
          exact .refl
        · iterate 4 (apply Ent.pick; (focus (repeat (first | exact Sel.here | apply Sel.there))))
          exact .refl
      refine CallsH.mono (reset1 (off := 0) (n := n) (ho b rfl) rfl S1) ?_
      rintro e H1 ⟨rfl, S2⟩
      refine ⟨rfl, ?_⟩
      have S3 : Sat H1 (bufP (some b.z) :: pt rt (rtO rm ver mu tx rb wg) :: mpB rm [(n, b.bb)] :: l) := by
        refine (S2.to (m := pt b.bb (bbO b.q b.c 0) :: bufS b.q b.c b.Y :: pt rt (rtO rm ver mu tx rb wg) :: mpB rm [(n, b.bb)] :: l) ?_).to (bufP_in (b := b.z))
        iterate 4 (apply Ent.pick; (focus (repeat (first | exact Sel.here | apply Sel.there))))
        exact .refl
      refine S3.to ?_
      show Ent _ (pt rt (rtO rm ver mu tx rb wg) :: mpB rm [(n, b.bb)] :: bufP (some b.z) :: l)
      iterate 3 (apply Ent.pick; (focus (repeat (first | exact Sel.here | apply Sel.there))))
      exact .refl
  refine call_of h58 ?_
  rintro e H1 ⟨rfl, S1⟩
  clear S
  refine ⟨_, rfl, rfl, ?_⟩
  refine newX S1 fun rb' H2 E2 S2 => ?_
  clear S1
  have S3 := S2.mpNew (Value.int .i64) pv
  clear S2
  (repeat (first | (refine Step.go ?_; intros) | refine iteB_t (by decide) ?_ | refine iteB_f (by decide) ?_ | (refine Duo.mk (by first | omega | exact rfl | decide) ?_; intros) | (refine Duo.mk (Clo.mk (by kernel_rfl)) ?_; intros)))
  rename_i wgB Hx Sx HD SD
  refine ⟨rfl, rb', some ⟨wgB, 0, none⟩, SD.to ?_⟩
  iterate 4 (apply Ent.pick; (focus (repeat (first | exact Sel.here | apply Sel.there))))
  exact Ent.drop .refl
theorem ucommitL1 {bt be db lim rt rm rb : Nat} {m1 m2 : Option Nat} {z ver : Int} {bp mu wg rx0 : Option Addr} {D : List DtI} {R : Ending → Heap → Prop} (hl : D.length ≤ 1000)
    (h50 : CallsH Tryz.prog 50 ⟨[.pointer (some ⟨bt, 0, none⟩), .bool false]⟩ H (fun e H1 => e = .returned (.tuple ⟨[]⟩) ∧ ∃ (x : TxN D) (g' : PH) (q' : Option Addr) (c' : Nat) (cm' : Int), PH.sub g g' ∧ RowsG DtI.cells 2 g' q' D ∧ Sat H1 (pt bt (btO x.tx be 0 m1 m2 z) :: pt be (beO cm' db lim bp rt) :: txM x.tx db true false x.B x.p x.c g' (pt db (dbO q' D.length c') :: pt rt (rtO rm ver mu rx0 rb wg) :: l))))
    (k : ∀ (x y : TxN D) (g' : PH) (q' : Option Addr) (c' : Nat) (cm' : Int) (H1 : Heap), PH.sub g g' → RowsG DtI.cells 2 g' q' D → Sat H1 (pt bt (btO x.tx be 0 m1 m2 0) :: pt be (beO cm' db lim bp rt) :: txM x.tx db true false x.B x.p x.c g' (pt y.tx (txO db false false y.p D.length y.c) :: sl ptrC 176 1 y.p D.length y.c (y.B.map BkI.b) :: bkts y.tx y.B :: pt db (dbO q' D.length c') :: pt rt (rtO rm ver mu (some ⟨y.tx, 0, none⟩) rb wg) :: l)) → R (.returned (.tuple ⟨[]⟩)) H1) :
    F43.L1 (some ⟨bt, 0, none⟩) false H R := by
  refine F43.L1_step ?_
  unfold F43.L1n
  refine nilD_i ?_
  refine call_of h50 ?_
  rintro e H1 ⟨rfl, x, g', q', c', cm', s1, hR, S1⟩
  (repeat (first | (refine Step.go ?_; intros) | refine iteB_t (by decide) ?_ | refine iteB_f (by decide) ?_ | (refine Duo.mk (by first | omega | exact rfl | decide) ?_; intros) | (refine Duo.mk (Clo.mk (by kernel_rfl)) ?_; intros)))
  rename_i H2 S2
  clear S1
  refine grow_i (ι := TxN D) (v := fun x => .pointer (some ⟨x.tx, 0, none⟩)) (m := fun x => x.m db false) S2 (txBegin_ok (wr := false) (S2.obj (r := be) (o := beO cm' db lim bp rt)) (S2.obj (r := db) (o := dbO q' D.length c')) (hR H2 (subOf S2 (by simp))) hl) fun y H3 E3 S3 => ?_
  clear S2
  have S4 : Sat H3 (pt y.tx (txO db false false y.p D.length y.c) :: sl ptrC 176 1 y.p D.length y.c (y.B.map BkI.b) :: bkts y.tx y.B :: pt bt (btO x.tx be 0 m1 m2 0) :: pt be (beO cm' db lim bp rt) :: txM x.tx db true false x.B x.p x.c g' (pt db (dbO q' D.length c') :: pt rt (rtO rm ver mu rx0 rb wg) :: l)) := S3
  clear S3
  refine ⟨_, rfl, E3, ?_⟩
  (repeat (first | (refine Step.go ?_; intros) | refine iteB_t (by decide) ?_ | refine iteB_f (by decide) ?_ | (refine Duo.mk (by first | omega | exact rfl | decide) ?_; intros) | (refine Duo.mk (Clo.mk (by kernel_rfl)) ?_; intros)))
  rename_i H4 S5
  clear S4
  refine k x y g' q' c' cm' H4 s1 hR (S5.to ?_)
  iterate 11 (apply Ent.pick; (focus (repeat (first | exact Sel.here | apply Sel.there))))
  exact .refl
end
end Go.Proofs.YtkkookljlencgaaGreat

set_option linter.unusedVariables false
set_option linter.unusedSimpArgs false
set_option linter.unnecessarySimpa false
set_option maxRecDepth 100000
namespace Go.Proofs.YtkkookljlencgaaGreat
open Go Go.Den Go.Proofs
/-- What there is behind a commit. -/
structure Cmt (g : PH) (D : List DtI) where
  x : TxN D
  y : TxN D
  g' : PH
  q : Option Addr
  c : Nat
  cm : Int
  sub : PH.sub g g'
  rows : RowsG DtI.cells 2 g' q D
abbrev Cmt.P {g : PH} {D : List DtI} (a : Cmt g D) (bt be db lim rt rm rb : Nat) (m1 m2 : Option Nat) (ver : Int) (bp mu wg : Option Addr) (l : List HP) : List HP :=
  pt bt (btO a.x.tx be 0 m1 m2 0) :: pt be (beO a.cm db lim bp rt) :: txM a.x.tx db true false a.x.B a.x.p a.x.c a.g' (pt a.y.tx (txO db false false a.y.p D.length a.y.c) :: sl ptrC 176 1 a.y.p D.length a.y.c (a.y.B.map BkI.b) :: bkts a.y.tx a.y.B :: pt db (dbO a.q D.length a.c) :: pt rt (rtO rm ver mu (some ⟨a.y.tx, 0, none⟩) rb wg) :: l)
section
variable {H H0 : Heap} {l l' : List HP} {n : Int} {g : PH}
theorem tcommit_ok {bt tx be pend db lim rt c n0 c0 : Nat} {m1 m2 : Option Nat} {z cm : Int} {bp p p0 : Option Addr} {B : List BkI} (hD : pend = 0 → n0 = B.length ∧ RowsG DtI.cells 2 g p0 (B.map BkI.dt)) (hb : pend ≤ 1000000) (hl : B.length ≤ 1000)
    (S : Sat H (pt bt (btO tx be pend m1 m2 z) :: pt be (beO cm db lim bp rt) :: txM tx db true false B p c g (pt db (dbO p0 n0 c0) :: l))) :
    CallsH Tryz.prog 50 ⟨[.pointer (some ⟨bt, 0, none⟩), .bool false]⟩ H (fun e H1 => e = .returned (.tuple ⟨[]⟩) ∧ ∃ (x : TxN (B.map BkI.dt)) (g' : PH) (q' : Option Addr) (c' : Nat) (cm' : Int), PH.sub g g' ∧ RowsG DtI.cells 2 g' q' (B.map BkI.dt) ∧
      Sat H1 (pt bt (btO x.tx be 0 m1 m2 z) :: pt be (beO cm' db lim bp rt) :: txM x.tx db true false x.B x.p x.c g' (pt db (dbO q' (B.map BkI.dt).length c') :: l))) := by
  by_cases h : pend = 0
  · subst h
    obtain ⟨rfl, hR⟩ := hD rfl
    refine CallsH.mono (tcommit0 S) ?_
    rintro e H1 ⟨rfl, E1⟩
    refine ⟨rfl, ⟨tx, B, p, c, rfl⟩, g, p0, c0, cm, PH.sub.refl, hR, ?_⟩
    rw [List.length_map]
    exact S.ext E1
  · refine CallsH.mono (tcommit1 h hb hl S) ?_
    rintro e H1 ⟨rfl, x, g', q', c', cm', h1, h2, S1⟩
    refine ⟨rfl, x, g', q', c', cm', h1, h2, ?_⟩
    rw [List.length_map]
    exact S1
theorem ucommit_ok {bt tx be pend db lim rt rm rb c n0 c0 rx rn rc : Nat} {m1 m2 : Option Nat} {z cm ver : Int} {bp mu wg p p0 rp : Option Addr} {B : List BkI} {o : Option Buf} {dn : Bool} (hD : pend = 0 → n0 = B.length ∧ RowsG DtI.cells 2 g p0 (B.map BkI.dt)) (hb : pend ≤ 1000000) (hl : B.length ≤ 1000) (ho : ∀ b, o = some b → b.u ≠ 0)
    (S : Sat H (pt bt (btO tx be pend m1 m2 z) :: pt be (beO cm db lim bp rt) :: txM tx db true false B p c g (pt db (dbO p0 n0 c0) :: pt rx (txO db false dn rp rn rc) :: pt rt (rtO rm ver mu (some ⟨rx, 0, none⟩) rb wg) :: mpB rm (bufM n o) :: bufP o :: l))) :
    CallsH Tryz.prog 43 ⟨[.pointer (some ⟨bt, 0, none⟩), .bool false]⟩ H (fun e H1 => e = .returned (.tuple ⟨[]⟩) ∧ ∃ (a : Cmt g (B.map BkI.dt)) (rb' : Nat) (wg' : Option Addr), Sat H1 (a.P bt be db lim rt rm rb' m1 m2 ver bp mu wg' (mpB rm (bufM n o) :: bufP (o.map Buf.z) :: mpK rb' [] :: l))) := by
  refine F43.calls ?_
  unfold F43.go
  (repeat (first | (refine Step.go ?_; intros) | refine iteB_t (by decide) ?_ | refine iteB_f (by decide) ?_ | (refine Duo.mk (by first | omega | exact rfl | decide) ?_; intros) | (refine Duo.mk (Clo.mk (by kernel_rfl)) ?_; intros)))
  refine F43.L0_step ?_
  unfold F43.L0n
  (repeat (first | (refine Step.go ?_; intros) | refine iteB_t (by decide) ?_ | refine iteB_f (by decide) ?_ | (refine Duo.mk (by first | omega | exact rfl | decide) ?_; intros) | (refine Duo.mk (Clo.mk (by kernel_rfl)) ?_; intros)))
  refine iteB_t rfl ?_
  (repeat (first | (refine Step.go ?_; intros) | refine iteB_t (by decide) ?_ | refine iteB_f (by decide) ?_ | (refine Duo.mk (by first | omega | exact rfl | decide) ?_; intros) | (refine Duo.mk (Clo.mk (by kernel_rfl)) ?_; intros)))
  refine call_of (rollback_ok (S.to (m := pt rx (txO db false dn rp rn rc) :: pt bt (btO tx be pend m1 m2 z) :: pt be (beO cm db lim bp rt) :: txM tx db true false B p c g (pt db (dbO p0 n0 c0) :: pt rt (rtO rm ver mu (some ⟨rx, 0, none⟩) rb wg) :: mpB rm (bufM n o) :: bufP o :: l)) (by
    iterate 11 (apply Ent.pick; (focus (repeat (first | exact Sel.here | apply Sel.there))))
    exact .refl))) ?_
  rintro e H1 ⟨rfl, S1⟩
  clear S
  (repeat (first | (refine Step.go ?_; intros) | refine iteB_t (by decide) ?_ | refine iteB_f (by decide) ?_ | (refine Duo.mk (by first | omega | exact rfl | decide) ?_; intros) | (refine Duo.mk (Clo.mk (by kernel_rfl)) ?_; intros)))
  refine call_of (rreset_ok (n := n) ho (S1.to (m := pt rt (rtO rm ver mu (some ⟨rx, 0, none⟩) rb wg) :: mpB rm (bufM n o) :: bufP o :: pt bt (btO tx be pend m1 m2 z) :: pt be (beO cm db lim bp rt) :: txM tx db true false B p c g (pt db (dbO p0 n0 c0) :: l)) (by
    iterate 10 (apply Ent.pick; (focus (repeat (first | exact Sel.here | apply Sel.there))))
    exact Ent.drop .refl))) ?_
  rintro e H2 ⟨rfl, rb', wg', S2⟩
  clear S1
  refine ⟨_, rfl, rfl, ?_⟩
  refine ucommitL1 (g := g) (D := B.map BkI.dt) (by rw [List.length_map]; exact hl) (tcommit_ok hD hb hl (S2.to (m := pt bt (btO tx be pend m1 m2 z) :: pt be (beO cm db lim bp rt) :: txM tx db true false B p c g (pt db (dbO p0 n0 c0) :: pt rt (rtO rm ver mu none rb' wg') :: mpB rm (bufM n o) :: bufP (o.map Buf.z) :: mpK rb' [] :: l)) (by
    iterate 11 (apply Ent.pick; (focus (repeat (first | exact Sel.here | apply Sel.there))))
    exact .refl))) ?_
  intro x y g' q' c' cm' H3 s1 hR S3
  exact ⟨rfl, ⟨x, y, g', q', c', cm', s1, hR⟩, rb', wg', S3⟩
/-- The first commit: there is nothing yet. -/
theorem ucommit0_ok {bt be db lim rt rm rb c : Nat} {m1 m2 : Option Nat} {z cm ver : Int} {bp mu wg q : Option Addr} {D : List DtI} (hl : D.length ≤ 1000) (hR : RowsG DtI.cells 2 g q D)
    (S : Sat H (pt bt (btO' none be 0 m1 m2 z) :: pt be (beO cm db lim bp rt) :: pt db (dbO q D.length c) :: has g :: pt rt (rtO rm ver mu none rb wg) :: l)) :
    CallsH Tryz.prog 43 ⟨[.pointer (some ⟨bt, 0, none⟩), .bool false]⟩ H (fun e H1 => e = .returned (.tuple ⟨[]⟩) ∧ ∃ (a : Cmt g D), Sat H1 (a.P bt be db lim rt rm rb m1 m2 ver bp mu wg l)) := by
  refine F43.calls ?_
  unfold F43.go
  (repeat (first | (refine Step.go ?_; intros) | refine iteB_t (by decide) ?_ | refine iteB_f (by decide) ?_ | (refine Duo.mk (by first | omega | exact rfl | decide) ?_; intros) | (refine Duo.mk (Clo.mk (by kernel_rfl)) ?_; intros)))
  refine F43.L0_step ?_
  unfold F43.L0n
  (repeat (first | (refine Step.go ?_; intros) | refine iteB_t (by decide) ?_ | refine iteB_f (by decide) ?_ | (refine Duo.mk (by first | omega | exact rfl | decide) ?_; intros) | (refine Duo.mk (Clo.mk (by kernel_rfl)) ?_; intros)))
  refine ucommitL1 (g := g) (D := D) hl (ver := ver) (z := z) (mu := mu) (wg := wg) (rx0 := none) (bp := bp) (m1 := m1) (m2 := m2) (rt := rt) (lim := lim) (db := db) (be := be) (rm := rm) (rb := rb) (l := l) ?_ ?_
  · refine F50.calls ?_
    unfold F50.go
    (repeat (first | (refine Step.go ?_; intros) | refine iteB_t (by decide) ?_ | refine iteB_f (by decide) ?_ | (refine Duo.mk (by first | omega | exact rfl | decide) ?_; intros) | (refine Duo.mk (Clo.mk (by kernel_rfl)) ?_; intros)))
    refine commitL1 (D := D) (q := q) (c := c) (g := g) hR hl S ?_
    intro x H1 S1
    exact ⟨rfl, x, g, q, c, cm, PH.sub.refl, hR, S1⟩
  · intro x y g' q' c' cm' H3 s1 hR S3
    exact ⟨rfl, ⟨x, y, g', q', c', cm', s1, hR⟩, S3⟩
end
end Go.Proofs.YtkkookljlencgaaGreat

set_option linter.unusedVariables false
set_option linter.unusedSimpArgs false
set_option linter.unnecessarySimpa false
set_option maxRecDepth 100000
namespace Go.Proofs.YtkkookljlencgaaGreat
open Go Go.Den Go.Proofs
section
variable {H H0 : Heap} {l l' : List HP} {n : Int} {g : PH} {α : Type}
theorem commit39 {bt be db lim rt pend : Nat} {m1 m2 : Option Nat} {cm z : Int} {bp tx : Option Addr} {cs : List Value} {P Q : α → List HP} {ta cma : α → _} {ra : α → List Value}
    (hP : ∀ a, Ent (P a) (pt bt (btO (ta a) be 0 m1 m2 0) :: pt be (beO (cma a) db lim bp rt) :: pt rt (.cells ⟨ra a⟩ 117) :: Q a))
    (S : Sat H (pt bt (btO' tx be pend m1 m2 z) :: pt be (beO cm db lim bp rt) :: pt rt (.cells ⟨cs⟩ 117) :: l))
    (h43 : ∀ H1, Sat H1 (pt bt (btO' tx be pend m1 m2 z) :: pt be (beO cm db lim bp rt) :: pt rt (.cells ⟨cs⟩ 117) :: l) → CallsH Tryz.prog 43 ⟨[.pointer (some ⟨bt, 0, none⟩), .bool false]⟩ H1 (fun e H2 => e = .returned (.tuple ⟨[]⟩) ∧ ∃ a, Sat H2 (P a))) :
    CallsH Tryz.prog 39 ⟨[.pointer (some ⟨bt, 0, none⟩), .bool false]⟩ H (fun e H2 => e = .returned (.tuple ⟨[]⟩) ∧ ∃ a, Sat H2 (P a)) := by
  refine F39.calls ?_
  unfold F39.go
  (repeat (first | (refine Step.go ?_; intros) | refine iteB_t (by decide) ?_ | refine iteB_f (by decide) ?_ | (refine Duo.mk (by first | omega | exact rfl | decide) ?_; intros) | (refine Duo.mk (Clo.mk (by kernel_rfl)) ?_; intros)))
  refine gives_i S (lk42 (S.obj (r := rt) (o := .cells ⟨cs⟩ 117))) fun H1 E1 S1 => ?_
  clear S
  (repeat (first | (refine Step.go ?_; intros) | refine iteB_t (by decide) ?_ | refine iteB_f (by decide) ?_ | (refine Duo.mk (by first | omega | exact rfl | decide) ?_; intros) | (refine Duo.mk (Clo.mk (by kernel_rfl)) ?_; intros)))
  refine call_of (h43 H1 S1) ?_
  rintro e H2 ⟨rfl, a, S2⟩
  clear S1
  have S3 := S2.to (hP a)
  (repeat (first | (refine Step.go ?_; intros) | refine iteB_t (by decide) ?_ | refine iteB_f (by decide) ?_ | (refine Duo.mk (by first | omega | exact rfl | decide) ?_; intros) | (refine Duo.mk (Clo.mk (by kernel_rfl)) ?_; intros)))
  refine gives_i S2 (lk44 (S3.obj (r := rt) (o := .cells ⟨ra a⟩ 117))) fun H3 E3 S4 => ?_
  clear S2 S3
  exact ⟨_, rfl, rfl, rfl, a, S4⟩
theorem commit37 {bt be db lim rt pend : Nat} {m1 m2 : Option Nat} {cm z : Int} {bp tx : Option Addr} {cs : List Value} {P Q : α → List HP} {ta cma : α → _} {ra : α → List Value} (hlim : 0 < lim)
    (hP : ∀ a, Ent (P a) (pt bt (btO (ta a) be 0 m1 m2 0) :: pt be (beO (cma a) db lim bp rt) :: pt rt (.cells ⟨ra a⟩ 117) :: Q a))
    (S : Sat H (pt bt (btO' tx be pend m1 m2 z) :: pt be (beO cm db lim bp rt) :: pt rt (.cells ⟨cs⟩ 117) :: l))
    (h43 : ∀ H1, Sat H1 (pt bt (btO' tx be pend m1 m2 z) :: pt be (beO cm db lim bp rt) :: pt rt (.cells ⟨cs⟩ 117) :: l) → CallsH Tryz.prog 43 ⟨[.pointer (some ⟨bt, 0, none⟩), .bool false]⟩ H1 (fun e H2 => e = .returned (.tuple ⟨[]⟩) ∧ ∃ a, Sat H2 (P a))) :
    CallsH Tryz.prog 37 ⟨[.pointer (some ⟨bt, 0, none⟩)]⟩ H (fun e H2 => e = .returned (.tuple ⟨[]⟩) ∧ ∃ a, Sat H2 (P a)) := by
  refine F37.calls ?_
  unfold F37.go
  refine nilD_i ?_
  refine gives_i S (lk38 (S.obj (r := bt) (o := btO' tx be pend m1 m2 z))) fun H1 E1 S1 => ?_
  refine ⟨_, rfl, rfl, ?_⟩
  refine call_of (commit39 hP S1 h43) ?_
  rintro e H2 ⟨rfl, a, S2⟩
  refine ⟨_, rfl, rfl, ?_⟩
  refine gives_i S2 (unlock0 hlim (S2.to (hP a))) fun H3 E3 S3 => ?_
  exact ⟨_, rfl, rfl, rfl, a, S3⟩
end
end Go.Proofs.YtkkookljlencgaaGreat

set_option linter.unusedVariables false
set_option linter.unusedSimpArgs false
set_option linter.unnecessarySimpa false
set_option maxRecDepth 100000
namespace Go.Proofs.YtkkookljlencgaaGreat
open Go Go.Den Go.Proofs
/-! Methods of what a struct has within it. -/
section
variable {P : Program} {H : Heap}
def strT (P : Program) (t : TypeId) : Bool := match P.underlying t with | some (.struct _) => true | _ => false
theorem method_embV {t : TypeId} {name : String} {off : Nat} {ft : TypeId} {f : FuncId} {a : Addr} {n : Nat} (he : embF P t name = some (off, ft, some (f, true))) (hp : strT P ft = true) : readV P (method (n + 1) t (.pointer (some a)) name) H = some (f, .pointer (some (a.add off))) := by
  obtain ⟨i, m, fi, hi, hf, hg, hfi, hz, hfo⟩ := emb_follow (H := H) (a := a) he
  unfold strT at hp
  split at hp
  · rename_i e hu
    rw [method, readV_bind, readV_typeInfo hi]
    simp only [Option.bind_some, hf]
    rw [readV_bind, hfo, Option.bind_some, hg]
    dsimp only
    rw [readV_bind]
    have : readV P (receiverAt ft (.var (a.add off)) true (if m.path.isEmpty then some ((name.splitOn ".").getLastD name) else none)) H = some (.pointer (some (a.add off))) := by
      unfold receiverAt
      rw [readV_bind, readV_underlying hu]
      rfl
    rw [this]
    rfl
  · cases hp
theorem callI_e {t : TypeId} {name : String} {off : Nat} {ft : TypeId} {f : FuncId} {a : Addr} {args : List Value} {Q : List PanicEntry → Heap → Prop} {K : Value → Heap → Prop} (he : embF P t name = some (off, ft, some (f, true))) (hp : strT P ft = true) (hf : fnOk P f = true)
    (k : callD P f (.pointer (some (a.add off)) :: args) H Q K) : callI P (.iface t (.pointer (some a))) name args H Q K :=
  callI_m (method_embV he hp) hf k
theorem em_lock : embF Tryz.prog 122 "LockOutsideApply" = some (0, 133, some (144, true)) := by kernel_rfl
theorem em_create : embF Tryz.prog 122 "UnsafeCreateBucket" = some (0, 133, some (145, true)) := by kernel_rfl
theorem em_range : embF Tryz.prog 100 "UnsafeRange" = some (0, 115, some (119, true)) := by kernel_rfl
end
section
variable {H : Heap} {l : List HP} {Q : List PanicEntry → Heap → Prop} {K : Value → Heap → Prop} {r : Nat} {args : List Value}
theorem lockI {c : Array Value} (hb : H[r]? = some (.cells c 138)) (k : ∀ H1, ExtH H H1 → K (.tuple ⟨[]⟩) H1) : callI Tryz.prog (.iface 122 (pv r)) "LockOutsideApply" [] H Q K :=
  callI_e em_lock (by kernel_rfl) (by kernel_rfl) (g_i (lk144 hb) k)
theorem createI (k : callD Tryz.prog 145 (pv r :: args) H Q K) : callI Tryz.prog (.iface 122 (pv r)) "UnsafeCreateBucket" args H Q K :=
  callI_e em_create (by kernel_rfl) (by kernel_rfl) k
theorem rangeI (k : callD Tryz.prog 119 (pv r :: args) H Q K) : callI Tryz.prog (.iface 100 (pv r)) "UnsafeRange" args H Q K :=
  callI_e em_range (by kernel_rfl) (by kernel_rfl) k
theorem unlockI (k : callD Tryz.prog 40 (pv r :: args) H Q K) : callI Tryz.prog (.iface 122 (pv r)) "Unlock" args H Q K :=
  callI_i (f := 40) (by kernel_rfl) (by kernel_rfl) (by kernel_rfl) k
theorem putI (k : callD Tryz.prog 149 (pv r :: args) H Q K) : callI Tryz.prog (.iface 122 (pv r)) "UnsafePut" args H Q K :=
  callI_i (f := 149) (by kernel_rfl) (by kernel_rfl) (by kernel_rfl) k
theorem seqI (k : callD Tryz.prog 151 (pv r :: args) H Q K) : callI Tryz.prog (.iface 122 (pv r)) "UnsafeSeqPut" args H Q K :=
  callI_i (f := 151) (by kernel_rfl) (by kernel_rfl) (by kernel_rfl) k
theorem batchI (k : callD Tryz.prog 107 (pv r :: args) H Q K) : callI Tryz.prog (.iface 97 (pv r)) "BatchTx" args H Q K :=
  callI_i (f := 107) (by kernel_rfl) (by kernel_rfl) (by kernel_rfl) k
theorem readI (k : callD Tryz.prog 110 (pv r :: args) H Q K) : callI Tryz.prog (.iface 97 (pv r)) "ReadTx" args H Q K :=
  callI_i (f := 110) (by kernel_rfl) (by kernel_rfl) (by kernel_rfl) k
theorem forceI (k : callD Tryz.prog 109 (pv r :: args) H Q K) : callI Tryz.prog (.iface 97 (pv r)) "ForceCommit" args H Q K :=
  callI_i (f := 109) (by kernel_rfl) (by kernel_rfl) (by kernel_rfl) k
end
end Go.Proofs.YtkkookljlencgaaGreat

set_option linter.unusedVariables false
set_option linter.unusedSimpArgs false
set_option linter.unnecessarySimpa false
set_option maxRecDepth 100000
namespace Go.Proofs.YtkkookljlencgaaGreat
open Go Go.Den Go.Proofs
/-! A bucket is made. -/
section
variable {H H0 : Heap} {l : List HP} {n : Int} {g : PH} {s : ByteArray} {f : Bool}
theorem ucreate_ok {bt tx be pend db c : Nat} {m1 m2 : Option Nat} {z : Int} {p : Option Addr} {A C : List BkI} (hg : ∀ x ∈ A ++ C, BkG g x) (hz : s.size ≤ 1000) (hl : (A ++ C).length ≤ 900) (hlo : ∀ x ∈ A, ltS x.name.s s = true) (hhi : ∀ x ∈ C, ltS s x.name.s = true) (hp : pend ≤ 1000000)
    (S : Sat H (pt bt (btO tx be pend m1 m2 z) :: txM tx db true false (A ++ C) p c g l)) :
    CallsH Tryz.prog 145 ⟨[pv bt, bkT n s f]⟩ H (fun e H1 => e = .returned (.tuple ⟨[]⟩) ∧ ∃ (b : Nat) (q : Option Addr) (c1 : Nat) (g' : PH) (p' : Option Addr) (c' : Nat), PH.sub g g' ∧ BytsG g' ⟨s, q, c1⟩ ∧
      Sat H1 (pt bt (btO tx be (pend + 1) m1 m2 z) :: txM tx db true false (A ++ newBk b s q c1 :: C) p' c' g' l)) := by
  refine F145.calls (bucket := .mk 131 (.agg ⟨[.int .i64 n, .string s, .bool f]⟩)) ?_
  unfold F145.go
  refine Step.go ?_
  refine Step.go ?_
  refine nameI (g := g) (by omega) (S.to (m := has g :: pt bt (btO tx be pend m1 m2 z) :: pt tx (txO db true false p (A ++ C).length c) :: sl ptrC 176 1 p (A ++ C).length c ((A ++ C).map BkI.b) :: bkts tx (A ++ C) :: l) (by
    iterate 5 (apply Ent.pick; (focus (repeat (first | exact Sel.here | apply Sel.there))))
    exact Ent.refl)) fun r0 c0 H1 g1 E1 s1 hb1 S1 => ?_
  clear S
  refine Step.go ?_
  refine ⟨E1, ?_⟩
  refine call_of (create_ok (nm := ⟨s, some ⟨r0, 0, none⟩, c0⟩) (A := A) (C := C) (db := db) (dn := false) (p := p) (c := c) (fun y hy => (hg y hy).mono s1) hb1 hz hl hlo hhi (S1.to (by
    iterate 5 (apply Ent.pick; (focus (repeat (first | exact Sel.here | apply Sel.there))))
    exact Ent.refl))) ?_
  rintro e H2 ⟨b, q, c1, g', p', c', rfl, s2, hb2, S2⟩
  clear S1
  (repeat (first | (refine Step.go ?_; intros) | refine iteB_t (by decide) ?_ | refine iteB_f (by decide) ?_ | (refine Duo.mk (by first | omega | exact rfl | decide) ?_; intros) | (refine Duo.mk (Clo.mk (by kernel_rfl)) ?_; intros)))
  refine F145.L0_step ?_
  unfold F145.L0n
  (repeat (first | (refine Step.go ?_; intros) | refine iteB_t (by decide) ?_ | refine iteB_f (by decide) ?_ | (refine Duo.mk (by first | omega | exact rfl | decide) ?_; intros) | (refine Duo.mk (Clo.mk (by kernel_rfl)) ?_; intros)))
  rename_i H3 S3
  clear S2
  rw [wr64 (by omega) (by omega), show ((pend : Nat) : Int) + 1 = ((pend + 1 : Nat) : Int) by omega] at S3
  refine ⟨rfl, b, q, c1, g', p', c', s1.trans s2, hb2, S3.to ?_⟩
  iterate 5 (apply Ent.pick; (focus (repeat (first | exact Sel.here | apply Sel.there))))
  exact Ent.refl
theorem bkt_ok {k : Int} : CallsH Tryz.prog 24 ⟨[.int .i64 k]⟩ H (Gives (if k = 1 then bkT 3 (ByteArray.mk #[108, 101, 97, 115, 101]) false else if k = 2 then bkT 21 (ByteArray.mk #[97, 117, 116, 104, 85, 115, 101, 114, 115]) false else if k = 3 then bkT 22 (ByteArray.mk #[97, 117, 116, 104, 82, 111, 108, 101, 115]) false else bkT 1 (ByteArray.mk #[107, 101, 121]) true) H) := by
  refine F24.calls ?_
  unfold F24.go
  refine iteB_i (fun h => ?_) (fun h => ?_)
  · have : k = 1 := by simpa using h
    subst this
    refine g_i (F32.calls ⟨rfl, ExtH.refl H⟩) fun H1 E => ?_
    exact ⟨.mk _ _, rfl, rfl, E⟩
  have h1 : k ≠ 1 := by simpa using h
  refine iteB_i (fun h => ?_) (fun h => ?_)
  · have : k = 2 := by simpa using h
    subst this
    refine g_i (F33.calls ⟨rfl, ExtH.refl H⟩) fun H1 E => ?_
    exact ⟨.mk _ _, rfl, rfl, E⟩
  have h2 : k ≠ 2 := by simpa using h
  refine iteB_i (fun h => ?_) (fun h => ?_)
  · have : k = 3 := by simpa using h
    subst this
    refine g_i (F34.calls ⟨rfl, ExtH.refl H⟩) fun H1 E => ?_
    exact ⟨.mk _ _, rfl, rfl, E⟩
  have h3 : k ≠ 3 := by simpa using h
  rw [if_neg h1, if_neg h2, if_neg h3]
  refine g_i (F35.calls ⟨rfl, ExtH.refl H⟩) fun H1 E => ?_
  exact ⟨.mk _ _, rfl, rfl, E⟩
end
end Go.Proofs.YtkkookljlencgaaGreat

set_option linter.unusedVariables false
set_option linter.unusedSimpArgs false
set_option linter.unnecessarySimpa false
set_option maxRecDepth 100000
namespace Go.Proofs.YtkkookljlencgaaGreat
open Go Go.Den Go.Proofs
/-! A backend is made. -/
section
variable {H H0 : Heap} {l : List HP} {g : PH}
theorem Cmt.ent {D : List DtI} (a : Cmt g D) {bt be db lim rt rm rb : Nat} {m1 m2 : Option Nat} {ver : Int} {bp mu wg : Option Addr} :
    Ent (a.P bt be db lim rt rm rb m1 m2 ver bp mu wg l) (pt bt (btO a.x.tx be 0 m1 m2 0) :: pt be (beO a.cm db lim bp rt) :: pt rt (rtO rm ver mu (some ⟨a.y.tx, 0, none⟩) rb wg) :: txM a.x.tx db true false a.x.B a.x.p a.x.c a.g' (pt a.y.tx (txO db false false a.y.p D.length a.y.c) :: sl ptrC 176 1 a.y.p D.length a.y.c (a.y.B.map BkI.b) :: bkts a.y.tx a.y.B :: pt db (dbO a.q D.length a.c) :: l)) := by
  iterate 11 (apply Ent.pick; (focus (repeat (first | exact Sel.here | apply Sel.there))))
  exact .refl
theorem newBatch_ok {be db lim rt rm rb c : Nat} {cm ver : Int} {mu wg q : Option Addr} {D : List DtI} (hlim : 0 < lim) (hl : D.length ≤ 1000) (hR : RowsG DtI.cells 2 g q D)
    (S : Sat H (pt be (beO cm db lim none rt) :: pt db (dbO q D.length c) :: has g :: pt rt (rtO rm ver mu none rb wg) :: l)) :
    CallsH Tryz.prog 36 ⟨[pv be]⟩ H (fun e H1 => ∃ (bt m1 m2 : Nat) (a : Cmt g D), e = .returned (pv bt) ∧ Sat H1 (a.P bt be db lim rt rm rb (some m1) (some m2) ver none mu wg (mpB m1 [] :: mpS m2 [] :: l))) := by
  refine F36.calls ?_
  unfold F36.go
  refine newX S fun m1 H1 E1 S1 => ?_
  clear S
  refine newX (S1.mpNew (Value.int .i64) pv) fun m2 H2 E2 S2 => ?_
  clear S1
  refine newX (S2.mpNew (Value.int .i64) Value.bool) fun bt H3 E3 S3 => ?_
  clear S2
  refine call_of (commit37 (α := Cmt g D) (be := be) (db := db) (lim := lim) (bp := none) (m1 := some m1) (m2 := some m2) (rt := rt) (P := fun a => a.P bt be db lim rt rm rb (some m1) (some m2) ver none mu wg (mpB m1 [] :: mpS m2 [] :: l)) (ta := fun a => a.x.tx) (cma := fun a => a.cm) (ra := fun a => [.map (some rm), .int .u64 ver, .pointer mu, .pointer (some ⟨a.y.tx, 0, none⟩), .map (some rb), .pointer wg]) hlim (fun a => a.ent) (tx := none) (pend := 0) (z := 0) (cm := cm) (cs := [.map (some rm), .int .u64 ver, .pointer mu, .pointer none, .map (some rb), .pointer wg]) (S3.to (l := pt bt (btO' none be 0 (some m1) (some m2) 0) :: mpS m2 [] :: mpB m1 [] :: pt be (beO cm db lim none rt) :: pt db (dbO q D.length c) :: has g :: pt rt (rtO rm ver mu none rb wg) :: l) (m := pt bt (btO' none be 0 (some m1) (some m2) 0) :: pt be (beO cm db lim none rt) :: pt rt (rtO rm ver mu none rb wg) :: pt db (dbO q D.length c) :: has g :: mpB m1 [] :: mpS m2 [] :: l) (by
    iterate 7 (apply Ent.pick; (focus (repeat (first | exact Sel.here | apply Sel.there))))
    exact .refl)) (fun H4 S4 => ucommit0_ok hl hR (S4.to (by
    iterate 5 (apply Ent.pick; (focus (repeat (first | exact Sel.here | apply Sel.there))))
    exact .refl)))) ?_
  rintro e H4 ⟨rfl, a, S4⟩
  exact ⟨_, rfl, rfl, bt, m1, m2, a, rfl, S4⟩
theorem newBack_ok {db lim c : Nat} {q : Option Addr} {D : List DtI} (hlim : 0 < lim) (hl : D.length ≤ 1000) (hR : RowsG DtI.cells 2 g q D)
    (S : Sat H (pt db (dbO q D.length c) :: has g :: l)) :
    CallsH Tryz.prog 23 ⟨[pv db, .int .i64 (lim : Int)]⟩ H (fun e H1 => ∃ (be bt m1 m2 rt rm rb : Nat) (mu wg : Option Addr) (a : Cmt g D), e = .returned (.iface 97 (pv be)) ∧ Sat H1 (a.P bt be db lim rt rm rb (some m1) (some m2) 0 (some ⟨bt, 0, none⟩) mu wg (mpB m1 [] :: mpS m2 [] :: mpB rm [] :: mpK rb [] :: l))) := by
  refine F23.calls ?_
  unfold F23.go
  have h31 : CallsH Tryz.prog 31 ⟨[pv db, .int .i64 (lim : Int)]⟩ H (fun e H1 => ∃ (be bt m1 m2 rt rm rb : Nat) (mu wg : Option Addr) (a : Cmt g D), e = .returned (pv be) ∧ Sat H1 (a.P bt be db lim rt rm rb (some m1) (some m2) 0 (some ⟨bt, 0, none⟩) mu wg (mpB m1 [] :: mpS m2 [] :: mpB rm [] :: mpK rb [] :: l))) := by
    refine F31.calls ?_
    unfold F31.go
    refine newX S fun rm H1 E1 S1 => ?_
    clear S
    refine newX (S1.mpNew (Value.int .i64) pv) fun rb H2 E2 S2 => ?_
    clear S1
    refine newX (S2.mpNew (Value.int .i64) pv) fun wg H3 E3 S3 => ?_
    clear S2
    refine newX S3 fun mu H4 E4 S4 => ?_
    clear S3
    refine newX S4 fun rt H5 E5 S5 => ?_
    clear S4
    refine newX S5 fun be H6 E6 S6 => ?_
    clear S5
    refine call_of (newBatch_ok (be := be) (db := db) (lim := lim) (rt := rt) (rm := rm) (rb := rb) (cm := 0) (ver := 0) (mu := some ⟨mu, 0, none⟩) (wg := some ⟨wg, 0, none⟩) (q := q) (c := c) (D := D) (g := g) (l := mpB rm [] :: mpK rb [] :: l) hlim hl hR (S6.to (by
      iterate 6 (apply Ent.pick; (focus (repeat (first | exact Sel.here | apply Sel.there))))
      iterate 2 (apply Ent.drop)
      exact .refl))) ?_
    rintro e H7 ⟨bt, m1, m2, a, rfl, S7⟩
    clear S6
    refine ⟨_, rfl, ?_⟩
    (repeat (first | (refine Step.go ?_; intros) | refine iteB_t (by decide) ?_ | refine iteB_f (by decide) ?_ | (refine Duo.mk (by first | omega | exact rfl | decide) ?_; intros) | (refine Duo.mk (Clo.mk (by kernel_rfl)) ?_; intros)))
    rename_i H8 S8
    clear S7
    exact ⟨be, bt, m1, m2, rt, rm, rb, _, _, a, rfl, S8⟩
  refine call_of h31 ?_
  rintro e H1 ⟨be, bt, m1, m2, rt, rm, rb, mu, wg, a, rfl, S1⟩
  exact ⟨_, rfl, be, bt, m1, m2, rt, rm, rb, mu, wg, a, rfl, S1⟩
end
end Go.Proofs.YtkkookljlencgaaGreat

set_option linter.unusedVariables false
set_option linter.unusedSimpArgs false
set_option linter.unnecessarySimpa false
set_option maxRecDepth 100000
namespace Go.Proofs.YtkkookljlencgaaGreat
open Go Go.Den Go.Proofs
/-! The state of a backend. -/
abbrev Txt := ByteArray × ByteArray
def txt (r : KR) : Txt := (r.k.s, r.v.s)
abbrev nK : ByteArray := ByteArray.mk #[107, 101, 121]
abbrev nL : ByteArray := ByteArray.mk #[108, 101, 97, 115, 101]
abbrev nU : ByteArray := ByteArray.mk #[97, 117, 116, 104, 85, 115, 101, 114, 115]
abbrev nR : ByteArray := ByteArray.mk #[97, 117, 116, 104, 82, 111, 108, 101, 115]
/-- Where a backend's parts lie. -/
structure BeF where
  bt : Nat
  be : Nat
  rt : Nat
  rm : Nat
  m1 : Nat
  m2 : Nat
  db : Nat
  lim : Nat
/-- What is in them. -/
structure BeV where
  pend : Nat
  cm : Int
  ver : Int
  mu : Option Addr
  wg : Option Addr
  rb : Nat
  wt : Nat
  wB : List BkI
  wp : Option Addr
  wc : Nat
  rx : Nat
  rB : List BkI
  rp : Option Addr
  rc : Nat
  dp : Option Addr
  dc : Nat
  D : List DtI
  M2 : List (Int × Bool)
  W : Option Buf
  R : Option Buf
abbrev beP (f : BeF) (v : BeV) (g : PH) (l : List HP) : List HP :=
  pt f.bt (btO v.wt f.be v.pend (some f.m1) (some f.m2) 0) :: pt f.be (beO v.cm f.db f.lim (some ⟨f.bt, 0, none⟩) f.rt) :: txM v.wt f.db true false v.wB v.wp v.wc g (pt v.rx (txO f.db false false v.rp v.D.length v.rc) :: sl ptrC 176 1 v.rp v.D.length v.rc (v.rB.map BkI.b) :: bkts v.rx v.rB :: pt f.db (dbO v.dp v.D.length v.dc) :: pt f.rt (rtO f.rm v.ver v.mu (some ⟨v.rx, 0, none⟩) v.rb v.wg) :: mpB f.m1 (bufM 1 v.W) :: mpS f.m2 v.M2 :: mpB f.rm (bufM 1 v.R) :: mpK v.rb [] :: bufP v.W :: bufP v.R :: l)
/-- The four buckets; the first one's rows. -/
def KeyB (d : List DtI) (L : List Txt) : Prop := ∃ a b k c, d = [a, b, k, c] ∧ a.name.s = nR ∧ b.name.s = nU ∧ k.name.s = nK ∧ c.name.s = nL ∧ k.xs.map txt = L
def BufC (g : PH) : Option Buf → List Txt → Prop
  | none, L => L = []
  | some b, L => b.u ≤ 500 ∧ (b.Y.take b.u).map txt = L ∧ (∀ r ∈ b.Y.take b.u, KrG g r) ∧ b.Y.length = 512
structure Good (g : PH) (f : BeF) (v : BeV) (A D R W : List Txt) : Prop where
  wg : ∀ b ∈ v.wB, BkG g b
  dg : ∀ d ∈ v.D, DtG g d
  rows : RowsG DtI.cells 2 g v.dp v.D
  req : v.rB.map BkI.dt = v.D
  sync : v.pend = 0 → v.wB.map BkI.dt = v.D
  kw : KeyB (v.wB.map BkI.dt) A
  kd : KeyB v.D D
  bW : BufC g v.W W
  bR : BufC g v.R R
theorem BufC.mono {g g' : PH} {o : Option Buf} {L : List Txt} (h : BufC g o L) (hs : PH.sub g g') : BufC g' o L := by
  cases o with
  | none => exact h
  | some b => exact ⟨h.1, h.2.1, fun r hr => (h.2.2.1 r hr).mono hs, h.2.2.2⟩
theorem KeyB.split {B : List BkI} {L : List Txt} (h : KeyB (B.map BkI.dt) L) : ∃ a b k c, B = [a, b] ++ k :: [c] ∧ a.name.s = nR ∧ b.name.s = nU ∧ k.name.s = nK ∧ c.name.s = nL ∧ k.xs.map txt = L := by
  obtain ⟨a, b, k, c, h1, h2, h3, h4, h5, h6⟩ := h
  match B, h1 with
  | [a', b', k', c'], h1 =>
    simp only [List.map_cons, List.map_nil, List.cons.injEq, and_true] at h1
    obtain ⟨rfl, rfl, rfl, rfl⟩ := h1
    exact ⟨a', b', k', c', rfl, h2, h3, h4, h5, h6⟩
theorem lt_RK : ltS nR nK = true := by kernel_rfl
theorem lt_UK : ltS nU nK = true := by kernel_rfl
theorem lt_RU : ltS nR nU = true := by kernel_rfl
theorem lt_KL : ltS nK nL = true := by kernel_rfl
theorem lt_UL : ltS nU nL = true := by kernel_rfl
end Go.Proofs.YtkkookljlencgaaGreat

set_option linter.unusedVariables false
set_option linter.unusedSimpArgs false
set_option linter.unnecessarySimpa false
set_option maxRecDepth 100000
namespace Go.Proofs.YtkkookljlencgaaGreat
open Go Go.Den Go.Proofs
/-! A row is put, not in order. -/
section
variable {H H0 : Heap} {l : List HP} {g : PH} {n : Int} {s : ByteArray} {f : Bool}
theorem tput2_ok {bt : Nat} {k v : Bs} {R : Ending → Heap → Prop} (hc : CallsH Tryz.prog 161 ⟨[.pointer (some ⟨bt, 0, none⟩), bkT n s f, k.v, v.v, .bool false]⟩ H (fun e H1 => e = .returned (.tuple ⟨[]⟩) ∧ R e H1)) :
    CallsH Tryz.prog 155 ⟨[.pointer (some ⟨bt, 0, none⟩), bkT n s f, k.v, v.v]⟩ H (fun e H1 => e = .returned (.tuple ⟨[]⟩) ∧ R e H1) := by
  refine F155.calls (bucket := .mk 131 (.agg ⟨[.int .i64 n, .string s, .bool f]⟩)) ?_
  unfold F155.go
  refine call_of hc ?_
  rintro e H1 ⟨rfl, h⟩
  exact ⟨_, rfl, rfl, rfl, h⟩
theorem bput2_ok {bt tx be pend m2 : Nat} {m1 : Option Nat} {z : Int} {M2 : List (Int × Bool)} {k v : Bs} {R : Ending → Heap → Prop}
    (S : Sat H (mpS m2 M2 :: pt bt (btO tx be pend m1 (some m2) z) :: l))
    (hc : ∀ H1, Sat H1 (mpS m2 (mset M2 n false) :: pt bt (btO tx be pend m1 (some m2) z) :: l) → CallsH Tryz.prog 162 ⟨[.pointer (some ⟨bt, 3, none⟩), bkT n s f, k.v, v.v]⟩ H1 (fun e H1 => e = .returned (.tuple ⟨[]⟩) ∧ R e H1)) :
    CallsH Tryz.prog 156 ⟨[.pointer (some ⟨bt, 3, none⟩), bkT n s f, k.v, v.v]⟩ H (fun e H1 => e = .returned (.tuple ⟨[]⟩) ∧ R e H1) := by
  refine F156.calls (bucket := .mk 131 (.agg ⟨[.int .i64 n, .string s, .bool f]⟩)) ?_
  unfold F156.go
  refine Step.go ?_
  refine Step.go ?_
  refine idI S fun H1 E1 S1 => ?_
  clear S
  refine Step.go ?_
  refine ⟨E1, ?_⟩
  refine S1.mpSet MI134 n false fun H4 S5 => ?_
  refine call_of (hc H4 S5) ?_
  rintro e H1 ⟨rfl, h⟩
  exact ⟨_, rfl, rfl, rfl, h⟩
theorem uput_ok {bt : Nat} {k v : Bs} {R1 R2 : Heap → Prop} (h1 : CallsH Tryz.prog 161 ⟨[.pointer (some ⟨bt, 0, none⟩), bkT n s f, k.v, v.v, .bool false]⟩ H (fun e H1 => e = .returned (.tuple ⟨[]⟩) ∧ R1 H1))
    (h2 : ∀ H1, R1 H1 → CallsH Tryz.prog 156 ⟨[.pointer (some ⟨bt, 3, none⟩), bkT n s f, k.v, v.v]⟩ H1 (fun e H2 => e = .returned (.tuple ⟨[]⟩) ∧ R2 H2)) :
    CallsH Tryz.prog 149 ⟨[.pointer (some ⟨bt, 0, none⟩), bkT n s f, k.v, v.v]⟩ H (fun e H1 => e = .returned (.tuple ⟨[]⟩) ∧ R2 H1) := by
  refine F149.calls (bucket := .mk 131 (.agg ⟨[.int .i64 n, .string s, .bool f]⟩)) ?_
  unfold F149.go
  refine Step.go ?_
  refine call_of (tput2_ok (R := fun _ H1 => R1 H1) h1) ?_
  rintro e H1 ⟨rfl, r1⟩
  refine ⟨_, rfl, rfl, ?_⟩
  refine call_of (h2 H1 r1) ?_
  rintro e H2 ⟨rfl, r2⟩
  exact ⟨_, rfl, rfl, rfl, r2⟩
end
end Go.Proofs.YtkkookljlencgaaGreat

set_option linter.unusedVariables false
set_option linter.unusedSimpArgs false
set_option linter.unnecessarySimpa false
set_option maxRecDepth 100000
namespace Go.Proofs.YtkkookljlencgaaGreat
open Go Go.Den Go.Proofs
/-! A row is put: the state behind it. -/
section
variable {H H0 : Heap} {l : List HP} {g : PH} {s : ByteArray} {b : Bool}
abbrev beR (f : BeF) (v : BeV) (l : List HP) : List HP := pt v.rx (txO f.db false false v.rp v.D.length v.rc) :: sl ptrC 176 1 v.rp v.D.length v.rc (v.rB.map BkI.b) :: bkts v.rx v.rB :: pt f.db (dbO v.dp v.D.length v.dc) :: pt f.rt (rtO f.rm v.ver v.mu (some ⟨v.rx, 0, none⟩) v.rb v.wg) :: mpB f.m1 (bufM 1 v.W) :: mpS f.m2 v.M2 :: mpB f.rm (bufM 1 v.R) :: mpK v.rb [] :: bufP v.W :: bufP v.R :: l
theorem BufC.len {w : Buf} {L : List Txt} (h : BufC g (some w) L) : w.u = L.length := by
  obtain ⟨h1, h2, h3, h4⟩ := h
  rw [← h2, List.length_map, List.length_take]
  omega
theorem bput_st {bt tx be pend m1 : Nat} {m2 : Option Nat} {z : Int} {W : Option Buf} {L : List Txt} {x : KR} (hW : BufC g W L) (hL : L.length < 500) (gx : KrG g x)
    (S : Sat H (mpB m1 (bufM 1 W) :: pt bt (btO tx be pend (some m1) m2 z) :: bufP W :: l)) :
    CallsH Tryz.prog 162 ⟨[.pointer (some ⟨bt, 3, none⟩), bkT 1 s b, x.k.v, x.v.v]⟩ H (fun e H1 => e = .returned (.tuple ⟨[]⟩) ∧ ∃ w : Buf, BufC g (some w) (L ++ [txt x]) ∧ Sat H1 (mpB m1 (bufM 1 (some w)) :: pt bt (btO tx be pend (some m1) m2 z) :: bufP (some w) :: l)) := by
  cases W with
  | none =>
    obtain rfl : L = [] := hW
    refine CallsH.mono (bput_new (n := 1) (M := []) rfl (S.to (m := mpB m1 [] :: pt bt (btO tx be pend (some m1) m2 z) :: l) ?_)) ?_
    · iterate 2 (apply Ent.pick; (focus (repeat (first | exact Sel.here | apply Sel.there))))
      exact Ent.drop .refl
    rintro e H1 ⟨rfl, bb, q, c, S1⟩
    refine ⟨rfl, ⟨bb, q, c, 1, (List.replicate 512 kr0).set 0 x⟩, ⟨(by decide : (1 : Nat) ≤ 500), ?_, ?_, ?_⟩, ?_⟩
    · rfl
    · intro r hr
      have : r ∈ [x] := hr
      rw [List.mem_singleton.1 this]
      exact gx
    · rw [List.length_set, List.length_replicate]
    · refine (S1.to (bufP_in (b := ⟨bb, q, c, 1, (List.replicate 512 kr0).set 0 x⟩))).to ?_
      show Ent _ (mpB m1 (mset [] 1 bb) :: pt bt (btO tx be pend (some m1) m2 z) :: bufP (some ⟨bb, q, c, 1, (List.replicate 512 kr0).set 0 x⟩) :: l)
      iterate 3 (apply Ent.pick; (focus (repeat (first | exact Sel.here | apply Sel.there))))
      exact .refl
  | some w =>
    have hl := hW.len
    obtain ⟨h1, h2, h3, h4⟩ := hW
    refine CallsH.mono (bput_old (n := 1) (M := [(1, w.bb)]) (bb := w.bb) (u := w.u) (q := w.q) (c := w.c) (Y := w.Y) (by simp [mget]) (by omega) (S.to (m := mpB m1 [(1, w.bb)] :: pt bt (btO tx be pend (some m1) m2 z) :: pt w.bb (bbO w.q w.c w.u) :: bufS w.q w.c w.Y :: l) ?_)) ?_
    · refine Ent.trans (m := bufP (some w) :: mpB m1 [(1, w.bb)] :: pt bt (btO tx be pend (some m1) m2 z) :: l) ?_ (Ent.trans bufP_out ?_)
      · show Ent (mpB m1 [(1, w.bb)] :: pt bt (btO tx be pend (some m1) m2 z) :: bufP (some w) :: l) _
        iterate 3 (apply Ent.pick; (focus (repeat (first | exact Sel.here | apply Sel.there))))
        exact .refl
      · iterate 4 (apply Ent.pick; (focus (repeat (first | exact Sel.here | apply Sel.there))))
        exact .refl
    rintro e H1 ⟨rfl, S1⟩
    have et : (w.Y.set w.u x).take (w.u + 1) = w.Y.take w.u ++ [x] := by
      rw [List.take_add_one, List.take_set_of_le (Nat.le_refl _), List.getElem?_set_self (by omega)]
      rfl
    refine ⟨rfl, ⟨w.bb, w.q, w.c, w.u + 1, w.Y.set w.u x⟩, ⟨by show w.u + 1 ≤ 500; omega, ?_, ?_, ?_⟩, ?_⟩
    · show ((w.Y.set w.u x).take (w.u + 1)).map txt = _
      rw [et, List.map_append, h2]
      rfl
    · intro r hr
      have hr : r ∈ (w.Y.set w.u x).take (w.u + 1) := hr
      rw [et] at hr
      rcases List.mem_append.1 hr with hr | hr
      · exact h3 r hr
      · rw [List.mem_singleton.1 hr]; exact gx
    · show (w.Y.set w.u x).length = 512
      rw [List.length_set]; exact h4
    · refine (S1.to (bufP_in (b := ⟨w.bb, w.q, w.c, w.u + 1, w.Y.set w.u x⟩))).to ?_
      show Ent _ (mpB m1 [(1, w.bb)] :: pt bt (btO tx be pend (some m1) m2 z) :: bufP (some ⟨w.bb, w.q, w.c, w.u + 1, w.Y.set w.u x⟩) :: l)
      iterate 3 (apply Ent.pick; (focus (repeat (first | exact Sel.here | apply Sel.there))))
      exact .refl
theorem put161 {f : BeF} {v : BeV} {A D R W : List Txt} {k w : Bs} {sq : Bool} (G : Good g f v A D R W) (hk : BytsG g k) (hw : BytsG g w) (hA : A.length ≤ 1000000) (hlt : ∀ y ∈ A, ltS y.1 k.s = true) (hk0 : k.s.size ≠ 0) (hks : k.s.size ≤ 140737488350000) (hvs : w.s.size ≤ 140737488350000) (hp : v.pend ≤ 1000000)
    (S : Sat H (beP f v g l)) :
    CallsH Tryz.prog 161 ⟨[pv f.bt, bkT 1 nK b, k.v, w.v, .bool sq]⟩ H (fun e H1 => e = .returned (.tuple ⟨[]⟩) ∧ ∃ (g' : PH) (wB' : List BkI), PH.sub g g' ∧ Good g' f { v with wB := wB', pend := v.pend + 1 } (A ++ [(k.s, w.s)]) D R W ∧ Sat H1 (beP f { v with wB := wB', pend := v.pend + 1 } g' l)) := by
  obtain ⟨a, bb, kb, c, hB, n1, n2, n3, n4, hx⟩ := G.kw.split
  obtain ⟨pend, cm, ver, mu, wg, rb, wt, wB, wp, wc, rx, rB, rp, rc, dp, dc, DD, M2, Wb, Rb⟩ := v
  dsimp only at hB hp G ⊢
  subst hB
  have hxl : kb.xs.length = A.length := by rw [← hx, List.length_map]
  refine CallsH.mono (tput_ok (sq := sq) (tx := wt) (db := f.db) (dn := false) (p := wp) (c := wc) (be := f.be) (pend := pend) (m1 := some f.m1) (m2 := some f.m2) (z := 0) (l := pt f.be (beO cm f.db f.lim (some ⟨f.bt, 0, none⟩) f.rt) :: beR f ⟨pend, cm, ver, mu, wg, rb, wt, [a, bb] ++ kb :: [c], wp, wc, rx, rB, rp, rc, dp, dc, DD, M2, Wb, Rb⟩ l) (n := 1) (s := nK) (f := b) (A := [a, bb]) (C := [c]) (x := kb) (k := k) (v := w) G.wg (by decide) (by simp) n3 ?_ hk hw (by omega) ?_ hk0 hks hvs hp (S.to ?_)) ?_
  · intro y hy
    simp only [List.mem_cons, List.not_mem_nil, or_false] at hy
    rcases hy with rfl | rfl
    · rw [n1]; exact lt_RK
    · rw [n2]; exact lt_UK
  · intro y hy
    refine hlt (txt y) ?_
    rw [← hx]
    exact List.mem_map_of_mem hy
  · iterate 5 (apply Ent.pick; (focus (repeat (first | exact Sel.here | apply Sel.there))))
    exact .refl
  rintro e H1 ⟨rfl, g', q', c', fl', r, s1, hr, e1, e2, hc, hR, S1⟩
  refine ⟨rfl, g', [a, bb] ++ ⟨kb.b, kb.name, q', c', kb.xs ++ [r], fl'⟩ :: [c], s1, ?_, S1.to ?_⟩
  · have gk := G.wg kb (by simp)
    refine ⟨?_, fun d hd => (G.dg d hd).mono s1, G.rows.mono s1, G.req, (fun h => by cases h), ?_, G.kd, G.bW.mono s1, G.bR.mono s1⟩
    · intro y hy
      simp only [List.cons_append, List.nil_append, List.mem_cons, List.not_mem_nil, or_false] at hy
      rcases hy with rfl | rfl | rfl | rfl
      · exact (G.wg _ (by simp)).mono s1
      · exact (G.wg _ (by simp)).mono s1
      · refine ⟨gk.nm.mono s1, hR, ?_, ?_, by rw [List.length_append]; exact hc⟩
        · intro z hz
          rcases List.mem_append.1 hz with hz | hz
          · exact (gk.kr z hz).mono s1
          · rw [List.mem_singleton.1 hz]; exact hr
        · refine List.pairwise_append.2 ⟨gk.srt, List.pairwise_singleton .., ?_⟩
          intro y hy z hz
          rw [List.mem_singleton.1 hz, e1]
          refine hlt (txt y) ?_
          rw [← hx]
          exact List.mem_map_of_mem hy
      · exact (G.wg _ (by simp)).mono s1
    · refine ⟨a.dt, bb.dt, ⟨kb.name, q', c', kb.xs ++ [r]⟩, c.dt, rfl, n1, n2, n3, n4, ?_⟩
      rw [List.map_append, hx]
      show A ++ [(r.k.s, r.v.s)] = _
      rw [e1, e2]
  · iterate 5 (apply Ent.pick; (focus (repeat (first | exact Sel.here | apply Sel.there))))
    exact .refl
end
end Go.Proofs.YtkkookljlencgaaGreat

set_option linter.unusedVariables false
set_option linter.unusedSimpArgs false
set_option linter.unnecessarySimpa false
set_option maxRecDepth 100000
namespace Go.Proofs.YtkkookljlencgaaGreat
open Go Go.Den Go.Proofs
section
variable {H H0 : Heap} {l : List HP} {g : PH} {s : ByteArray} {b : Bool}
/-- The state behind a put. -/
def PutR (g : PH) (f : BeF) (v : BeV) (M2 : List (Int × Bool)) (A D R W : List Txt) (t : Txt) (l : List HP) (H1 : Heap) : Prop :=
  ∃ (g' : PH) (v' : BeV), PH.sub g g' ∧ Good g' f v' (A ++ [t]) D R (W ++ [t]) ∧ v'.pend = v.pend + 1 ∧ v'.M2 = M2 ∧ v'.R = v.R ∧ (∃ w', v'.W = some w') ∧ Sat H1 (beP f v' g' l)
theorem put162 {f : BeF} {v : BeV} {A D R W : List Txt} {k w : Bs} {M2 : List (Int × Bool)} {pend : Nat} (G : Good g f v A D R W) (hkw : KrG g ⟨k, w⟩) (hW : W.length < 500)
    (S : Sat H (beP f { v with M2 := M2 } g l)) :
    CallsH Tryz.prog 162 ⟨[.pointer (some ⟨f.bt, 3, none⟩), bkT 1 s b, k.v, w.v]⟩ H (fun e H1 => e = .returned (.tuple ⟨[]⟩) ∧ ∃ v' : BeV, Good g f v' A D R (W ++ [(k.s, w.s)]) ∧ v'.pend = v.pend ∧ v'.M2 = M2 ∧ v'.R = v.R ∧ (∃ w', v'.W = some w') ∧ Sat H1 (beP f v' g l)) := by
  obtain ⟨pend, cm, ver, mu, wg, rb, wt, wB, wp, wc, rx, rB, rp, rc, dp, dc, DD, M2', Wb, Rb⟩ := v
  dsimp only at G S ⊢
  refine CallsH.mono (bput_st (b := b) (s := s) (x := ⟨k, w⟩) (W := Wb) (L := W) G.bW hW hkw (S.to (m := mpB f.m1 (bufM 1 Wb) :: pt f.bt (btO wt f.be pend (some f.m1) (some f.m2) 0) :: bufP Wb :: pt f.be (beO cm f.db f.lim (some ⟨f.bt, 0, none⟩) f.rt) :: txM wt f.db true false wB wp wc g (pt rx (txO f.db false false rp DD.length rc) :: sl ptrC 176 1 rp DD.length rc (rB.map BkI.b) :: bkts rx rB :: pt f.db (dbO dp DD.length dc) :: pt f.rt (rtO f.rm ver mu (some ⟨rx, 0, none⟩) rb wg) :: mpS f.m2 M2 :: mpB f.rm (bufM 1 Rb) :: mpK rb [] :: bufP Rb :: l)) ?_)) ?_
  · iterate 17 (apply Ent.pick; (focus (repeat (first | exact Sel.here | apply Sel.there))))
    exact .refl
  rintro e H1 ⟨rfl, w', hb, S1⟩
  refine ⟨rfl, ⟨pend, cm, ver, mu, wg, rb, wt, wB, wp, wc, rx, rB, rp, rc, dp, dc, DD, M2, some w', Rb⟩, ⟨G.wg, G.dg, G.rows, G.req, G.sync, G.kw, G.kd, hb, G.bR⟩, rfl, rfl, rfl, ⟨w', rfl⟩, S1.to ?_⟩
  iterate 17 (apply Ent.pick; (focus (repeat (first | exact Sel.here | apply Sel.there))))
  exact .refl
theorem seqS_ok {f : BeF} {v : BeV} {A D R W : List Txt} {k w : Bs} (G : Good g f v A D R W) (hk : BytsG g k) (hw : BytsG g w) (hA : A.length ≤ 1000000) (hlt : ∀ y ∈ A, ltS y.1 k.s = true) (hk0 : k.s.size ≠ 0) (hks : k.s.size ≤ 140737488350000) (hvs : w.s.size ≤ 140737488350000) (hp : v.pend ≤ 1000000) (hW : W.length < 500)
    (S : Sat H (beP f v g l)) :
    CallsH Tryz.prog 151 ⟨[pv f.bt, bkT 1 nK b, k.v, w.v]⟩ H (fun e H1 => e = .returned (.tuple ⟨[]⟩) ∧ PutR g f v v.M2 A D R W (k.s, w.s) l H1) := by
  refine useq_ok (put161 (b := b) (sq := true) G hk hw hA hlt hk0 hks hvs hp S) ?_
  rintro H1 ⟨g', wB', s1, G1, S1⟩
  refine CallsH.mono (put162 (M2 := v.M2) (pend := v.pend) (b := b) (s := nK) (k := k) (w := w) G1 ⟨hk.mono s1, hw.mono s1⟩ hW S1) ?_
  rintro e H2 ⟨rfl, v', G2, h1, h2, h3, h4, S2⟩
  exact ⟨rfl, g', v', s1, G2, h1, h2, h3, h4, S2⟩
theorem putS_ok {f : BeF} {v : BeV} {A D R W : List Txt} {k w : Bs} (G : Good g f v A D R W) (hk : BytsG g k) (hw : BytsG g w) (hA : A.length ≤ 1000000) (hlt : ∀ y ∈ A, ltS y.1 k.s = true) (hk0 : k.s.size ≠ 0) (hks : k.s.size ≤ 140737488350000) (hvs : w.s.size ≤ 140737488350000) (hp : v.pend ≤ 1000000) (hW : W.length < 500)
    (S : Sat H (beP f v g l)) :
    CallsH Tryz.prog 149 ⟨[pv f.bt, bkT 1 nK b, k.v, w.v]⟩ H (fun e H1 => e = .returned (.tuple ⟨[]⟩) ∧ PutR g f v (mset v.M2 1 false) A D R W (k.s, w.s) l H1) := by
  refine uput_ok (put161 (b := b) (sq := false) G hk hw hA hlt hk0 hks hvs hp S) ?_
  rintro H1 ⟨g', wB', s1, G1, S1⟩
  obtain ⟨pend, cm, ver, mu, wg, rb, wt, wB, wp, wc, rx, rB, rp, rc, dp, dc, DD, M2, Wb, Rb⟩ := v
  dsimp only at G1 S1 ⊢
  refine bput2_ok (R := fun _ H2 => PutR g f _ _ A D R W (k.s, w.s) l H2) (tx := wt) (be := f.be) (pend := pend + 1) (m2 := f.m2) (m1 := some f.m1) (z := 0) (M2 := M2) (l := pt f.be (beO cm f.db f.lim (some ⟨f.bt, 0, none⟩) f.rt) :: txM wt f.db true false wB' wp wc g' (pt rx (txO f.db false false rp DD.length rc) :: sl ptrC 176 1 rp DD.length rc (rB.map BkI.b) :: bkts rx rB :: pt f.db (dbO dp DD.length dc) :: pt f.rt (rtO f.rm ver mu (some ⟨rx, 0, none⟩) rb wg) :: mpB f.m1 (bufM 1 Wb) :: mpB f.rm (bufM 1 Rb) :: mpK rb [] :: bufP Wb :: bufP Rb :: l)) (S1.to ?_) ?_
  · iterate 17 (apply Ent.pick; (focus (repeat (first | exact Sel.here | apply Sel.there))))
    exact .refl
  intro H2 S2
  refine CallsH.mono (put162 (l := l) (M2 := mset M2 1 false) (pend := pend) (b := b) (s := nK) (k := k) (w := w) G1 ⟨hk.mono s1, hw.mono s1⟩ hW (S2.to ?_)) ?_
  · iterate 17 (apply Ent.pick; (focus (repeat (first | exact Sel.here | apply Sel.there))))
    exact .refl
  rintro e H3 ⟨rfl, v', G2, h1, h2, h3, h4, S3⟩
  exact ⟨rfl, g', v', s1, G2, h1, h2, h3, h4, S3⟩
end
end Go.Proofs.YtkkookljlencgaaGreat

set_option linter.unusedVariables false
set_option linter.unusedSimpArgs false
set_option linter.unnecessarySimpa false
set_option maxRecDepth 100000
namespace Go.Proofs.YtkkookljlencgaaGreat
open Go Go.Den Go.Proofs
/-! The batch transaction is given back: the state behind it. -/
/-- How the buffers stand while rows are put. -/
structure Ph (v : BeV) (W : List Txt) : Prop where
  pend : v.pend = W.length
  w : v.W = none ∨ ∃ w, v.W = some w ∧ w.u ≠ 0
  r : v.R = none ∨ ∃ r, v.R = some r ∧ r.u = 0
  m : v.M2 = [] ∨ (v.M2 = [(1, false)] ∧ v.R = none ∧ W.length = 1)
section
variable {H H0 : Heap} {l : List HP} {g : PH} {s : ByteArray} {b : Bool}
theorem bufC_take {w : Buf} {L : List Txt} (h : BufC g (some w) L) (r : Buf) (hr : r.Y.length = 512) : BufC g (some ⟨r.bb, r.q, r.c, w.u, w.Y.take w.u ++ r.Y.drop w.u⟩) L := by
  obtain ⟨h1, h2, h3, h4⟩ := h
  have e : (w.Y.take w.u ++ r.Y.drop w.u).take w.u = w.Y.take w.u := by
    rw [List.take_append_of_le_length (by rw [List.length_take]; omega), List.take_take, Nat.min_self]
  refine ⟨h1, ?_, ?_, ?_⟩
  · show ((w.Y.take w.u ++ r.Y.drop w.u).take w.u).map txt = L
    rw [e]; exact h2
  · intro x hx
    have hx : x ∈ (w.Y.take w.u ++ r.Y.drop w.u).take w.u := hx
    rw [e] at hx; exact h3 x hx
  · show (w.Y.take w.u ++ r.Y.drop w.u).length = 512
    rw [List.length_append, List.length_take, List.length_drop]; omega
theorem unlockS_ok {f : BeF} {v : BeV} {A D R W : List Txt} (G : Good g f v A D R W) (P : Ph v W) (hlim : W.length < f.lim)
    (S : Sat H (beP f v g l)) :
    CallsH Tryz.prog 40 ⟨[pv f.bt]⟩ H (fun e H1 => e = .returned (.tuple ⟨[]⟩) ∧ ∃ v' : BeV, Good g f v' A D W [] ∧ v'.pend = v.pend ∧ v'.M2 = [] ∧ (v.R = none → v'.W = none ∧ ∀ b, v'.R = some b → b.u ≠ 0) ∧ Sat H1 (beP f v' g l)) := by
  obtain ⟨hp, hw, hr, hm⟩ := P
  obtain ⟨pend, cm, ver, mu, wg, rb, wt, wB, wp, wc, rx, rB, rp, rc, dp, dc, DD, M2, Wb, Rb⟩ := v
  dsimp only at *
  rcases hw with rfl | ⟨w, rfl, hu⟩
  · obtain rfl : W = [] := G.bW
    obtain rfl : pend = 0 := hp
    have hm : M2 = [] := by rcases hm with h | ⟨_, _, h⟩; exact h; cases h
    subst hm
    refine CallsH.mono (unlock0 (by simpa using hlim) S) ?_
    rintro e H1 ⟨rfl, E1⟩
    refine ⟨rfl, ⟨0, cm, ver, mu, wg, rb, wt, wB, wp, wc, rx, rB, rp, rc, dp, dc, DD, [], none, Rb⟩, ⟨G.wg, G.dg, G.rows, G.req, G.sync, G.kw, G.kd, rfl, ?_⟩, rfl, rfl, ?_, S.ext E1⟩
    · rcases hr with rfl | ⟨r, rfl, h0⟩
      · rfl
      · have hb := G.bR
        have := hb.len
        obtain ⟨h1, h2, h3, h4⟩ := hb
        refine ⟨h1, ?_, h3, h4⟩
        show (r.Y.take r.u).map txt = []
        rw [h0]; rfl
    · rintro h
      have h : Rb = none := h
      subst h
      exact ⟨rfl, fun b hb => by cases hb⟩
  · have hl := G.bW.len
    have hw5 := G.bW.1
    have hp0 : pend ≠ 0 := by omega
    have rest : ∀ (Wb' Rb' : Option Buf), BufC g Wb' [] → BufC g Rb' W → (Rb = none → Wb' = none ∧ ∀ b, Rb' = some b → b.u ≠ 0) → (∀ H1, Sat H1 (pt f.bt (btO wt f.be pend (some f.m1) (some f.m2) 0) :: mpB f.m1 [(1, w.bb)] :: mpS f.m2 M2 :: pt f.rt (rtO f.rm ver mu (some ⟨rx, 0, none⟩) rb wg) :: mpB f.rm (bufM 1 Rb) :: bufP (some w) :: bufP Rb :: (pt f.be (beO cm f.db f.lim (some ⟨f.bt, 0, none⟩) f.rt) :: txM wt f.db true false wB wp wc g (pt rx (txO f.db false false rp DD.length rc) :: sl ptrC 176 1 rp DD.length rc (rB.map BkI.b) :: bkts rx rB :: pt f.db (dbO dp DD.length dc) :: mpK rb [] :: l))) →
        CallsH Tryz.prog 45 ⟨[.pointer (some ⟨f.bt, 3, none⟩), pv f.rt]⟩ H1 (fun e H2 => e = .returned (.tuple ⟨[]⟩) ∧ Sat H2 (pt f.bt (btO wt f.be pend (some f.m1) (some f.m2) 0) :: mpB f.m1 (bufM 1 Wb') :: mpS f.m2 [] :: pt f.rt (rtO f.rm (IntKind.wrap .u64 (ver + 1)) mu (some ⟨rx, 0, none⟩) rb wg) :: mpB f.rm (bufM 1 Rb') :: bufP Wb' :: bufP Rb' :: (pt f.be (beO cm f.db f.lim (some ⟨f.bt, 0, none⟩) f.rt) :: txM wt f.db true false wB wp wc g (pt rx (txO f.db false false rp DD.length rc) :: sl ptrC 176 1 rp DD.length rc (rB.map BkI.b) :: bkts rx rB :: pt f.db (dbO dp DD.length dc) :: mpK rb [] :: l))))) →
        CallsH Tryz.prog 40 ⟨[pv f.bt]⟩ H (fun e H1 => e = .returned (.tuple ⟨[]⟩) ∧ ∃ v' : BeV, Good g f v' A D W [] ∧ v'.pend = pend ∧ v'.M2 = [] ∧ (Rb = none → v'.W = none ∧ ∀ b, v'.R = some b → b.u ≠ 0) ∧ Sat H1 (beP f v' g l)) := by
      intro Wb' Rb' hW' hR' hc h45
      refine CallsH.mono (unlock1 (rt := f.rt) (rm := f.rm) (rb := rb) (ver := ver) (ver' := IntKind.wrap .u64 (ver + 1)) (mu := mu) (rx := some ⟨rx, 0, none⟩) (wg := wg) (be := f.be) (tx := wt) (db := f.db) (lim := f.lim) (bp := some ⟨f.bt, 0, none⟩) (m1 := some f.m1) (m2 := some f.m2) (cm := cm) (pend := pend) (l := mpB f.m1 [(1, w.bb)] :: mpS f.m2 M2 :: mpB f.rm (bufM 1 Rb) :: bufP (some w) :: bufP Rb :: txM wt f.db true false wB wp wc g (pt rx (txO f.db false false rp DD.length rc) :: sl ptrC 176 1 rp DD.length rc (rB.map BkI.b) :: bkts rx rB :: pt f.db (dbO dp DD.length dc) :: mpK rb [] :: l)) (l' := mpB f.m1 (bufM 1 Wb') :: mpS f.m2 [] :: mpB f.rm (bufM 1 Rb') :: bufP Wb' :: bufP Rb' :: txM wt f.db true false wB wp wc g (pt rx (txO f.db false false rp DD.length rc) :: sl ptrC 176 1 rp DD.length rc (rB.map BkI.b) :: bkts rx rB :: pt f.db (dbO dp DD.length dc) :: mpK rb [] :: l)) hp0 (by omega) (by omega) (S.to ?_) ?_) ?_
      · show Ent (beP f ⟨pend, cm, ver, mu, wg, rb, wt, wB, wp, wc, rx, rB, rp, rc, dp, dc, DD, M2, some w, Rb⟩ g l) _
        iterate 17 (apply Ent.pick; (focus (repeat (first | exact Sel.here | apply Sel.there))))
        exact .refl
      · intro H1 S1
        refine CallsH.mono (h45 H1 (S1.to ?_)) ?_
        · iterate 17 (apply Ent.pick; (focus (repeat (first | exact Sel.here | apply Sel.there))))
          exact .refl
        rintro e H2 ⟨rfl, S2⟩
        refine ⟨rfl, S2.to ?_⟩
        iterate 17 (apply Ent.pick; (focus (repeat (first | exact Sel.here | apply Sel.there))))
        exact .refl
      · rintro e H2 ⟨rfl, S2⟩
        refine ⟨rfl, ⟨pend, cm, IntKind.wrap .u64 (ver + 1), mu, wg, rb, wt, wB, wp, wc, rx, rB, rp, rc, dp, dc, DD, [], Wb', Rb'⟩, ⟨G.wg, G.dg, G.rows, G.req, G.sync, G.kw, G.kd, hW', hR'⟩, rfl, rfl, hc, S2.to ?_⟩
        iterate 17 (apply Ent.pick; (focus (repeat (first | exact Sel.here | apply Sel.there))))
        exact .refl
    rcases hr with rfl | ⟨r, rfl, h0⟩
    · refine rest none (some w) rfl G.bW (fun _ => ⟨rfl, fun b hb => by cases hb; exact hu⟩) ?_
      intro H1 S1
      have hM : M2 = [] ∨ (M2 = [((1 : Int), false)] ∧ w.u ≤ 1) := by
        rcases hm with h | ⟨h, _, h1⟩
        · exact .inl h
        · exact .inr ⟨h, by omega⟩
      refine CallsH.mono (wb1 (n := 1) (bb := w.bb) (u := w.u) (c := w.c) (q := w.q) hM (S1.to (m := pt f.bt (btO wt f.be pend (some f.m1) (some f.m2) 0) :: mpB f.m1 [(1, w.bb)] :: mpS f.m2 M2 :: pt f.rt (rtO f.rm ver mu (some ⟨rx, 0, none⟩) rb wg) :: mpB f.rm [] :: pt w.bb (bbO w.q w.c w.u) :: bufS w.q w.c w.Y :: (pt f.be (beO cm f.db f.lim (some ⟨f.bt, 0, none⟩) f.rt) :: txM wt f.db true false wB wp wc g (pt rx (txO f.db false false rp DD.length rc) :: sl ptrC 176 1 rp DD.length rc (rB.map BkI.b) :: bkts rx rB :: pt f.db (dbO dp DD.length dc) :: mpK rb [] :: l))) ?_)) ?_
      · iterate 5 (refine Ent.cons ?_)
        exact Ent.trans bufP_out (Ent.cons (Ent.cons bufP_drop))
      rintro e H2 ⟨rfl, S2⟩
      refine ⟨rfl, S2.to ?_⟩
      iterate 5 (refine Ent.cons ?_)
      exact Ent.trans (bufP_in (b := w)) bufP_none
    · have hm : M2 = [] := by rcases hm with h | ⟨_, h, _⟩; exact h; cases h
      subst hm
      have hrC := G.bR
      refine rest (some w.z) (some ⟨r.bb, r.q, r.c, w.u, w.Y.take w.u ++ r.Y.drop w.u⟩) ⟨Nat.zero_le _, rfl, (fun x hx => by cases (show x ∈ ([] : List KR) from hx)), G.bW.2.2.2⟩ (bufC_take G.bW r hrC.2.2.2) (fun h => by cases h) ?_
      intro H1 S1
      refine CallsH.mono (wb2 (n := 1) (bb := w.bb) (u := w.u) (c := w.c) (q := w.q) (ab := r.bb) (d := r.c) (p := r.q) (X := r.Y) (Y := w.Y) hw5 hu (S1.to (m := pt f.bt (btO wt f.be pend (some f.m1) (some f.m2) 0) :: mpB f.m1 [(1, w.bb)] :: mpS f.m2 [] :: pt f.rt (rtO f.rm ver mu (some ⟨rx, 0, none⟩) rb wg) :: mpB f.rm [(1, r.bb)] :: pt r.bb (bbO r.q r.c 0) :: bufS r.q r.c r.Y :: pt w.bb (bbO w.q w.c w.u) :: bufS w.q w.c w.Y :: (pt f.be (beO cm f.db f.lim (some ⟨f.bt, 0, none⟩) f.rt) :: txM wt f.db true false wB wp wc g (pt rx (txO f.db false false rp DD.length rc) :: sl ptrC 176 1 rp DD.length rc (rB.map BkI.b) :: bkts rx rB :: pt f.db (dbO dp DD.length dc) :: mpK rb [] :: l))) ?_)) ?_
      · iterate 5 (refine Ent.cons ?_)
        refine Ent.trans ent_swp ?_
        have e0 : Ent (bufP (some r) :: bufP (some w) :: (pt f.be (beO cm f.db f.lim (some ⟨f.bt, 0, none⟩) f.rt) :: txM wt f.db true false wB wp wc g (pt rx (txO f.db false false rp DD.length rc) :: sl ptrC 176 1 rp DD.length rc (rB.map BkI.b) :: bkts rx rB :: pt f.db (dbO dp DD.length dc) :: mpK rb [] :: l))) (pt r.bb (bbO r.q r.c r.u) :: bufS r.q r.c r.Y :: bufP (some w) :: (pt f.be (beO cm f.db f.lim (some ⟨f.bt, 0, none⟩) f.rt) :: txM wt f.db true false wB wp wc g (pt rx (txO f.db false false rp DD.length rc) :: sl ptrC 176 1 rp DD.length rc (rB.map BkI.b) :: bkts rx rB :: pt f.db (dbO dp DD.length dc) :: mpK rb [] :: l))) := bufP_out
        rw [h0] at e0
        exact Ent.trans e0 (Ent.cons (Ent.cons bufP_out))
      rintro e H2 ⟨rfl, S2⟩
      refine ⟨rfl, S2.to ?_⟩
      iterate 5 (refine Ent.cons ?_)
      exact Ent.trans (Ent.trans (bufP_in (b := ⟨r.bb, r.q, r.c, w.u, w.Y.take w.u ++ r.Y.drop w.u⟩)) (Ent.cons (bufP_in (b := w.z)))) ent_swp
end
end Go.Proofs.YtkkookljlencgaaGreat
