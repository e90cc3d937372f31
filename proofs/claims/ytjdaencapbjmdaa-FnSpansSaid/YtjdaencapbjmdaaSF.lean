/- What functions of this seat do, each proved by a walk; no condition. -/
import Derived.Test.YtjdaencapbjmdaaSE
set_option linter.unusedVariables false
set_option linter.unusedSimpArgs false
set_option linter.unnecessarySimpa false
namespace Go.Proofs.Ytjdaencapbjmdaa
open Go Go.Den Go.Proofs
/-! Intervals made of spans. -/
theorem Sat.later {H H1 : Heap} {l : List HP} (S : Sat H l) (e : ExtH H H1) : Sat H1 l := by
  have h := Sat.onto (m := []) ((Sat.start H1).to (fun k x => by
    obtain ⟨g, a, b, c⟩ := x
    exact ⟨g, fun i o h => a i o (e.block_some h), b, c⟩)) S
  rwa [List.nil_append] at h
section
variable {H : Heap}
theorem mkAff (b e : ByteArray) : CallsH Try.prog 21 ⟨[.string b, .string e]⟩ H (Gives (.agg ⟨[.iface 83 (.string b), .iface 83 (.string e)]⟩) H) := by
  have S := Sat.start H
  refine F21.calls ?_
  unfold F21.go
  (repeat (first | (refine Step.go ?_; intros) | refine iteB_t (by decide) ?_ | refine iteB_f (by decide) ?_ | (refine Duo.mk (by first | omega | exact rfl | decide) ?_; intros) | (refine Duo.mk (Clo.mk (by kernel_rfl)) ?_; intros)))
  exact ⟨rfl, Sat.grown⟩
theorem mkAffP {b : ByteArray} (hb : b.size ≤ 2147483647) : CallsH Try.prog 20 ⟨[.string b]⟩ H (Gives (.agg ⟨[.iface 83 (.string b), .iface 83 (.string (b ++ ⟨#[0]⟩))]⟩) H) := by
  have S := Sat.start H
  refine F20.calls ?_
  unfold F20.go
  (repeat (first | (refine Step.go ?_; intros) | refine iteB_t (by decide) ?_ | refine iteB_f (by decide) ?_ | (refine Duo.mk (by first | omega | exact rfl | decide) ?_; intros) | (refine Duo.mk (Clo.mk (by kernel_rfl)) ?_; intros)))
  rename_i r H1 S1
  refine ⟨by show ((b.size + 1 : Nat) : Int) ≤ 9223372036854775807; omega, ?_⟩
  refine gives_i S1 (mkAff _ _) ?_
  intro H2 E2 S2
  (repeat (first | (refine Step.go ?_; intros) | refine iteB_t (by decide) ?_ | refine iteB_f (by decide) ?_ | (refine Duo.mk (by first | omega | exact rfl | decide) ?_; intros) | (refine Duo.mk (Clo.mk (by kernel_rfl)) ?_; intros)))
  exact ⟨rfl, Sat.grown⟩
theorem mkStr (b e : ByteArray) : CallsH Try.prog 27 ⟨[.string b, .string e]⟩ H (Gives (.agg ⟨[.iface 86 (.string b), .iface 86 (.string e)]⟩) H) := by
  have S := Sat.start H
  refine F27.calls ?_
  unfold F27.go
  (repeat (first | (refine Step.go ?_; intros) | refine iteB_t (by decide) ?_ | refine iteB_f (by decide) ?_ | (refine Duo.mk (by first | omega | exact rfl | decide) ?_; intros) | (refine Duo.mk (Clo.mk (by kernel_rfl)) ?_; intros)))
  exact ⟨rfl, Sat.grown⟩
theorem mkStrP {b : ByteArray} (hb : b.size ≤ 2147483647) : CallsH Try.prog 26 ⟨[.string b]⟩ H (Gives (.agg ⟨[.iface 86 (.string b), .iface 86 (.string (b ++ ⟨#[0]⟩))]⟩) H) := by
  have S := Sat.start H
  refine F26.calls ?_
  unfold F26.go
  (repeat (first | (refine Step.go ?_; intros) | refine iteB_t (by decide) ?_ | refine iteB_f (by decide) ?_ | (refine Duo.mk (by first | omega | exact rfl | decide) ?_; intros) | (refine Duo.mk (Clo.mk (by kernel_rfl)) ?_; intros)))
  rename_i r H1 S1
  refine ⟨by show ((b.size + 1 : Nat) : Int) ≤ 9223372036854775807; omega, ?_⟩
  (repeat (first | (refine Step.go ?_; intros) | refine iteB_t (by decide) ?_ | refine iteB_f (by decide) ?_ | (refine Duo.mk (by first | omega | exact rfl | decide) ?_; intros) | (refine Duo.mk (Clo.mk (by kernel_rfl)) ?_; intros)))
  exact ⟨rfl, Sat.grown⟩
theorem mkNum (a b : Int) : CallsH Try.prog 25 ⟨[.int .i64 a, .int .i64 b]⟩ H (Gives (.agg ⟨[.iface 85 (.int .i64 a), .iface 85 (.int .i64 b)]⟩) H) := by
  have S := Sat.start H
  refine F25.calls ?_
  unfold F25.go
  (repeat (first | (refine Step.go ?_; intros) | refine iteB_t (by decide) ?_ | refine iteB_f (by decide) ?_ | (refine Duo.mk (by first | omega | exact rfl | decide) ?_; intros) | (refine Duo.mk (Clo.mk (by kernel_rfl)) ?_; intros)))
  exact ⟨rfl, Sat.grown⟩
theorem mkByt (p q : Option Addr) (n c m d : Nat) : CallsH Try.prog 23 ⟨[.slice p n c, .slice q m d]⟩ H (Gives (.agg ⟨[.iface 84 (.slice p n c), .iface 84 (.slice q m d)]⟩) H) := by
  have S := Sat.start H
  refine F23.calls ?_
  unfold F23.go
  (repeat (first | (refine Step.go ?_; intros) | refine iteB_t (by decide) ?_ | refine iteB_f (by decide) ?_ | (refine Duo.mk (by first | omega | exact rfl | decide) ?_; intros) | (refine Duo.mk (Clo.mk (by kernel_rfl)) ?_; intros)))
  exact ⟨rfl, Sat.grown⟩
theorem bytesOf_append (a b : List UInt8) : bytesOf (a ++ b) = bytesOf a ++ bytesOf b := by simp [bytesOf]
theorem mkBytP {p : Option Addr} {n c : Nat} {b : ByteArray} (hb : b.size ≤ 2147483647) (hn : b.size = n) (h : cellsAt H p (bytesOf b.data.toList)) : CallsH Try.prog 22 ⟨[.slice p n c]⟩ H (fun e H1 => ∃ r : Nat, e = .returned (.agg ⟨[.iface 84 (.slice p n c), .iface 84 (.slice (some ⟨r, 0, none⟩) (n + 1) (n + 1))]⟩) ∧ Sat H1 ([pt r (.cells ⟨bytesOf (b ++ ⟨#[0]⟩).data.toList ++ []⟩ 5)] ++ [old H])) := by
  have S := Sat.start H
  have hbl : (bytesOf b.data.toList).length = n := by rw [← hn]; simp [bytesOf]
  refine F22.calls ?_
  unfold F22.go
  have w : IntKind.wrap .i64 ((n : Int) + 1) = ((n + 1 : Nat) : Int) := by rw [wr (by omega) (by omega)]; omega
  rw [w]
  (repeat (first | (refine Step.go ?_; intros) | refine iteB_t (by decide) ?_ | refine iteB_f (by decide) ?_ | (refine Duo.mk (by first | omega | exact rfl | decide) ?_; intros) | (refine Duo.mk (Clo.mk (by kernel_rfl)) ?_; intros)))
  rename_i r1 H2 S2
  rw [Int.toNat_natCast (n + 1)] at *
  have E2 : ExtH H H2 := Sat.grown
  refine ⟨bytesOf b.data.toList, by rw [hbl]; show n = (Nat.min n (n + 1)) * 1; rw [Nat.mul_one]; exact (Nat.min_eq_left (by omega)).symm, cellsAt_ext h E2, ?_⟩
  unfold stP
  dsimp only
  have hrep : (repZ [Value.int .u8 0] (n + 1)).length = n + 1 := by rw [repZ_length]; simp
  rw [add_mk]
  refine stCs_front (o := 0) (bytesOf b.data.toList) 0 H2 _ S2 (fun v hv => ?_) (by rw [hrep, hbl]; omega) ?_
  · simp only [bytesOf, List.mem_map] at hv
    obtain ⟨x, _, rfl⟩ := hv
    rfl
  intro H3 S3
  simp only [Nat.add_zero, List.take_zero, List.nil_append, Nat.zero_add, hbl] at S3
  have hdl : ((repZ [Value.int .u8 0] (n + 1)).drop n).length = 1 := by rw [List.length_drop, hrep]; omega
  obtain ⟨u, hu⟩ : ∃ u, (repZ [Value.int .u8 0] (n + 1)).drop n = [u] := by
    match h9 : (repZ [Value.int .u8 0] (n + 1)).drop n, hdl with
    | [u], _ => exact ⟨u, rfl⟩
  rw [hu] at S3
  refine ⟨by omega, by omega, ?_⟩
  refine nilD_i ?_
  have ea : (Addr.add ⟨r1, 0, none⟩ (Int.toNat (n : Int) * 1)) = ⟨r1, n, none⟩ := by rw [add_mk]; simp
  rw [ea]
  refine st1_of (S3.at_ (List.mem_cons_self ..)) (u := u) (by rw [List.getElem?_append_right (by omega), hbl, Nat.sub_self]; rfl) rfl ?_
  intro H4 u4
  have S4 := S3.upd u4
  have e4 : (bytesOf b.data.toList ++ [u]).set n (.int .u8 0) = bytesOf (b ++ ⟨#[0]⟩).data.toList ++ [] := by
    rw [List.set_append_right _ _ (by omega), hbl, Nat.sub_self, List.append_nil]
    have : (b ++ (⟨#[0]⟩ : ByteArray)).data.toList = b.data.toList ++ [0] := by simp
    rw [this, bytesOf_append]
    rfl
  rw [e4] at S4
  refine gives_i S4 (mkByt _ _ _ _ _ _) ?_
  intro H5 E5 S5
  (repeat (first | (refine Step.go ?_; intros) | refine iteB_t (by decide) ?_ | refine iteB_f (by decide) ?_ | (refine Duo.mk (by first | omega | exact rfl | decide) ?_; intros) | (refine Duo.mk (Clo.mk (by kernel_rfl)) ?_; intros)))
  rename_i H6 S6
  exact ⟨r1, rfl, S6.to (m := [pt r1 (.cells ⟨bytesOf (b ++ ⟨#[0]⟩).data.toList ++ []⟩ 5), old H]) Fits.out⟩
abbrev NumOk (o : Int) (s : SP) : Prop := o = 3 → s.p = false ∧ near s.f ∧ near s.t
theorem spanIn_ok {o : Int} {s : SP} (ho : 0 ≤ o ∧ o ≤ 3) (hz : Sz s) (hnum : NumOk o s) : CallsH Try.prog 13 ⟨[.int .i64 o, .agg ⟨s.cells⟩]⟩ H (fun e H1 => ExtH H H1 ∧ ∃ i j : IV, e = .returned (.agg ⟨[i.v, j.v]⟩) ∧ IsE H1 o i s.B ∧ IsE H1 o j s.E) := by
  have S := Sat.start H
  have hz1 := hz.1
  have hz2 := hz.2
  refine F13.calls ?_
  unfold F13.go
  (repeat (first | (refine Step.go ?_; intros) | refine iteB_t (by decide) ?_ | refine iteB_f (by decide) ?_ | (refine Duo.mk (by first | omega | exact rfl | decide) ?_; intros) | (refine Duo.mk (Clo.mk (by kernel_rfl)) ?_; intros)))
  rename_i r H1 S1 r1 H2 S2
  have hp1 : s.p = true → s.end_ = s.b ++ ⟨#[0]⟩ := fun h => by unfold SP.end_; rw [h]; rfl
  have hp0 : s.p = false → s.end_ = s.e := fun h => by unfold SP.end_; rw [h]; rfl
  refine iteB_i (fun h => ?_) (fun h1 => ?_)
  · obtain rfl := eq_of_beq h
    (repeat (first | (refine Step.go ?_; intros) | refine iteB_t (by decide) ?_ | refine iteB_f (by decide) ?_ | (refine Duo.mk (by first | omega | exact rfl | decide) ?_; intros) | (refine Duo.mk (Clo.mk (by kernel_rfl)) ?_; intros)))
    refine iteB_i (fun hp => ?_) (fun hp => ?_)
    · (repeat (first | (refine Step.go ?_; intros) | refine iteB_t (by decide) ?_ | refine iteB_f (by decide) ?_ | (refine Duo.mk (by first | omega | exact rfl | decide) ?_; intros) | (refine Duo.mk (Clo.mk (by kernel_rfl)) ?_; intros)))
      refine gives_i S2 (mkAffP hz1) ?_
      intro H3 E3 S3
      (repeat (first | (refine Step.go ?_; intros) | refine iteB_t (by decide) ?_ | refine iteB_f (by decide) ?_ | (refine Duo.mk (by first | omega | exact rfl | decide) ?_; intros) | (refine Duo.mk (Clo.mk (by kernel_rfl)) ?_; intros)))
      refine ⟨Sat.grown, .mk 83 (.string s.b), .mk 83 (.string (s.b ++ ⟨#[0]⟩)), rfl, IsE.aff (x := s.B), ?_⟩
      rw [← hp1 hp]; exact IsE.aff (x := s.E)
    · (repeat (first | (refine Step.go ?_; intros) | refine iteB_t (by decide) ?_ | refine iteB_f (by decide) ?_ | (refine Duo.mk (by first | omega | exact rfl | decide) ?_; intros) | (refine Duo.mk (Clo.mk (by kernel_rfl)) ?_; intros)))
      refine gives_i S2 (mkAff _ _) ?_
      intro H3 E3 S3
      (repeat (first | (refine Step.go ?_; intros) | refine iteB_t (by decide) ?_ | refine iteB_f (by decide) ?_ | (refine Duo.mk (by first | omega | exact rfl | decide) ?_; intros) | (refine Duo.mk (Clo.mk (by kernel_rfl)) ?_; intros)))
      refine ⟨Sat.grown, .mk 83 (.string s.b), .mk 83 (.string s.e), rfl, IsE.aff (x := s.B), ?_⟩
      rw [← hp0 hp]; exact IsE.aff (x := s.E)
  have h1 : ¬ o = 1 := by simpa using h1
  refine iteB_i (fun h => ?_) (fun h2 => ?_)
  · obtain rfl := eq_of_beq h
    (repeat (first | (refine Step.go ?_; intros) | refine iteB_t (by decide) ?_ | refine iteB_f (by decide) ?_ | (refine Duo.mk (by first | omega | exact rfl | decide) ?_; intros) | (refine Duo.mk (Clo.mk (by kernel_rfl)) ?_; intros)))
    refine iteB_i (fun hp => ?_) (fun hp => ?_)
    · (repeat (first | (refine Step.go ?_; intros) | refine iteB_t (by decide) ?_ | refine iteB_f (by decide) ?_ | (refine Duo.mk (by first | omega | exact rfl | decide) ?_; intros) | (refine Duo.mk (Clo.mk (by kernel_rfl)) ?_; intros)))
      rename_i r3 c3 H3 _ S3
      refine grow_i S3 (mkBytP (b := s.b) hz1 rfl (cellsAt_block (S3.at_ (List.mem_cons_self ..)))) ?_
      rintro r4 H4 E4 S4
      simp only [List.cons_append, List.nil_append] at S4
      (repeat (first | (refine Step.go ?_; intros) | refine iteB_t (by decide) ?_ | refine iteB_f (by decide) ?_ | (refine Duo.mk (by first | omega | exact rfl | decide) ?_; intros) | (refine Duo.mk (Clo.mk (by kernel_rfl)) ?_; intros)))
      rename_i H5 S5 H6 S6
      refine ⟨Sat.grown, .mk 84 (.slice (some ⟨r3, 0, none⟩) s.b.size c3), .mk 84 (.slice (some ⟨r4, 0, none⟩) (s.b.size + 1) (s.b.size + 1)), rfl, IsE.byt (x := s.B) rfl (cellsAt_block S6.obj), ?_⟩
      have he := hp1 hp
      refine IsE.byt (x := s.E) (by show s.end_.size = _; rw [he, cat_size]) ?_
      show cellsAt H6 _ (bytesOf s.end_.data.toList)
      rw [he]
      exact cellsAt_block (s := s.b ++ ⟨#[0]⟩) (rest := []) (S6.at_ (List.mem_cons_self ..))
    · (repeat (first | (refine Step.go ?_; intros) | refine iteB_t (by decide) ?_ | refine iteB_f (by decide) ?_ | (refine Duo.mk (by first | omega | exact rfl | decide) ?_; intros) | (refine Duo.mk (Clo.mk (by kernel_rfl)) ?_; intros)))
      rename_i r3 c3 H3 _ S3 r4 c4 H4 _ S4
      refine gives_i S4 (mkByt _ _ _ _ _ _) ?_
      intro H5 E5 S5
      (repeat (first | (refine Step.go ?_; intros) | refine iteB_t (by decide) ?_ | refine iteB_f (by decide) ?_ | (refine Duo.mk (by first | omega | exact rfl | decide) ?_; intros) | (refine Duo.mk (Clo.mk (by kernel_rfl)) ?_; intros)))
      rename_i H6 S6 H7 S7
      refine ⟨Sat.grown, .mk 84 (.slice (some ⟨r3, 0, none⟩) s.b.size c3), .mk 84 (.slice (some ⟨r4, 0, none⟩) s.e.size c4), rfl, IsE.byt (x := s.B) rfl (cellsAt_block S7.obj), ?_⟩
      have he := hp0 hp
      refine IsE.byt (x := s.E) (by show s.end_.size = _; rw [he]) ?_
      show cellsAt H7 _ (bytesOf s.end_.data.toList)
      rw [he]
      exact cellsAt_block S7.obj
  have h2 : ¬ o = 2 := by simpa using h2
  refine iteB_i (fun h => ?_) (fun h3 => ?_)
  · obtain rfl := eq_of_beq h
    obtain ⟨hp, n1, n2⟩ := hnum rfl
    (repeat (first | (refine Step.go ?_; intros) | refine iteB_t (by decide) ?_ | refine iteB_f (by decide) ?_ | (refine Duo.mk (by first | omega | exact rfl | decide) ?_; intros) | (refine Duo.mk (Clo.mk (by kernel_rfl)) ?_; intros)))
    refine iteB_f hp ?_
    (repeat (first | (refine Step.go ?_; intros) | refine iteB_t (by decide) ?_ | refine iteB_f (by decide) ?_ | (refine Duo.mk (by first | omega | exact rfl | decide) ?_; intros) | (refine Duo.mk (Clo.mk (by kernel_rfl)) ?_; intros)))
    refine gives_i S2 (mkNum _ _) ?_
    intro H3 E3 S3
    (repeat (first | (refine Step.go ?_; intros) | refine iteB_t (by decide) ?_ | refine iteB_f (by decide) ?_ | (refine Duo.mk (by first | omega | exact rfl | decide) ?_; intros) | (refine Duo.mk (Clo.mk (by kernel_rfl)) ?_; intros)))
    exact ⟨Sat.grown, .mk 85 (.int .i64 s.f), .mk 85 (.int .i64 s.t), rfl, IsE.num (x := s.B) n1, IsE.num (x := s.E) n2⟩
  have h3 : ¬ o = 3 := by simpa using h3
  obtain rfl : o = 0 := by omega
  (repeat (first | (refine Step.go ?_; intros) | refine iteB_t (by decide) ?_ | refine iteB_f (by decide) ?_ | (refine Duo.mk (by first | omega | exact rfl | decide) ?_; intros) | (refine Duo.mk (Clo.mk (by kernel_rfl)) ?_; intros)))
  refine iteB_i (fun hp => ?_) (fun hp => ?_)
  · (repeat (first | (refine Step.go ?_; intros) | refine iteB_t (by decide) ?_ | refine iteB_f (by decide) ?_ | (refine Duo.mk (by first | omega | exact rfl | decide) ?_; intros) | (refine Duo.mk (Clo.mk (by kernel_rfl)) ?_; intros)))
    refine gives_i S2 (mkStrP hz1) ?_
    intro H3 E3 S3
    (repeat (first | (refine Step.go ?_; intros) | refine iteB_t (by decide) ?_ | refine iteB_f (by decide) ?_ | (refine Duo.mk (by first | omega | exact rfl | decide) ?_; intros) | (refine Duo.mk (Clo.mk (by kernel_rfl)) ?_; intros)))
    refine ⟨Sat.grown, .mk 86 (.string s.b), .mk 86 (.string (s.b ++ ⟨#[0]⟩)), rfl, IsE.str (x := s.B), ?_⟩
    rw [← hp1 hp]; exact IsE.str (x := s.E)
  · (repeat (first | (refine Step.go ?_; intros) | refine iteB_t (by decide) ?_ | refine iteB_f (by decide) ?_ | (refine Duo.mk (by first | omega | exact rfl | decide) ?_; intros) | (refine Duo.mk (Clo.mk (by kernel_rfl)) ?_; intros)))
    refine gives_i S2 (mkStr _ _) ?_
    intro H3 E3 S3
    (repeat (first | (refine Step.go ?_; intros) | refine iteB_t (by decide) ?_ | refine iteB_f (by decide) ?_ | (refine Duo.mk (by first | omega | exact rfl | decide) ?_; intros) | (refine Duo.mk (Clo.mk (by kernel_rfl)) ?_; intros)))
    refine ⟨Sat.grown, .mk 86 (.string s.b), .mk 86 (.string s.e), rfl, IsE.str (x := s.B), ?_⟩
    rw [← hp0 hp]; exact IsE.str (x := s.E)
end
end Go.Proofs.Ytjdaencapbjmdaa
