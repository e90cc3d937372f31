/- What functions of this seat do, each proved by a walk; no condition. -/
import Derived.Test.YtpankppliidaoaaT45
set_option linter.unusedVariables false
set_option linter.unusedSimpArgs false
namespace Go.Proofs.Ytpankppliidaoaa
open Go Go.Den Go.Proofs
theorem mar_len (x : RowR) (h1 : x.kv.k.size ≤ 60) (h2 : x.kv.v.size ≤ 60) : (marR x).length ≤ 1000000 := by
  unfold marR mar
  have a1 := textField_len 1 (kInts x.kv.k)
  have a2 := textField_len 5 (kInts x.kv.v)
  have b1 := intField_len 2 x.kv.cr
  have b2 := intField_len 3 x.kv.mod
  have b3 := intField_len 4 x.kv.ver
  have b4 := intField_len 6 x.kv.lease
  rw [kInts_len] at a1 a2
  simp only [List.length_append]
  omega
def smallRow (x : RowR) : Prop := x.rev.1 < 9223372036854775808 ∧ x.rev.2 < 9223372036854775808
theorem hasher_ok {compact rev : Int} (hc0 : -1 ≤ compact) (hc1 : compact < 4611686018427387904) (hr0 : 0 ≤ rev) (hr1 : rev < 4611686018427387904) {p q : Option Addr} {c qc : Nat} {ks : List RevR} {l : List RowR} {H : Heap} (hks : ks.length ≤ 100000) (hl : l.length ≤ 100000) (hR : RowsAt revCells 2 H p ks) (hZ : RowsAt RowR.cells 9 H q l) (hg : ∀ x ∈ l, goodRow x ∧ smallRow x) :
    CallsH Try.prog 27 ⟨[.int .i64 compact, .int .i64 rev, .slice p ks.length c, .slice q l.length qc]⟩ H (Gives (.int .u32 (hashOf compact rev ks l)) H) := by
  refine F27.calls ?_
  unfold F27.go
  refine call_of (revsIn_ok p ks.length c ks rfl hks H hR) ?_
  rintro e H1 ⟨p1, c1, rfl, E1, hR1⟩
  (repeat (first | (refine Step.go ?_; intros) | refine iteB_t (by decide) ?_ | refine iteB_f (by decide) ?_ | (refine Duo.mk (by first | omega | exact rfl | decide) ?_; intros) | (refine Duo.mk (Clo.mk (by kernel_rfl)) ?_; intros)))
  refine call_of (rowsIn_ok q l.length qc l rfl hl (fun x hx => by have := (hg x hx).1; exact ⟨by have := this.2.2.1; omega, by have := this.2.2.2; omega⟩) H1 (hZ.ext E1)) ?_
  rintro e H2 ⟨q1, qc1, zl, rfl, E2, hZ2, hzl, hkv⟩
  have hzn : zl.length = l.length := by have := congrArg List.length hzl; simpa using this
  have hm : ∀ y ∈ zl, goodRow y.1 ∧ smallRow y.1 := fun y hy => hg y.1 (by rw [← hzl]; exact List.mem_map_of_mem hy)
  (repeat (first | (refine Step.go ?_; intros) | refine iteB_t (by decide) ?_ | refine iteB_f (by decide) ?_ | (refine Duo.mk (by first | omega | exact rfl | decide) ?_; intros) | (refine Duo.mk (Clo.mk (by kernel_rfl)) ?_; intros)))
  rw [← hzn]
  refine gives_i (Sat.start H2) (zzHash_ok hc0 hc1 hr0 hr1 hks (by omega) (hR1.ext E2) hZ2 hkv (fun y hy => by have := (hm y hy).1; exact ⟨by have := this.2.2.1; omega, by have := this.2.2.2; omega⟩) (fun y hy => by
    obtain ⟨g, s⟩ := hm y hy
    exact ⟨by have := g.1; omega, s.1, g.2.1, s.2, mar_len y.1 g.2.2.1 g.2.2.2⟩)) ?_
  intro H3 E3 _
  (repeat (first | (refine Step.go ?_; intros) | refine iteB_t (by decide) ?_ | refine iteB_f (by decide) ?_ | (refine Duo.mk (by first | omega | exact rfl | decide) ?_; intros) | (refine Duo.mk (Clo.mk (by kernel_rfl)) ?_; intros)))
  rw [hzl]
  exact ⟨rfl, (E1.trans E2).trans E3⟩
def twoRow : RowR := ⟨(2, 0), false, ⟨ByteArray.mk #[107], ByteArray.mk #[118], 2, 2, 1, 0⟩⟩
theorem two_ne : (hashOf (-1) 9 [] [twoRow] != hashOf (-1) 9 [] []) = true := by kernel_rfl
theorem two_ok (H : Heap) : CallsH Try.prog 25 ⟨[]⟩ H (Gives (.bool true) H) := by
  refine F25.calls ?_
  unfold F25.go
  have S := Sat.start H
  refine Step.go ?_
  intro r H1 S1
  have E1 : ExtH H H1 := Sat.grown
  refine gives_i S1 (hasher_ok (ks := []) (l := [twoRow]) (p := none) (q := some ⟨r, 0, none⟩) (by omega) (by omega) (by omega) (by omega) (by simp) (by simp) (.inl rfl) (RowsAt.of_block S1.obj (by
    intro i x hi j v hj
    have := flat_at (f := RowR.cells) (z := 9) (xs := [twoRow]) (fun _ _ => rfl) hi hj
    exact this)) (by
    intro x hx
    simp at hx
    subst hx
    exact ⟨⟨by decide, by decide, by decide, by decide⟩, by decide, by decide⟩)) ?_
  intro H2 E2 S2
  (repeat (first | (refine Step.go ?_; intros) | refine iteB_t (by decide) ?_ | refine iteB_f (by decide) ?_ | (refine Duo.mk (by first | omega | exact rfl | decide) ?_; intros) | (refine Duo.mk (Clo.mk (by kernel_rfl)) ?_; intros)))
  refine gives_i S2 (hasher_ok (ks := []) (l := []) (p := none) (q := none) (by omega) (by omega) (by omega) (by omega) (by simp) (by simp) (.inl rfl) (.inl rfl) (by simp)) ?_
  intro H3 E3 S3
  (repeat (first | (refine Step.go ?_; intros) | refine iteB_t (by decide) ?_ | refine iteB_f (by decide) ?_ | (refine Duo.mk (by first | omega | exact rfl | decide) ?_; intros) | (refine Duo.mk (Clo.mk (by kernel_rfl)) ?_; intros)))
  rw [two_ne]
  exact ⟨rfl, (E1.trans E2).trans E3⟩
theorem hash_filter (compact rev : Int) (ks : List RevR) (l : List RowR) : hashOf compact rev ks (l.filter (countsB compact rev ks)) = hashOf compact rev ks l := by
  unfold hashOf
  rw [List.filter_filter]
  congr 2
  funext x
  simp
section
variable {H0 : Heap} {compact rev : Int} {p q : Option Addr} {c qc : Nat} {ks : List RevR} {l : List RowR} [R0 : RowsC H0 p revCells 2 ks] [R1 : RowsC H0 q RowR.cells 9 l]
theorem law_loop (hc0 : -1 ≤ compact) (hc1 : compact < 4611686018427387904) (hr0 : 0 ≤ rev) (hr1 : rev < 4611686018427387904) (hks : ks.length ≤ 200) (hl : l.length ≤ 200) (hg : ∀ x ∈ l, goodRow x ∧ smallRow x) :
    ∀ (d i : Nat) (s : Option Addr) (sn sc : Nat) (H : Heap), i + d = l.length → Sat H (sl RowR.cells 61 9 s sn sc ((l.take i).filter (countsB compact rev ks)) :: old H0 :: []) →
      F8.L1 compact rev p ks.length c q l.length qc s sn sc q l.length qc (l.length : Int) (i : Int) H (Gives (.bool true) H0) := by
  intro d
  induction d with
  | zero =>
    intro i s sn sc H hi S
    refine F8.L1_step ?_
    unfold F8.L1n
    refine iteB_f (by simp; omega) ?_
    rw [List.take_of_length_le (by omega)] at S
    have E0 : ExtH H0 H := Sat.grown
    have hn := (S.slLen (List.mem_cons_self ..)).1
    subst hn
    refine gives_i S (hasher_ok hc0 hc1 hr0 hr1 (by omega) (by omega) (R0.out.ext E0) (R1.out.ext E0) hg) ?_
    intro H1 E1 S1
    (repeat (first | (refine Step.go ?_; intros) | refine iteB_t (by decide) ?_ | refine iteB_f (by decide) ?_ | (refine Duo.mk (by first | omega | exact rfl | decide) ?_; intros) | (refine Duo.mk (Clo.mk (by kernel_rfl)) ?_; intros)))
    refine gives_i S1 (hasher_ok hc0 hc1 hr0 hr1 (by omega) (by have := List.length_filter_le (countsB compact rev ks) l; omega) (R0.out.ext (E0.trans E1)) (S1.rowsAt (List.mem_cons_self ..)) (fun x hx => hg x (List.mem_filter.1 hx).1)) ?_
    intro H2 E2 S2
    (repeat (first | (refine Step.go ?_; intros) | refine iteB_t (by decide) ?_ | refine iteB_f (by decide) ?_ | (refine Duo.mk (by first | omega | exact rfl | decide) ?_; intros) | (refine Duo.mk (Clo.mk (by kernel_rfl)) ?_; intros)))
    rw [hash_filter]
    refine iteB_t (by simp) ?_
    refine gives_i S2 (two_ok H2) ?_
    intro H3 E3 S3
    (repeat (first | (refine Step.go ?_; intros) | refine iteB_t (by decide) ?_ | refine iteB_f (by decide) ?_ | (refine Duo.mk (by first | omega | exact rfl | decide) ?_; intros) | (refine Duo.mk (Clo.mk (by kernel_rfl)) ?_; intros)))
    exact ⟨rfl, Sat.grown⟩
  | succ d ih =>
    intro i s sn sc H hi S
    obtain ⟨x, hx⟩ := get_of (l := l) (i := i) (by omega)
    have X := HasI.nat hx
    have hn := (S.slLen (List.mem_cons_self ..)).1
    have hle := List.length_filter_le (countsB compact rev ks) (l.take i)
    have hlt : (l.take i).length ≤ i := List.length_take_le ..
    have et : (l.take (i + 1)).filter (countsB compact rev ks) = (l.take i).filter (countsB compact rev ks) ++ if countsB compact rev ks x then [x] else [] := by
      rw [List.take_add_one, hx]
      simp only [Option.toList_some, List.filter_append, List.filter_cons]
      cases countsB compact rev ks x <;> simp
    refine F8.L1_step ?_
    unfold F8.L1n
    refine iteB_t (by simp; omega) ?_
    refine R1.idx rfl ⟨by omega, by omega, ?_⟩
    rintro ad rfl
    (repeat (first | (refine Step.go ?_; intros) | refine iteB_t (by decide) ?_ | refine iteB_f (by decide) ?_ | (refine Duo.mk (by first | omega | exact rfl | decide) ?_; intros) | (refine Duo.mk (Clo.mk (by kernel_rfl)) ?_; intros)))
    rename_i r H1 S1 H2 S2 H3 S3 H4 S4 H5 S5 H6 S6 H7 S7 H8 S8 H9 S9 H10 S10
    have E0 : ExtH H0 H10 := Sat.grown
    have R0' : RowsC H10 p revCells 2 ks := ⟨R0.out.ext E0⟩
    refine gives_i S10 (counts_ok (x := x) (by omega)) ?_
    intro H11 E11 S11
    (repeat (first | (refine Step.go ?_; intros) | refine iteB_t (by decide) ?_ | refine iteB_f (by decide) ?_ | (refine Duo.mk (by first | omega | exact rfl | decide) ?_; intros) | (refine Duo.mk (Clo.mk (by kernel_rfl)) ?_; intros)))
    refine iteB_i (fun h => ?_) (fun h => ?_)
    · (repeat (first | (refine Step.go ?_; intros) | refine iteB_t (by decide) ?_ | refine iteB_f (by decide) ?_ | (refine Duo.mk (by first | omega | exact rfl | decide) ?_; intros) | (refine Duo.mk (Clo.mk (by kernel_rfl)) ?_; intros)))
      refine F8.L2_step ?_
      unfold F8.L2n
      rw [wrap64_small (by omega) (by omega)]
      refine ih (i + 1) _ _ _ _ (by omega) ?_
      rw [et, h, if_pos rfl]
      exact Sat.fin
    · refine F8.L2_step ?_
      unfold F8.L2n
      rw [wrap64_small (by omega) (by omega)]
      refine ih (i + 1) _ _ _ _ (by omega) ?_
      rw [et, h, if_neg (by simp), List.append_nil]
      exact Sat.fin
theorem law8 (hsm : ∀ x ∈ l, smallRow x) : CallsH Try.prog 8 ⟨[.int .i64 compact, .int .i64 rev, .slice p ks.length c, .slice q l.length qc]⟩ H0 (Gives (.bool true) H0) := by
  refine F8.calls ?_
  unfold F8.go
  have S := Sat.start H0
  refine iteB_i (fun h => ⟨rfl, .refl _⟩) (fun hk => ?_)
  simp at hk
  refine tells_i S (F23.calls (R := Tells H0) ?_) ?_
  · unfold F23.go
    refine iteB_i (fun h => ⟨⟨_, rfl⟩, .refl _⟩) (fun h => ?_)
    simp at h
    exact fits_loop (by omega) l.length 0 H0 (by omega) S
  intro b H1 E1 S1
  (repeat (first | (refine Step.go ?_; intros) | refine iteB_t (by decide) ?_ | refine iteB_f (by decide) ?_ | (refine Duo.mk (by first | omega | exact rfl | decide) ?_; intros) | (refine Duo.mk (Clo.mk (by kernel_rfl)) ?_; intros)))
  refine iteB_i (fun h => ⟨rfl, E1⟩) (fun h => ?_)
  refine F8.L0_step ?_
  unfold F8.L0n
  have R0' : RowsC H1 p revCells 2 ks := ⟨R0.out.ext E1⟩
  have R1' : RowsC H1 q RowR.cells 9 l := ⟨R1.out.ext E1⟩
  refine call_of (S := TellsIf H1 ((-1 ≤ compact ∧ compact < 4611686018427387904 ∧ 0 ≤ rev ∧ rev < 4611686018427387904 ∧ ks.length ≤ 200) ∧ l.length ≤ 200 ∧ ∀ x ∈ l, goodRow x)) (F24.calls ?_) ?_
  · unfold F24.go
    refine call_of (good_ok (l := l)) ?_
    rintro e H2 ⟨b, rfl, hb, E2⟩
    have S2 := (Sat.start H1).ext E2
    (repeat (first | (refine Step.go ?_; intros) | refine iteB_t (by decide) ?_ | refine iteB_f (by decide) ?_ | (refine Duo.mk (by first | omega | exact rfl | decide) ?_; intros) | (refine Duo.mk (Clo.mk (by kernel_rfl)) ?_; intros)))
    refine iteB_i (fun h1 => ?_) (fun h => no_if)
    refine iteB_i (fun h2 => ?_) (fun h => no_if)
    refine iteB_i (fun h3 => ?_) (fun h => no_if)
    refine iteB_i (fun h4 => ?_) (fun h => no_if)
    refine iteB_i (fun h5 => ?_) (fun h => no_if)
    simp at h2 h3 h4 h5
    refine ⟨_, rfl, fun h6 => ⟨⟨h2, h5, h3, h4, ?_⟩, hb h1⟩, E2⟩
    simp at h6; omega
  rintro e H2 ⟨b, rfl, hb, E2⟩
  have S2 := S1.ext E2
  (repeat (first | (refine Step.go ?_; intros) | refine iteB_t (by decide) ?_ | refine iteB_f (by decide) ?_ | (refine Duo.mk (by first | omega | exact rfl | decide) ?_; intros) | (refine Duo.mk (Clo.mk (by kernel_rfl)) ?_; intros)))
  refine iteB_i (fun h => ?_) (fun h => ?_)
  · refine gives_i S2 (two_ok H2) ?_
    intro H3 E3 S3
    (repeat (first | (refine Step.go ?_; intros) | refine iteB_t (by decide) ?_ | refine iteB_f (by decide) ?_ | (refine Duo.mk (by first | omega | exact rfl | decide) ?_; intros) | (refine Duo.mk (Clo.mk (by kernel_rfl)) ?_; intros)))
    exact ⟨rfl, Sat.grown⟩
  · obtain ⟨⟨h1, h2, h3, h4, h5⟩, h6, h7⟩ := hb (by simpa using h)
    exact law_loop h1 h2 h3 h4 h5 h6 (fun x hx => ⟨h7 x hx, hsm x hx⟩) l.length 0 none 0 0 H2 (by omega) (S2.to (.slNil .refl))
end
end Go.Proofs.Ytpankppliidaoaa
