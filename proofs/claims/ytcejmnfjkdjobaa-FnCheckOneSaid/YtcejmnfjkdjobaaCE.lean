/- What functions of this seat do, each proved by a walk; no condition. -/
import Derived.Test.YtcejmnfjkdjobaaCD
set_option linter.unusedVariables false
set_option linter.unusedSimpArgs false
set_option linter.unnecessarySimpa false
namespace Go.Proofs.Ytcejmnfjkdjobaa
open Go Go.Den Go.Proofs
/-! The sorters' methods. -/
theorem bcmp_ok {H : Heap} {p q : Option Addr} {n m c d : Nat} {a b : ByteArray} (h1 : a.size = n) (h2 : b.size = m) (ha : cellsAt H p (bytesOf a.data.toList)) (hb : cellsAt H q (bytesOf b.data.toList)) : CallsH Try.prog 142 ⟨[.slice p n c, .slice q m d]⟩ H (Gives (.int .i64 (Lib.compareBytes a.data.toList b.data.toList)) H) := by
  refine F142.calls ?_
  unfold F142.go
  refine cmpX (fn := Try.f143) (by kernel_rfl) (by kernel_rfl) (by kernel_rfl) (by kernel_rfl) (by kernel_rfl) h1 h2 ha hb ?_
  exact ⟨_, rfl, rfl, ExtH.refl H⟩
def near (i : Int) : Prop := -2305843009213693952 ≤ i ∧ i ≤ 2305843009213693952
def Near (x : KV) : Prop := near x.ver ∧ near x.cr ∧ near x.md
/-- What a sorter leads to. -/
structure SoAt (H : Heap) (tt r1 r : Nat) (q : Option Addr) (n c : Nat) (X : List KM) : Prop where
  top : H[r1]? = some (.cells ⟨[.pointer (some ⟨r, 0, none⟩)]⟩ tt)
  in_ : H[r]? = some (.cells ⟨[.slice q n c]⟩ 173)
  rows : RowsAt KM.cells 1 H q X
  len : X.length = n
  kms : ∀ x ∈ X, KmAt H x
theorem SoAt.ext {H H1 : Heap} {tt r1 r : Nat} {q : Option Addr} {n c : Nat} {X : List KM} (h : SoAt H tt r1 r q n c X) (e : ExtH H H1) : SoAt H1 tt r1 r q n c X :=
  ⟨e.block_some h.top, e.block_some h.in_, h.rows.ext e, h.len, fun x hx => (h.kms x hx).ext e⟩
section
variable {H : Heap} {tt r1 r : Nat} {q : Option Addr} {n c : Nat} {X : List KM} {i j : Nat} {x y : KM}
theorem soLen (h : H[r]? = some (.cells ⟨[.slice q n c]⟩ 173)) : CallsH Try.prog 139 ⟨[.pointer (some ⟨r, 0, none⟩)]⟩ H (Gives (.int .i64 (n : Int)) H) := by
  have S := Sat.start H
  have A := atOld h
  refine F139.calls ?_
  unfold F139.go
  (repeat (first | (refine Step.go ?_; intros) | refine iteB_t (by decide) ?_ | refine iteB_f (by decide) ?_ | (refine Duo.mk (by first | omega | exact rfl | decide) ?_; intros) | (refine Duo.mk (Clo.mk (by kernel_rfl)) ?_; intros)))
  exact ⟨rfl, Sat.grown⟩
theorem lessKey (h : SoAt H tt r1 r q n c X) (hi : X[i]? = some x) (hj : X[j]? = some y) : CallsH Try.prog 140 ⟨[.pointer (some ⟨r1, 0, none⟩), .int .i64 i, .int .i64 j]⟩ H (Gives (.bool (ahead 0 x.kv y.kv)) H) := by
  have S := Sat.start H
  have A1 := atOld h.top
  have A2 := atOld h.in_
  have R0 : RowsC H q KM.cells 1 X := ⟨h.rows⟩
  have kx := h.kms x (List.mem_of_getElem? hi)
  have ky := h.kms y (List.mem_of_getElem? hj)
  have A3 := atOld kx.1
  have A4 := atOld ky.1
  have hil := (List.getElem?_eq_some_iff.1 hi).1
  have hjl := (List.getElem?_eq_some_iff.1 hj).1
  have hl := h.len
  have I1 : HasI X (i : Int) x := ⟨by simpa using hi⟩
  have I2 : HasI X (j : Int) y := ⟨by simpa using hj⟩
  refine F140.calls ?_
  unfold F140.go
  (repeat (first | (refine Step.go ?_; intros) | refine iteB_t (by decide) ?_ | refine iteB_f (by decide) ?_ | (refine Duo.mk (by first | omega | exact rfl | decide) ?_; intros) | (refine Duo.mk (Clo.mk (by kernel_rfl)) ?_; intros)))
  refine R0.idx hl ⟨by omega, by omega, ?_⟩
  rintro a rfl
  (repeat (first | (refine Step.go ?_; intros) | refine iteB_t (by decide) ?_ | refine iteB_f (by decide) ?_ | (refine Duo.mk (by first | omega | exact rfl | decide) ?_; intros) | (refine Duo.mk (Clo.mk (by kernel_rfl)) ?_; intros)))
  refine gives_i S (bcmp_ok (a := x.kv.key) (b := y.kv.key) rfl rfl (cellsAt_block kx.2.1) (cellsAt_block ky.2.1)) ?_
  intro H2 E2 S2
  (repeat (first | (refine Step.go ?_; intros) | refine iteB_t (by decide) ?_ | refine iteB_f (by decide) ?_ | (refine Duo.mk (by first | omega | exact rfl | decide) ?_; intros) | (refine Duo.mk (Clo.mk (by kernel_rfl)) ?_; intros)))
  rw [ltS_cmp]
  exact ⟨rfl, E2⟩
theorem lessVal (h : SoAt H tt r1 r q n c X) (hi : X[i]? = some x) (hj : X[j]? = some y) : CallsH Try.prog 147 ⟨[.pointer (some ⟨r1, 0, none⟩), .int .i64 i, .int .i64 j]⟩ H (Gives (.bool (ahead 4 x.kv y.kv)) H) := by
  have S := Sat.start H
  have A1 := atOld h.top
  have A2 := atOld h.in_
  have R0 : RowsC H q KM.cells 1 X := ⟨h.rows⟩
  have kx := h.kms x (List.mem_of_getElem? hi)
  have ky := h.kms y (List.mem_of_getElem? hj)
  have A3 := atOld kx.1
  have A4 := atOld ky.1
  have hil := (List.getElem?_eq_some_iff.1 hi).1
  have hjl := (List.getElem?_eq_some_iff.1 hj).1
  have hl := h.len
  have I1 : HasI X (i : Int) x := ⟨by simpa using hi⟩
  have I2 : HasI X (j : Int) y := ⟨by simpa using hj⟩
  refine F147.calls ?_
  unfold F147.go
  (repeat (first | (refine Step.go ?_; intros) | refine iteB_t (by decide) ?_ | refine iteB_f (by decide) ?_ | (refine Duo.mk (by first | omega | exact rfl | decide) ?_; intros) | (refine Duo.mk (Clo.mk (by kernel_rfl)) ?_; intros)))
  refine R0.idx hl ⟨by omega, by omega, ?_⟩
  rintro a rfl
  (repeat (first | (refine Step.go ?_; intros) | refine iteB_t (by decide) ?_ | refine iteB_f (by decide) ?_ | (refine Duo.mk (by first | omega | exact rfl | decide) ?_; intros) | (refine Duo.mk (Clo.mk (by kernel_rfl)) ?_; intros)))
  refine gives_i S (bcmp_ok (a := x.kv.val) (b := y.kv.val) rfl rfl (cellsAt_block kx.2.2) (cellsAt_block ky.2.2)) ?_
  intro H2 E2 S2
  (repeat (first | (refine Step.go ?_; intros) | refine iteB_t (by decide) ?_ | refine iteB_f (by decide) ?_ | (refine Duo.mk (by first | omega | exact rfl | decide) ?_; intros) | (refine Duo.mk (Clo.mk (by kernel_rfl)) ?_; intros)))
  rw [ltS_cmp]
  exact ⟨rfl, E2⟩
theorem lessVer (h : SoAt H tt r1 r q n c X) (hi : X[i]? = some x) (hj : X[j]? = some y) (nx : Near x.kv) (ny : Near y.kv) : CallsH Try.prog 144 ⟨[.pointer (some ⟨r1, 0, none⟩), .int .i64 i, .int .i64 j]⟩ H (Gives (.bool (ahead 1 x.kv y.kv)) H) := by
  have S := Sat.start H
  have A1 := atOld h.top
  have A2 := atOld h.in_
  have R0 : RowsC H q KM.cells 1 X := ⟨h.rows⟩
  have kx := h.kms x (List.mem_of_getElem? hi)
  have ky := h.kms y (List.mem_of_getElem? hj)
  have A3 := atOld kx.1
  have A4 := atOld ky.1
  have hil := (List.getElem?_eq_some_iff.1 hi).1
  have hjl := (List.getElem?_eq_some_iff.1 hj).1
  have hl := h.len
  have I1 : HasI X (i : Int) x := ⟨by simpa using hi⟩
  have I2 : HasI X (j : Int) y := ⟨by simpa using hj⟩
  refine F144.calls ?_
  unfold F144.go
  (repeat (first | (refine Step.go ?_; intros) | refine iteB_t (by decide) ?_ | refine iteB_f (by decide) ?_ | (refine Duo.mk (by first | omega | exact rfl | decide) ?_; intros) | (refine Duo.mk (Clo.mk (by kernel_rfl)) ?_; intros)))
  refine R0.idx hl ⟨by omega, by omega, ?_⟩
  rintro a rfl
  (repeat (first | (refine Step.go ?_; intros) | refine iteB_t (by decide) ?_ | refine iteB_f (by decide) ?_ | (refine Duo.mk (by first | omega | exact rfl | decide) ?_; intros) | (refine Duo.mk (Clo.mk (by kernel_rfl)) ?_; intros)))
  have e : decide (IntKind.wrap .i64 (x.kv.ver - y.kv.ver) < 0) = decide (x.kv.ver < y.kv.ver) := by
    have h1 := nx.1
    have h2 := ny.1
    unfold near at h1 h2
    rw [wr (by omega) (by omega), Bool.eq_iff_iff, decide_eq_true_iff, decide_eq_true_iff]
    omega
  rw [e]
  exact ⟨rfl, Sat.grown⟩
theorem lessCr (h : SoAt H tt r1 r q n c X) (hi : X[i]? = some x) (hj : X[j]? = some y) (nx : Near x.kv) (ny : Near y.kv) : CallsH Try.prog 145 ⟨[.pointer (some ⟨r1, 0, none⟩), .int .i64 i, .int .i64 j]⟩ H (Gives (.bool (ahead 2 x.kv y.kv)) H) := by
  have S := Sat.start H
  have A1 := atOld h.top
  have A2 := atOld h.in_
  have R0 : RowsC H q KM.cells 1 X := ⟨h.rows⟩
  have kx := h.kms x (List.mem_of_getElem? hi)
  have ky := h.kms y (List.mem_of_getElem? hj)
  have A3 := atOld kx.1
  have A4 := atOld ky.1
  have hil := (List.getElem?_eq_some_iff.1 hi).1
  have hjl := (List.getElem?_eq_some_iff.1 hj).1
  have hl := h.len
  have I1 : HasI X (i : Int) x := ⟨by simpa using hi⟩
  have I2 : HasI X (j : Int) y := ⟨by simpa using hj⟩
  refine F145.calls ?_
  unfold F145.go
  (repeat (first | (refine Step.go ?_; intros) | refine iteB_t (by decide) ?_ | refine iteB_f (by decide) ?_ | (refine Duo.mk (by first | omega | exact rfl | decide) ?_; intros) | (refine Duo.mk (Clo.mk (by kernel_rfl)) ?_; intros)))
  refine R0.idx hl ⟨by omega, by omega, ?_⟩
  rintro a rfl
  (repeat (first | (refine Step.go ?_; intros) | refine iteB_t (by decide) ?_ | refine iteB_f (by decide) ?_ | (refine Duo.mk (by first | omega | exact rfl | decide) ?_; intros) | (refine Duo.mk (Clo.mk (by kernel_rfl)) ?_; intros)))
  have e : decide (IntKind.wrap .i64 (x.kv.cr - y.kv.cr) < 0) = decide (x.kv.cr < y.kv.cr) := by
    have h1 := nx.2.1
    have h2 := ny.2.1
    unfold near at h1 h2
    rw [wr (by omega) (by omega), Bool.eq_iff_iff, decide_eq_true_iff, decide_eq_true_iff]
    omega
  rw [e]
  exact ⟨rfl, Sat.grown⟩
theorem lessMd (h : SoAt H tt r1 r q n c X) (hi : X[i]? = some x) (hj : X[j]? = some y) (nx : Near x.kv) (ny : Near y.kv) : CallsH Try.prog 146 ⟨[.pointer (some ⟨r1, 0, none⟩), .int .i64 i, .int .i64 j]⟩ H (Gives (.bool (ahead 3 x.kv y.kv)) H) := by
  have S := Sat.start H
  have A1 := atOld h.top
  have A2 := atOld h.in_
  have R0 : RowsC H q KM.cells 1 X := ⟨h.rows⟩
  have kx := h.kms x (List.mem_of_getElem? hi)
  have ky := h.kms y (List.mem_of_getElem? hj)
  have A3 := atOld kx.1
  have A4 := atOld ky.1
  have hil := (List.getElem?_eq_some_iff.1 hi).1
  have hjl := (List.getElem?_eq_some_iff.1 hj).1
  have hl := h.len
  have I1 : HasI X (i : Int) x := ⟨by simpa using hi⟩
  have I2 : HasI X (j : Int) y := ⟨by simpa using hj⟩
  refine F146.calls ?_
  unfold F146.go
  (repeat (first | (refine Step.go ?_; intros) | refine iteB_t (by decide) ?_ | refine iteB_f (by decide) ?_ | (refine Duo.mk (by first | omega | exact rfl | decide) ?_; intros) | (refine Duo.mk (Clo.mk (by kernel_rfl)) ?_; intros)))
  refine R0.idx hl ⟨by omega, by omega, ?_⟩
  rintro a rfl
  (repeat (first | (refine Step.go ?_; intros) | refine iteB_t (by decide) ?_ | refine iteB_f (by decide) ?_ | (refine Duo.mk (by first | omega | exact rfl | decide) ?_; intros) | (refine Duo.mk (Clo.mk (by kernel_rfl)) ?_; intros)))
  have e : decide (IntKind.wrap .i64 (x.kv.md - y.kv.md) < 0) = decide (x.kv.md < y.kv.md) := by
    have h1 := nx.2.2
    have h2 := ny.2.2
    unfold near at h1 h2
    rw [wr (by omega) (by omega), Bool.eq_iff_iff, decide_eq_true_iff, decide_eq_true_iff]
    omega
  rw [e]
  exact ⟨rfl, Sat.grown⟩
/-- Two neighbours change places. -/
theorem swap_ok {L : List HP} {A C : List KM} (hX : X = A ++ y :: x :: C) (hi : A.length = i) (hn : n < 1000000) (S : Sat H (pt r (.cells ⟨[.slice q n c]⟩ 173) :: sl KM.cells 111 1 q n c X :: L)) : CallsH Try.prog 141 ⟨[.pointer (some ⟨r, 0, none⟩), .int .i64 ((i : Int) + 1), .int .i64 i]⟩ H (fun e H1 => e = .returned (.tuple ⟨[]⟩) ∧ Sat H1 (pt r (.cells ⟨[.slice q n c]⟩ 173) :: sl KM.cells 111 1 q n c (A ++ x :: y :: C) :: L)) := by
  have hl := (S.slLen (List.mem_cons_of_mem _ (List.mem_cons_self ..))).1
  have hl2 : A.length + (C.length + 2) = n := by rw [← hl, hX]; simp
  subst hX
  have I1 : HasI (A ++ y :: x :: C) ((i : Int) + 1) x := ⟨by
    have : ((i : Int) + 1).toNat = i + 1 := by omega
    rw [this, List.getElem?_append_right (by omega)]
    have : i + 1 - A.length = 1 := by omega
    rw [this]; rfl⟩
  have I2 : HasI (A ++ y :: x :: C) (i : Int) y := ⟨by
    have : ((i : Int)).toNat = i := by omega
    rw [this, List.getElem?_append_right (by omega)]
    have : i - A.length = 0 := by omega
    rw [this]; rfl⟩
  refine F141.calls ?_
  unfold F141.go
  (repeat (first | (refine Step.go ?_; intros) | refine iteB_t (by decide) ?_ | refine iteB_f (by decide) ?_ | (refine Duo.mk (by first | omega | exact rfl | decide) ?_; intros) | (refine Duo.mk (Clo.mk (by kernel_rfl)) ?_; intros)))
  refine S.idx ⟨by omega, by omega, ?_⟩
  rintro r0 o0 rfl
  have EN : Enc KM.cells [.pointer (some ⟨y.b, 0, none⟩)] y := ⟨rfl⟩
  (repeat (first | (refine Step.go ?_; intros) | refine iteB_t (by decide) ?_ | refine iteB_f (by decide) ?_ | (refine Duo.mk (by first | omega | exact rfl | decide) ?_; intros) | (refine Duo.mk (Clo.mk (by kernel_rfl)) ?_; intros)))
  rename_i H1 S1
  have e1 : ((A ++ y :: x :: C).set ((i : Int) + 1).toNat y) = A ++ y :: y :: C := by
    have : ((i : Int) + 1).toNat = i + 1 := by omega
    rw [this, List.set_append_right _ _ (by omega)]
    have : i + 1 - A.length = 1 := by omega
    rw [this]; rfl
  rw [e1] at S1
  have I3 : HasI (A ++ y :: y :: C) (i : Int) y := ⟨by
    have : ((i : Int)).toNat = i := by omega
    rw [this, List.getElem?_append_right (by omega)]
    have : i - A.length = 0 := by omega
    rw [this]; rfl⟩
  have EN2 : Enc KM.cells [.pointer (some ⟨x.b, 0, none⟩)] x := ⟨rfl⟩
  (repeat (first | (refine Step.go ?_; intros) | refine iteB_t (by decide) ?_ | refine iteB_f (by decide) ?_ | (refine Duo.mk (by first | omega | exact rfl | decide) ?_; intros) | (refine Duo.mk (Clo.mk (by kernel_rfl)) ?_; intros)))
  rename_i H2 S2
  have e2 : ((A ++ y :: y :: C).set (i : Int).toNat x) = A ++ x :: y :: C := by
    have : (i : Int).toNat = i := by omega
    rw [this, List.set_append_right _ _ (by omega)]
    have : i - A.length = 0 := by omega
    rw [this]; rfl
  rw [e2] at S2
  exact ⟨rfl, S2⟩
end
end Go.Proofs.Ytcejmnfjkdjobaa
