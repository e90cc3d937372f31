/- What functions of this seat do, each proved by a walk; no condition. -/
import Derived.Test.YtpankppliidaoaaT44
set_option linter.unusedVariables false
set_option linter.unusedSimpArgs false
namespace Go.Proofs.Ytpankppliidaoaa
open Go Go.Den Go.Proofs
instance {r : RowR} : Nth (RowR.cells r) 0 (.int .i64 r.rev.1) := ⟨rfl⟩
instance {r : RowR} : Nth (RowR.cells r) 1 (.int .i64 r.rev.2) := ⟨rfl⟩
instance {r : RowR} : Nth (RowR.cells r) 2 (.bool r.gone) := ⟨rfl⟩
instance {r : RowR} : Nth (RowR.cells r) 3 (.string r.kv.k) := ⟨rfl⟩
instance {r : RowR} : Nth (RowR.cells r) 4 (.string r.kv.v) := ⟨rfl⟩
instance {r : RowR} : Nth (RowR.cells r) 5 (.int .i64 r.kv.cr) := ⟨rfl⟩
instance {r : RowR} : Nth (RowR.cells r) 6 (.int .i64 r.kv.mod) := ⟨rfl⟩
instance {r : RowR} : Nth (RowR.cells r) 7 (.int .i64 r.kv.ver) := ⟨rfl⟩
instance {r : RowR} : Nth (RowR.cells r) 8 (.int .i64 r.kv.lease) := ⟨rfl⟩
instance {a b : Int} {g : Bool} {k v : ByteArray} {c d e f : Int} : Enc RowR.cells [.int .i64 a, .int .i64 b, .bool g, .string k, .string v, .int .i64 c, .int .i64 d, .int .i64 e, .int .i64 f] ⟨(a, b), g, ⟨k, v, c, d, e, f⟩⟩ := ⟨rfl⟩
theorem eqT35 {op : BinOp} {a0 b0 : Int} {a1 b1 : Int} {k : Bool → Prop} (h : k ([a0 == b0, a1 == b1].all id)) : rawB Try.prog op 35 (.agg ⟨[.int .i64 a0, .int .i64 a1]⟩) (.agg ⟨[.int .i64 b0, .int .i64 b1]⟩) k := by
  refine rawB_struct (P := Try.prog) (fs := #[{ name := "Main", type := 2, offset := 0, embedded := false, tag := "", pkgPath := "", byteOffset := 0 }, { name := "Sub", type := 2, offset := 1, embedded := false, tag := "", pkgPath := "", byteOffset := 8 }])
    (bs := [a0 == b0, a1 == b1]) (by kernel_rfl) (by kernel_rfl) (by kernel_rfl) ?_ h
  refine .cons (by decide) (part_leaf eu2 ea2 rfl) (part_leaf eu2 ea2 rfl) (equalIn_int eu2) ?_
  refine .cons (by decide) (part_leaf eu2 ea2 rfl) (part_leaf eu2 ea2 rfl) (equalIn_int eu2) .nil
theorem eu9 : Try.prog.underlying 9 = some .string := by kernel_rfl
theorem ea9 : aggT Try.prog 9 = false := by kernel_rfl
theorem eqT32 {op : BinOp} {a0 b0 : ByteArray} {a1 b1 : ByteArray} {a2 b2 : Int} {a3 b3 : Int} {a4 b4 : Int} {a5 b5 : Int} {k : Bool → Prop} (h : k ([a0 == b0, a1 == b1, a2 == b2, a3 == b3, a4 == b4, a5 == b5].all id)) : rawB Try.prog op 32 (.agg ⟨[.string a0, .string a1, .int .i64 a2, .int .i64 a3, .int .i64 a4, .int .i64 a5]⟩) (.agg ⟨[.string b0, .string b1, .int .i64 b2, .int .i64 b3, .int .i64 b4, .int .i64 b5]⟩) k := by
  refine rawB_struct (P := Try.prog) (fs := #[{ name := "Key", type := 9, offset := 0, embedded := false, tag := "", pkgPath := "", byteOffset := 0 }, { name := "Value", type := 9, offset := 1, embedded := false, tag := "", pkgPath := "", byteOffset := 16 }, { name := "Create", type := 2, offset := 2, embedded := false, tag := "", pkgPath := "", byteOffset := 32 }, { name := "Mod", type := 2, offset := 3, embedded := false, tag := "", pkgPath := "", byteOffset := 40 }, { name := "Version", type := 2, offset := 4, embedded := false, tag := "", pkgPath := "", byteOffset := 48 }, { name := "Lease", type := 2, offset := 5, embedded := false, tag := "", pkgPath := "", byteOffset := 56 }])
    (bs := [a0 == b0, a1 == b1, a2 == b2, a3 == b3, a4 == b4, a5 == b5]) (by kernel_rfl) (by kernel_rfl) (by kernel_rfl) ?_ h
  refine .cons (by decide) (part_leaf eu9 ea9 rfl) (part_leaf eu9 ea9 rfl) (equalIn_string eu9) ?_
  refine .cons (by decide) (part_leaf eu9 ea9 rfl) (part_leaf eu9 ea9 rfl) (equalIn_string eu9) ?_
  refine .cons (by decide) (part_leaf eu2 ea2 rfl) (part_leaf eu2 ea2 rfl) (equalIn_int eu2) ?_
  refine .cons (by decide) (part_leaf eu2 ea2 rfl) (part_leaf eu2 ea2 rfl) (equalIn_int eu2) ?_
  refine .cons (by decide) (part_leaf eu2 ea2 rfl) (part_leaf eu2 ea2 rfl) (equalIn_int eu2) ?_
  refine .cons (by decide) (part_leaf eu2 ea2 rfl) (part_leaf eu2 ea2 rfl) (equalIn_int eu2) .nil
/-- The row's own cells as a value. -/
abbrev rowV (x : RowR) : Value := .agg ⟨[.int .i64 x.rev.1, .int .i64 x.rev.2, .bool x.gone, .string x.kv.k, .string x.kv.v, .int .i64 x.kv.cr, .int .i64 x.kv.mod, .int .i64 x.kv.ver, .int .i64 x.kv.lease]⟩
theorem counts_loop {H0 : Heap} {x : RowR} {p : Option Addr} {c : Nat} {ks : List RevR} [R0 : RowsC H0 p revCells 2 ks] (hm : ks.length ≤ 1000000) {xb : Nat} {T : TypeId} : ∀ (d i : Nat) (H : Heap), i + d = ks.length → (ks.take i).contains x.rev = false → Sat H [pt xb (.cells ⟨RowR.cells x⟩ T), old H0] →
    F26.L2 xb p ks.length c (ks.length : Int) (i : Int) H (fun e H1 => e = .returned (.bool (ks.contains x.rev)) ∧ ExtH H0 H1) := by
  intro d
  induction d with
  | zero =>
    intro i H hi hc S
    refine F26.L2_step ?_
    unfold F26.L2n
    refine iteB_f (by simp; omega) ?_
    rw [List.take_of_length_le (by omega)] at hc
    rw [hc]
    exact ⟨rfl, Sat.grown⟩
  | succ d ih =>
    intro i H hi hc S
    obtain ⟨r, hr⟩ := get_of (l := ks) (i := i) (by omega)
    have X := HasI.nat hr
    refine F26.L2_step ?_
    unfold F26.L2n
    refine iteB_t (by simp; omega) ?_
    refine R0.idx rfl ⟨by omega, by omega, ?_⟩
    rintro ad rfl
    (repeat (first | (refine Step.go ?_; intros) | refine iteB_t (by decide) ?_ | refine iteB_f (by decide) ?_ | (refine Duo.mk (by first | omega | exact rfl | decide) ?_; intros) | (refine Duo.mk (Clo.mk (by kernel_rfl)) ?_; intros)))
    refine eqT35 ?_
    have e1 : ([r.1 == x.rev.1, r.2 == x.rev.2].all id) = (r == x.rev) := by
      obtain ⟨a, b⟩ := r
      obtain ⟨⟨c, d⟩, _, _⟩ := x
      show ((a == c) && ((b == d) && true)) = ((a == c) && (b == d))
      simp
    rw [e1]
    refine iteB_i (fun h => ?_) (fun h => ?_)
    · have : ks.contains x.rev = true := by
        simp only [List.contains_iff_mem]
        have := eq_of_beq h
        rw [← this]; exact List.mem_of_getElem? hr
      rw [this]
      exact ⟨rfl, Sat.grown⟩
    · rw [wrap64_small (by omega) (by omega)]
      refine ih (i + 1) _ (by omega) ?_ Sat.fin
      rw [List.take_add_one, hr]
      simp only [Option.toList_some]
      have h2 : (x.rev == r) = false := by rw [← h]; exact Bool.eq_iff_iff.2 ⟨fun h => by simpa using (eq_of_beq h).symm, fun h => by simpa using (eq_of_beq h).symm⟩
      rw [List.contains_eq_any_beq] at hc ⊢
      rw [List.any_append, hc]
      simp [h2]
theorem counts_ok {H : Heap} {x : RowR} {compact rev : Int} {p : Option Addr} {c : Nat} {ks : List RevR} [R0 : RowsC H p revCells 2 ks] (hm : ks.length ≤ 1000000) : CallsH Try.prog 26 ⟨[rowV x, .int .i64 compact, .int .i64 rev, .slice p ks.length c]⟩ H (Gives (.bool (countsB compact rev ks x)) H) := by
  refine F26.calls ?_
  unfold F26.go
  have S := Sat.start H
  have l0 : ∀ (xb : Nat) (H' : Heap), Sat H' [pt xb (.cells ⟨RowR.cells x⟩ 61), old H] → x.rev.1 ≤ rev → (x.gone && x.rev.1 == compact) = false → F26.L0 compact p ks.length c xb H' (Gives (.bool (countsB compact rev ks x)) H) := by
    intro xb H' S' h1 h2
    refine F26.L0_step ?_
    unfold F26.L0n
    (repeat (first | (refine Step.go ?_; intros) | refine iteB_t (by decide) ?_ | refine iteB_f (by decide) ?_ | (refine Duo.mk (by first | omega | exact rfl | decide) ?_; intros) | (refine Duo.mk (Clo.mk (by kernel_rfl)) ?_; intros)))
    refine iteB_i (fun h => ?_) (fun h => ?_)
    · exact ⟨by unfold countsB; simp at h; rw [h2]; simp [h, h1], Sat.grown⟩
    · refine iteB_i (fun h3 => ?_) (fun h3 => ?_)
      · have : ks = [] := List.eq_nil_of_length_eq_zero (by simp at h3; simp [h3])
        subst this
        exact ⟨by unfold countsB; rw [h2]; simp [h1], Sat.grown⟩
      · refine F26.L1_step ?_
        unfold F26.L1n
        have := counts_loop (x := x) hm ks.length 0 H' (by omega) (by simp) S' (p := p) (c := c) (ks := ks)
        refine GoL.mono this ?_
        rintro e H1 ⟨rfl, E⟩
        refine ⟨?_, E⟩
        have h4 : ks.isEmpty = false := by
          cases ks with
          | nil => simp at h3
          | cons a l => rfl
        unfold countsB
        simp at h
        rw [h2, h4, show decide (x.rev.1 > rev) = false by simp; omega, show decide (x.rev.1 > compact) = false by simp; omega]
        simp
  (repeat (first | (refine Step.go ?_; intros) | refine iteB_t (by decide) ?_ | refine iteB_f (by decide) ?_ | (refine Duo.mk (by first | omega | exact rfl | decide) ?_; intros) | (refine Duo.mk (Clo.mk (by kernel_rfl)) ?_; intros)))
  rename_i xb H1 S1
  refine iteB_i (fun h => ?_) (fun h => ?_)
  · exact ⟨by unfold countsB; simp at h; simp [h], Sat.grown⟩
  have h1 : x.rev.1 ≤ rev := by simp at h; exact h
  (repeat (first | (refine Step.go ?_; intros) | refine iteB_t (by decide) ?_ | refine iteB_f (by decide) ?_ | (refine Duo.mk (by first | omega | exact rfl | decide) ?_; intros) | (refine Duo.mk (Clo.mk (by kernel_rfl)) ?_; intros)))
  refine iteB_i (fun hg => ?_) (fun hg => ?_)
  · (repeat (first | (refine Step.go ?_; intros) | refine iteB_t (by decide) ?_ | refine iteB_f (by decide) ?_ | (refine Duo.mk (by first | omega | exact rfl | decide) ?_; intros) | (refine Duo.mk (Clo.mk (by kernel_rfl)) ?_; intros)))
    refine iteB_i (fun h2 => ?_) (fun h2 => ?_)
    · exact ⟨by unfold countsB; rw [hg, h2]; simp, Sat.grown⟩
    · exact l0 xb H1 S1 h1 (by rw [h2]; simp)
  · exact l0 xb H1 S1 h1 (by rw [hg]; simp)
theorem fits28' (x : KVr) (H : Heap) : CallsH Try.prog 28 ⟨[.agg ⟨[.string x.k, .string x.v, .int .i64 x.cr, .int .i64 x.mod, .int .i64 x.ver, .int .i64 x.lease]⟩]⟩ H (Tells H) := by
  refine F28.calls ?_
  unfold F28.go
  have S := Sat.start H
  (repeat (first | (refine Step.go ?_; intros) | refine iteB_t (by decide) ?_ | refine iteB_f (by decide) ?_ | (refine Duo.mk (by first | omega | exact rfl | decide) ?_; intros) | (refine Duo.mk (Clo.mk (by kernel_rfl)) ?_; intros)))
  refine iteB_i (fun h => ⟨⟨_, rfl⟩, Sat.grown⟩) (fun h => ?_)
  (repeat (first | (refine Step.go ?_; intros) | refine iteB_t (by decide) ?_ | refine iteB_f (by decide) ?_ | (refine Duo.mk (by first | omega | exact rfl | decide) ?_; intros) | (refine Duo.mk (Clo.mk (by kernel_rfl)) ?_; intros)))
  refine iteB_i (fun h => ⟨⟨_, rfl⟩, Sat.grown⟩) (fun h => ⟨⟨_, rfl⟩, Sat.grown⟩)
theorem tells_i {P : Program} {f : FuncId} {args : List Value} {H : Heap} {Q : List PanicEntry → Heap → Prop} {K : Value → Heap → Prop} {l : List HP} (S : Sat H l) (hc : CallsH P f ⟨args⟩ H (Tells H)) (k : ∀ b H1, ExtH H H1 → Sat H1 l → K (.bool b) H1) : callD P f args H Q K :=
  CallsH.mono hc fun e H1 ⟨⟨b, he⟩, hx⟩ => by subst he; exact k b H1 hx (S.ext hx)
theorem fits49 (x : RowR) (H : Heap) : CallsH Try.prog 49 ⟨[rowV x]⟩ H (Tells H) := by
  refine F49.calls ?_
  unfold F49.go
  have S := Sat.start H
  (repeat (first | (refine Step.go ?_; intros) | refine iteB_t (by decide) ?_ | refine iteB_f (by decide) ?_ | (refine Duo.mk (by first | omega | exact rfl | decide) ?_; intros) | (refine Duo.mk (Clo.mk (by kernel_rfl)) ?_; intros)))
  refine tells_i ‹_› (fits28' x.kv _) ?_
  intro b H1 _ S1
  (repeat (first | (refine Step.go ?_; intros) | refine iteB_t (by decide) ?_ | refine iteB_f (by decide) ?_ | (refine Duo.mk (by first | omega | exact rfl | decide) ?_; intros) | (refine Duo.mk (Clo.mk (by kernel_rfl)) ?_; intros)))
  refine iteB_i (fun h => ⟨⟨_, rfl⟩, Sat.grown⟩) (fun h => ⟨⟨_, rfl⟩, Sat.grown⟩)
section
variable {H0 : Heap} {p : Option Addr} {c : Nat} {l : List RowR} [R0 : RowsC H0 p RowR.cells 9 l]
theorem fits_loop (hm : l.length < 4611686018427387904) : ∀ (d i : Nat) (H : Heap), i + d = l.length → Sat H [old H0] → F23.L0 p l.length c (l.length : Int) (i : Int) H (Tells H0) := by
  intro d
  induction d with
  | zero =>
    intro i H hi S
    refine F23.L0_step ?_
    unfold F23.L0n
    refine iteB_f (by simp; omega) ?_
    exact ⟨⟨_, rfl⟩, Sat.grown⟩
  | succ d ih =>
    intro i H hi S
    obtain ⟨x, hx⟩ := get_of (l := l) (i := i) (by omega)
    have X := HasI.nat hx
    refine F23.L0_step ?_
    unfold F23.L0n
    refine iteB_t (by simp; omega) ?_
    refine R0.idx rfl ⟨by omega, by omega, ?_⟩
    rintro ad rfl
    (repeat (first | (refine Step.go ?_; intros) | refine iteB_t (by decide) ?_ | refine iteB_f (by decide) ?_ | (refine Duo.mk (by first | omega | exact rfl | decide) ?_; intros) | (refine Duo.mk (Clo.mk (by kernel_rfl)) ?_; intros)))
    refine tells_i ‹_› (fits49 x _) ?_
    intro b H1 _ S1
    (repeat (first | (refine Step.go ?_; intros) | refine iteB_t (by decide) ?_ | refine iteB_f (by decide) ?_ | (refine Duo.mk (by first | omega | exact rfl | decide) ?_; intros) | (refine Duo.mk (Clo.mk (by kernel_rfl)) ?_; intros)))
    refine iteB_i (fun h => ⟨⟨_, rfl⟩, Sat.grown⟩) (fun h => ?_)
    rw [wrap64_small (by omega) (by omega)]
    exact ih (i + 1) H1 (by omega) Sat.fin
/-- What the law asks of rows. -/
def goodRow (x : RowR) : Prop := 1 ≤ x.rev.1 ∧ 0 ≤ x.rev.2 ∧ x.kv.k.size ≤ 60 ∧ x.kv.v.size ≤ 60
theorem less67 (a b c d : Int) (H : Heap) : CallsH Try.prog 67 ⟨[.agg ⟨[.int .i64 a, .int .i64 b]⟩, .agg ⟨[.int .i64 c, .int .i64 d]⟩]⟩ H (Tells H) := by
  refine F67.calls ?_
  unfold F67.go
  have S := Sat.start H
  (repeat (first | (refine Step.go ?_; intros) | refine iteB_t (by decide) ?_ | refine iteB_f (by decide) ?_ | (refine Duo.mk (by first | omega | exact rfl | decide) ?_; intros) | (refine Duo.mk (Clo.mk (by kernel_rfl)) ?_; intros)))
  refine iteB_i (fun h => ⟨⟨_, rfl⟩, Sat.grown⟩) (fun h => ?_)
  (repeat (first | (refine Step.go ?_; intros) | refine iteB_t (by decide) ?_ | refine iteB_f (by decide) ?_ | (refine Duo.mk (by first | omega | exact rfl | decide) ?_; intros) | (refine Duo.mk (Clo.mk (by kernel_rfl)) ?_; intros)))
  refine iteB_i (fun h => ?_) (fun h => ⟨⟨_, rfl⟩, Sat.grown⟩)
  (repeat (first | (refine Step.go ?_; intros) | refine iteB_t (by decide) ?_ | refine iteB_f (by decide) ?_ | (refine Duo.mk (by first | omega | exact rfl | decide) ?_; intros) | (refine Duo.mk (Clo.mk (by kernel_rfl)) ?_; intros)))
  exact ⟨⟨_, rfl⟩, Sat.grown⟩
def TellsIf (H0 : Heap) (P : Prop) : Ending → Heap → Prop := fun e H1 => ∃ b, e = .returned (.bool b) ∧ (b = true → P) ∧ ExtH H0 H1
theorem no_if {H0 H1 : Heap} {P : Prop} {l r : List HP} [S : Sat H1 l] [T : Take (old H0) l r] : TellsIf H0 P (.returned (.bool false)) H1 := ⟨false, rfl, (fun h => by cases h), Sat.grown⟩
theorem good_loop (hm : l.length ≤ 200) : ∀ (d i : Nat) (H : Heap), i + d = l.length → (∀ x ∈ l.take i, goodRow x) → Sat H [old H0] → F50.L0 p l.length c p l.length c (l.length : Int) (i : Int) H (TellsIf H0 (l.length ≤ 200 ∧ ∀ x ∈ l, goodRow x)) := by
  intro d
  induction d with
  | zero =>
    intro i H hi hg S
    refine F50.L0_step ?_
    unfold F50.L0n
    refine iteB_f (by simp; omega) ?_
    refine ⟨true, rfl, fun _ => ⟨hm, ?_⟩, Sat.grown⟩
    rwa [List.take_of_length_le (by omega)] at hg
  | succ d ih =>
    intro i H hi hg S
    obtain ⟨x, hx⟩ := get_of (l := l) (i := i) (by omega)
    have X := HasI.nat hx
    refine F50.L0_step ?_
    unfold F50.L0n
    refine iteB_t (by simp; omega) ?_
    refine R0.idx rfl ⟨by omega, by omega, ?_⟩
    rintro ad rfl
    (repeat (first | (refine Step.go ?_; intros) | refine iteB_t (by decide) ?_ | refine iteB_f (by decide) ?_ | (refine Duo.mk (by first | omega | exact rfl | decide) ?_; intros) | (refine Duo.mk (Clo.mk (by kernel_rfl)) ?_; intros)))
    rename_i r H1 S1 H2 S2 H3 S3 H4 S4 H5 S5 H6 S6 H7 S7 H8 S8 H9 S9 H10 S10
    have l3 : goodRow x → ∀ H', Sat H' (pt r (.cells ⟨RowR.cells x⟩ 61) :: old H0 :: []) → F50.L3 (some ad) l.length c (some ad) l.length c (l.length : Int) (i : Int) H' (TellsIf H0 (l.length ≤ 200 ∧ ∀ x ∈ l, goodRow x)) := by
      intro hgx H' S'
      refine F50.L3_step ?_
      unfold F50.L3n
      rw [wrap64_small (by omega) (by omega)]
      refine ih (i + 1) H' (by omega) ?_ Sat.fin
      intro y hy
      rw [List.take_add_one, hx] at hy
      rcases List.mem_append.1 hy with hy | hy
      · exact hg y hy
      · simp at hy; subst hy; exact hgx
    have l2 : goodRow x → ∀ H', Sat H' (pt r (.cells ⟨RowR.cells x⟩ 61) :: old H0 :: []) → F50.L2 (some ad) l.length c r (some ad) l.length c (l.length : Int) (i : Int) H' (TellsIf H0 (l.length ≤ 200 ∧ ∀ x ∈ l, goodRow x)) := by
      intro hgx H' S'
      refine F50.L2_step ?_
      unfold F50.L2n
      (repeat (first | (refine Step.go ?_; intros) | refine iteB_t (by decide) ?_ | refine iteB_f (by decide) ?_ | (refine Duo.mk (by first | omega | exact rfl | decide) ?_; intros) | (refine Duo.mk (Clo.mk (by kernel_rfl)) ?_; intros)))
      refine iteB_i (fun h => ?_) (fun h => l3 hgx _ S')
      (repeat (first | (refine Step.go ?_; intros) | refine iteB_t (by decide) ?_ | refine iteB_f (by decide) ?_ | (refine Duo.mk (by first | omega | exact rfl | decide) ?_; intros) | (refine Duo.mk (Clo.mk (by kernel_rfl)) ?_; intros)))
      refine iteB_i (fun h => no_if) (fun h => ?_)
      (repeat (first | (refine Step.go ?_; intros) | refine iteB_t (by decide) ?_ | refine iteB_f (by decide) ?_ | (refine Duo.mk (by first | omega | exact rfl | decide) ?_; intros) | (refine Duo.mk (Clo.mk (by kernel_rfl)) ?_; intros)))
      refine iteB_i (fun h => no_if) (fun h => ?_)
      (repeat (first | (refine Step.go ?_; intros) | refine iteB_t (by decide) ?_ | refine iteB_f (by decide) ?_ | (refine Duo.mk (by first | omega | exact rfl | decide) ?_; intros) | (refine Duo.mk (Clo.mk (by kernel_rfl)) ?_; intros)))
      refine iteB_i (fun h => no_if) (fun h => ?_)
      (repeat (first | (refine Step.go ?_; intros) | refine iteB_t (by decide) ?_ | refine iteB_f (by decide) ?_ | (refine Duo.mk (by first | omega | exact rfl | decide) ?_; intros) | (refine Duo.mk (Clo.mk (by kernel_rfl)) ?_; intros)))
      refine iteB_i (fun h => no_if) (fun h => ?_)
      (repeat (first | (refine Step.go ?_; intros) | refine iteB_t (by decide) ?_ | refine iteB_f (by decide) ?_ | (refine Duo.mk (by first | omega | exact rfl | decide) ?_; intros) | (refine Duo.mk (Clo.mk (by kernel_rfl)) ?_; intros)))
      refine iteB_i (fun h => no_if) (fun h => l3 hgx _ S')
    have l1 : goodRow x → ∀ H', Sat H' (pt r (.cells ⟨RowR.cells x⟩ 61) :: old H0 :: []) → F50.L1 (some ad) l.length c r (some ad) l.length c (l.length : Int) (i : Int) H' (TellsIf H0 (l.length ≤ 200 ∧ ∀ x ∈ l, goodRow x)) := by
      intro hgx H' S'
      refine F50.L1_step ?_
      unfold F50.L1n
      (repeat (first | (refine Step.go ?_; intros) | refine iteB_t (by decide) ?_ | refine iteB_f (by decide) ?_ | (refine Duo.mk (by first | omega | exact rfl | decide) ?_; intros) | (refine Duo.mk (Clo.mk (by kernel_rfl)) ?_; intros)))
      refine iteB_i (fun h => ?_) (fun h => l2 hgx _ S')
      (repeat (first | (refine Step.go ?_; intros) | refine iteB_t (by decide) ?_ | refine iteB_f (by decide) ?_ | (refine Duo.mk (by first | omega | exact rfl | decide) ?_; intros) | (refine Duo.mk (Clo.mk (by kernel_rfl)) ?_; intros)))
      refine eqT32 ?_
      refine iteB_i (fun h => no_if) (fun h => l2 hgx _ S')
    refine iteB_i (fun h => no_if) (fun h1 => ?_)
    (repeat (first | (refine Step.go ?_; intros) | refine iteB_t (by decide) ?_ | refine iteB_f (by decide) ?_ | (refine Duo.mk (by first | omega | exact rfl | decide) ?_; intros) | (refine Duo.mk (Clo.mk (by kernel_rfl)) ?_; intros)))
    refine iteB_i (fun h => no_if) (fun h2 => ?_)
    simp at h1 h2
    -- the texts' lengths
    have txt : ∀ H', Sat H' (pt r (.cells ⟨RowR.cells x⟩ 61) :: old H0 :: []) → ldStr H' ⟨r, 3, none⟩ fun s5 => iteB (eqS s5 (ByteArray.mk #[])) (TellsIf H0 (l.length ≤ 200 ∧ ∀ x ∈ l, goodRow x) (.returned (.bool false)) H') <|
        ldStr H' ⟨r, 3, none⟩ fun s6 => iteB (decide (((ByteArray.size s6 : Nat) : Int) > (60 : Int))) (TellsIf H0 (l.length ≤ 200 ∧ ∀ x ∈ l, goodRow x) (.returned (.bool false)) H') <|
        ldStr H' ⟨r, 4, none⟩ fun s7 => iteB (decide (((ByteArray.size s7 : Nat) : Int) > (60 : Int))) (TellsIf H0 (l.length ≤ 200 ∧ ∀ x ∈ l, goodRow x) (.returned (.bool false)) H') <|
        F50.L1 (some ad) l.length c r (some ad) l.length c (l.length : Int) (i : Int) H' (TellsIf H0 (l.length ≤ 200 ∧ ∀ x ∈ l, goodRow x)) := by
      intro H' S'
      (repeat (first | (refine Step.go ?_; intros) | refine iteB_t (by decide) ?_ | refine iteB_f (by decide) ?_ | (refine Duo.mk (by first | omega | exact rfl | decide) ?_; intros) | (refine Duo.mk (Clo.mk (by kernel_rfl)) ?_; intros)))
      refine iteB_i (fun h => no_if) (fun h => ?_)
      (repeat (first | (refine Step.go ?_; intros) | refine iteB_t (by decide) ?_ | refine iteB_f (by decide) ?_ | (refine Duo.mk (by first | omega | exact rfl | decide) ?_; intros) | (refine Duo.mk (Clo.mk (by kernel_rfl)) ?_; intros)))
      refine iteB_i (fun h => no_if) (fun h3 => ?_)
      (repeat (first | (refine Step.go ?_; intros) | refine iteB_t (by decide) ?_ | refine iteB_f (by decide) ?_ | (refine Duo.mk (by first | omega | exact rfl | decide) ?_; intros) | (refine Duo.mk (Clo.mk (by kernel_rfl)) ?_; intros)))
      refine iteB_i (fun h => no_if) (fun h4 => ?_)
      simp at h3 h4
      exact l1 ⟨by omega, h2, by omega, by omega⟩ _ S'
    refine iteB_i (fun h => ?_) (fun h => ?_)
    · simp at h
      rw [wrap64_small (i := (i : Int) - 1) (by omega) (by omega)]
      obtain ⟨w, hw⟩ := get_of (l := l) (i := i - 1) (by omega)
      have W : HasI l ((i : Int) - 1) w := ⟨by rw [show ((i : Int) - 1).toNat = i - 1 by omega]; exact hw⟩
      (repeat (first | (refine Step.go ?_; intros) | refine iteB_t (by decide) ?_ | refine iteB_f (by decide) ?_ | (refine Duo.mk (by first | omega | exact rfl | decide) ?_; intros) | (refine Duo.mk (Clo.mk (by kernel_rfl)) ?_; intros)))
      refine tells_i S10 (less67 _ _ _ _ _) ?_
      intro b H11 _ S11
      (repeat (first | (refine Step.go ?_; intros) | refine iteB_t (by decide) ?_ | refine iteB_f (by decide) ?_ | (refine Duo.mk (by first | omega | exact rfl | decide) ?_; intros) | (refine Duo.mk (Clo.mk (by kernel_rfl)) ?_; intros)))
      refine iteB_i (fun h => no_if) (fun h => ?_)
      exact txt H11 S11
    · exact txt H10 S10
theorem good_ok : CallsH Try.prog 50 ⟨[.slice p l.length c]⟩ H0 (TellsIf H0 (l.length ≤ 200 ∧ ∀ x ∈ l, goodRow x)) := by
  refine F50.calls ?_
  unfold F50.go
  have S := Sat.start H0
  refine iteB_i (fun h => no_if) (fun h => ?_)
  simp at h
  exact good_loop (by omega) l.length 0 H0 (by omega) (by simp) S
end
end Go.Proofs.Ytpankppliidaoaa
