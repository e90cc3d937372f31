/- What functions of this seat do, each proved by a walk; no condition. -/
import Derived.Test.YtcejmnfjkdjobaaCJ
set_option linter.unusedVariables false
set_option linter.unusedSimpArgs false
set_option linter.unnecessarySimpa false
namespace Go.Proofs.Ytcejmnfjkdjobaa
open Go Go.Den Go.Proofs
/-! The reference's sorting. -/
theorem eu9 : Try.prog.underlying 9 = some .string := by kernel_rfl
theorem ea9 : aggT Try.prog 9 = false := by kernel_rfl
theorem eu2 : Try.prog.underlying 2 = some (.int .i64) := by kernel_rfl
theorem ea2 : aggT Try.prog 2 = false := by kernel_rfl
theorem eqT27 {op : BinOp} {a0 b0 : ByteArray} {a1 b1 : ByteArray} {a2 b2 : Int} {a3 b3 : Int} {a4 b4 : Int} {a5 b5 : Int} {k : Bool → Prop} (h : k ([a0 == b0, a1 == b1, a2 == b2, a3 == b3, a4 == b4, a5 == b5].all id)) : rawB Try.prog op 27 (.agg ⟨[.string a0, .string a1, .int .i64 a2, .int .i64 a3, .int .i64 a4, .int .i64 a5]⟩) (.agg ⟨[.string b0, .string b1, .int .i64 b2, .int .i64 b3, .int .i64 b4, .int .i64 b5]⟩) k := by
  refine rawB_struct (P := Try.prog) (fs := #[{ name := "Key", type := 9, offset := 0, embedded := false, tag := "", pkgPath := "", byteOffset := 0 }, { name := "Value", type := 9, offset := 1, embedded := false, tag := "", pkgPath := "", byteOffset := 16 }, { name := "Create", type := 2, offset := 2, embedded := false, tag := "", pkgPath := "", byteOffset := 32 }, { name := "Mod", type := 2, offset := 3, embedded := false, tag := "", pkgPath := "", byteOffset := 40 }, { name := "Version", type := 2, offset := 4, embedded := false, tag := "", pkgPath := "", byteOffset := 48 }, { name := "Lease", type := 2, offset := 5, embedded := false, tag := "", pkgPath := "", byteOffset := 56 }])
    (bs := [a0 == b0, a1 == b1, a2 == b2, a3 == b3, a4 == b4, a5 == b5]) (by kernel_rfl) (by kernel_rfl) (by kernel_rfl) ?_ h
  refine .cons (by decide) (part_leaf eu9 ea9 rfl) (part_leaf eu9 ea9 rfl) (equalIn_string eu9) ?_
  refine .cons (by decide) (part_leaf eu9 ea9 rfl) (part_leaf eu9 ea9 rfl) (equalIn_string eu9) ?_
  refine .cons (by decide) (part_leaf eu2 ea2 rfl) (part_leaf eu2 ea2 rfl) (equalIn_int eu2) ?_
  refine .cons (by decide) (part_leaf eu2 ea2 rfl) (part_leaf eu2 ea2 rfl) (equalIn_int eu2) ?_
  refine .cons (by decide) (part_leaf eu2 ea2 rfl) (part_leaf eu2 ea2 rfl) (equalIn_int eu2) ?_
  refine .cons (by decide) (part_leaf eu2 ea2 rfl) (part_leaf eu2 ea2 rfl) (equalIn_int eu2) .nil
section
variable {H : Heap}
theorem numO_ok (a b : Int) : CallsH Try.prog 60 ⟨[.int .i64 a, .int .i64 b]⟩ H (Gives (.int .i64 (numO a b)) H) := by
  refine F60.calls ?_
  unfold F60.go
  unfold numO
  refine iteB_i (fun h => ?_) (fun h => ?_)
  · rw [if_pos (of_decide_eq_true h)]; exact ⟨rfl, ExtH.refl H⟩
  · rw [if_neg (of_decide_eq_false h)]
    refine iteB_i (fun h => ?_) (fun h => ?_)
    · rw [if_pos (of_decide_eq_true h)]; exact ⟨rfl, ExtH.refl H⟩
    · rw [if_neg (of_decide_eq_false h)]; exact ⟨rfl, ExtH.refl H⟩
theorem txtO_ok (a b : ByteArray) : CallsH Try.prog 61 ⟨[.string a, .string b]⟩ H (Gives (.int .i64 (txtO a b)) H) := by
  refine F61.calls ?_
  unfold F61.go
  unfold txtO
  refine iteB_i (fun h => ?_) (fun h => ?_)
  · rw [if_pos h]; exact ⟨rfl, ExtH.refl H⟩
  · rw [if_neg (by rw [h]; simp)]
    refine iteB_i (fun h => ?_) (fun h => ?_)
    · rw [ltS_flip] at h; rw [if_pos h]; exact ⟨rfl, ExtH.refl H⟩
    · rw [ltS_flip] at h; rw [if_neg (by rw [h]; simp)]; exact ⟨rfl, ExtH.refl H⟩
theorem ordK_ok (a b : KV) (t : Int) : CallsH Try.prog 29 ⟨[.agg ⟨a.cells⟩, .agg ⟨b.cells⟩, .int .i64 t]⟩ H (Gives (.int .i64 (ordK a b t)) H) := by
  have S := Sat.start H
  refine F29.calls ?_
  unfold F29.go
  unfold ordK
  (repeat (first | (refine Step.go ?_; intros) | refine iteB_t (by decide) ?_ | refine iteB_f (by decide) ?_ | (refine Duo.mk (by first | omega | exact rfl | decide) ?_; intros) | (refine Duo.mk (Clo.mk (by kernel_rfl)) ?_; intros)))
  rename_i r1 H1 S1 r2 H2 S2
  refine iteB_i (fun h => ?_) (fun h => ?_)
  · rw [if_pos (eq_of_beq h)]
    (repeat (first | (refine Step.go ?_; intros) | refine iteB_t (by decide) ?_ | refine iteB_f (by decide) ?_ | (refine Duo.mk (by first | omega | exact rfl | decide) ?_; intros) | (refine Duo.mk (Clo.mk (by kernel_rfl)) ?_; intros)))
    refine gives_i S2 (numO_ok _ _) ?_
    intro H3 E3 S3
    (repeat (first | (refine Step.go ?_; intros) | refine iteB_t (by decide) ?_ | refine iteB_f (by decide) ?_ | (refine Duo.mk (by first | omega | exact rfl | decide) ?_; intros) | (refine Duo.mk (Clo.mk (by kernel_rfl)) ?_; intros)))
    exact ⟨rfl, Sat.grown⟩
  rw [if_neg (by simpa using h)]
  refine iteB_i (fun h => ?_) (fun h => ?_)
  · rw [if_pos (eq_of_beq h)]
    (repeat (first | (refine Step.go ?_; intros) | refine iteB_t (by decide) ?_ | refine iteB_f (by decide) ?_ | (refine Duo.mk (by first | omega | exact rfl | decide) ?_; intros) | (refine Duo.mk (Clo.mk (by kernel_rfl)) ?_; intros)))
    refine gives_i S2 (numO_ok _ _) ?_
    intro H3 E3 S3
    (repeat (first | (refine Step.go ?_; intros) | refine iteB_t (by decide) ?_ | refine iteB_f (by decide) ?_ | (refine Duo.mk (by first | omega | exact rfl | decide) ?_; intros) | (refine Duo.mk (Clo.mk (by kernel_rfl)) ?_; intros)))
    exact ⟨rfl, Sat.grown⟩
  rw [if_neg (by simpa using h)]
  refine iteB_i (fun h => ?_) (fun h => ?_)
  · rw [if_pos (eq_of_beq h)]
    (repeat (first | (refine Step.go ?_; intros) | refine iteB_t (by decide) ?_ | refine iteB_f (by decide) ?_ | (refine Duo.mk (by first | omega | exact rfl | decide) ?_; intros) | (refine Duo.mk (Clo.mk (by kernel_rfl)) ?_; intros)))
    refine gives_i S2 (numO_ok _ _) ?_
    intro H3 E3 S3
    (repeat (first | (refine Step.go ?_; intros) | refine iteB_t (by decide) ?_ | refine iteB_f (by decide) ?_ | (refine Duo.mk (by first | omega | exact rfl | decide) ?_; intros) | (refine Duo.mk (Clo.mk (by kernel_rfl)) ?_; intros)))
    exact ⟨rfl, Sat.grown⟩
  rw [if_neg (by simpa using h)]
  refine iteB_i (fun h => ?_) (fun h => ?_)
  · rw [if_pos (eq_of_beq h)]
    (repeat (first | (refine Step.go ?_; intros) | refine iteB_t (by decide) ?_ | refine iteB_f (by decide) ?_ | (refine Duo.mk (by first | omega | exact rfl | decide) ?_; intros) | (refine Duo.mk (Clo.mk (by kernel_rfl)) ?_; intros)))
    refine gives_i S2 (txtO_ok _ _) ?_
    intro H3 E3 S3
    (repeat (first | (refine Step.go ?_; intros) | refine iteB_t (by decide) ?_ | refine iteB_f (by decide) ?_ | (refine Duo.mk (by first | omega | exact rfl | decide) ?_; intros) | (refine Duo.mk (Clo.mk (by kernel_rfl)) ?_; intros)))
    exact ⟨rfl, Sat.grown⟩
  rw [if_neg (by simpa using h)]
  (repeat (first | (refine Step.go ?_; intros) | refine iteB_t (by decide) ?_ | refine iteB_f (by decide) ?_ | (refine Duo.mk (by first | omega | exact rfl | decide) ?_; intros) | (refine Duo.mk (Clo.mk (by kernel_rfl)) ?_; intros)))
  refine gives_i S2 (txtO_ok _ _) ?_
  intro H3 E3 S3
  (repeat (first | (refine Step.go ?_; intros) | refine iteB_t (by decide) ?_ | refine iteB_f (by decide) ?_ | (refine Duo.mk (by first | omega | exact rfl | decide) ?_; intros) | (refine Duo.mk (Clo.mk (by kernel_rfl)) ?_; intros)))
  exact ⟨rfl, Sat.grown⟩
end
theorem ord_bnd (a b : KV) (t : Int) : -1 ≤ ordK a b t ∧ ordK a b t ≤ 1 := by
  have h1 : ∀ x y, -1 ≤ numO x y ∧ numO x y ≤ 1 := by intro x y; unfold numO; split <;> (try split) <;> omega
  have h2 : ∀ x y, -1 ≤ txtO x y ∧ txtO x y ≤ 1 := by intro x y; unfold txtO; split <;> (try split) <;> omega
  unfold ordK
  split; exact h1 ..
  split; exact h1 ..
  split; exact h1 ..
  split; exact h2 ..
  exact h2 ..
theorem isort_adj {α : Type} {lt : α → α → Bool} : ∀ {X S : List α}, (∀ i a b, (S ++ X)[i]? = some a → (S ++ X)[i + 1]? = some b → lt b a = false) → isort lt S X = S ++ X
  | [], S, _ => by simp [isort]
  | x :: X, S, h => by
    unfold isort
    have e : sink lt x S.reverse [] = S ++ [x] := by
      rcases List.eq_nil_or_concat S with rfl | ⟨S0, y, rfl⟩
      · rfl
      · rw [List.concat_eq_append] at *
        rw [List.reverse_append]
        simp only [List.reverse_cons, List.reverse_nil, List.nil_append, List.cons_append]
        unfold sink
        have : lt x y = false := h S0.length y x (by simp) (by
          rw [List.append_assoc, List.getElem?_append_right (by omega)]
          have : S0.length + 1 - S0.length = 1 := by omega
          rw [this]; rfl)
        rw [this]
        simp
    rw [e, isort_adj (by simpa using h)]
    simp
/-- The reference's order: whether the new one goes on ahead. -/
def ltR (bb tg : Int) (x y : KV) : Bool := if bb = 2 then ahead tg y x else ahead tg x y
def sortR (bb tg : Int) (l : List KV) : List KV := if bb = 0 then l else isort (ltR bb tg) [] l
section
variable {H0 : Heap} {p : Option Addr} {n c : Nat} {l : List KV} {bb tg : Int}
theorem kvC_len (x : KV) : x.cells.length = 6 := rfl
theorem kvC_cell (x : KV) : ∀ v ∈ x.cells, isCell v = true := by intro v hv; simp [KV.cells] at hv; rcases hv with rfl | rfl | rfl | rfl | rfl | rfl <;> rfl
theorem ref_l5 [R0 : RowsC H0 p KV.cells 6 l] (hl : l.length = n) (hn : n < 1000) {i : Nat} {x : KV} (hx : l[i]? = some x) {A B : List KV} {q : Option Addr} {k : Nat} {H : Heap} {R : Ending → Heap → Prop} (hAB : A.length + B.length = i) (S : Sat H [sl KV.cells 27 6 q i k (A ++ B), old H0])
    (K : ∀ q' k' H1, Sat H1 [sl KV.cells 27 6 q' (i + 1) k' (A ++ x :: B), old H0] → F10.L2 p n c bb tg q' (i + 1) k' ((i + 1 : Nat) : Int) H1 R) : F10.L5 p n c bb tg q i k (i : Int) (A.length : Int) H R := by
  have hil := (List.getElem?_eq_some_iff.1 hx).1
  have hik := (S.slLen (List.mem_cons_self ..)).2
  have A1 : HasI l (i : Int) x := ⟨by simpa using hx⟩
  refine F10.L5_step ?_
  unfold F10.L5n
  refine ⟨by omega, by omega, ?_⟩
  rw [Int.toNat_natCast A.length]
  have rowA : ∀ {H : Heap}, Sat H [sl KV.cells 27 6 q i k (A ++ B), old H0] → RowsAt KV.cells 6 H (slP q 0 k 6) A := by
    intro H S
    have S1 := S.to (Ent.slPart (lo := 0) (hi := A.length) (mx := k) (by omega) (by omega) (Nat.le_refl _) (by omega))
    have e : (((A ++ B).drop 0).take (A.length - 0)) = A := by simp
    rw [e] at S1
    exact S1.rowsAt (List.mem_cons_self ..)
  have rowB : ∀ {H : Heap}, Sat H [sl KV.cells 27 6 q i k (A ++ B), old H0] → RowsAt KV.cells 6 H (slP q A.length k 6) B := by
    intro H S
    have S1 := S.to (Ent.slPart (lo := A.length) (hi := i) (mx := k) (by omega) (by omega) (Nat.le_refl _) (Nat.le_refl _))
    have e : (((A ++ B).drop A.length).take (i - A.length)) = B := by rw [List.drop_left]; exact List.take_of_length_le (by omega)
    rw [e] at S1
    exact S1.rowsAt (List.mem_cons_self ..)
  refine dup_i S (rowA S) rfl kvC_len kvC_cell rfl (by decide) (by omega) ?_
  intro q1 k1 H1 E1 S1
  refine R0.idx hl ⟨by omega, by omega, ?_⟩
  rintro a rfl
  (repeat (first | (refine Step.go ?_; intros) | refine iteB_t (by decide) ?_ | refine iteB_f (by decide) ?_ | (refine Duo.mk (by first | omega | exact rfl | decide) ?_; intros) | (refine Duo.mk (Clo.mk (by kernel_rfl)) ?_; intros)))
  rename_i q2 k2 H3 S3
  rw [Int.toNat_natCast A.length]
  have S4 : Sat H3 (sl KV.cells 27 6 q2 (A.length + 1) k2 (A ++ [x]) :: [sl KV.cells 27 6 q i k (A ++ B), old H0]) := S3.to (m := sl KV.cells 27 6 q2 (A.length + 1) k2 (A ++ [⟨x.key, x.val, x.cr, x.md, x.ver, x.lease⟩]) :: [sl KV.cells 27 6 q i k (A ++ B), old H0]) Fits.out
  have w1 : IntKind.wrap .i64 ((i : Int) + 1) = ((i + 1 : Nat) : Int) := by rw [wr (by omega) (by omega)]; omega
  refine S4.slApp (ys := B) ((rowB (S4.to (.drop .refl))).cells kvC_len) (by omega) (fun y _ => rfl) (fun v hv => ?_) rfl (by decide) (by omega) ?_
  · obtain ⟨y, _, hv⟩ := List.mem_flatMap.1 hv
    exact kvC_cell y v hv
  intro q3 k3 H4 S5
  have e : A.length + 1 + (i - A.length) = i + 1 := by omega
  rw [e] at S5 ⊢
  rw [w1]
  refine K q3 k3 H4 ?_
  rw [List.append_assoc] at S5
  have S6 : Sat H4 [sl KV.cells 27 6 q3 (i + 1) k3 (A ++ x :: B), sl KV.cells 27 6 q i k (A ++ B), old H0] := S5
  exact S6.to Fits.out
theorem ref_l3 [R0 : RowsC H0 p KV.cells 6 l] (hl : l.length = n) (hn : n < 1000) {i : Nat} {x : KV} (hx : l[i]? = some x) {q : Option Addr} {k : Nat} {R : Ending → Heap → Prop} : ∀ (Ra B : List KV) (H : Heap), Ra.length + B.length = i → Sat H [sl KV.cells 27 6 q i k (Ra.reverse ++ B), old H0] →
    (∀ q' k' H1, Sat H1 [sl KV.cells 27 6 q' (i + 1) k' (sink (ltR bb tg) x Ra B), old H0] → F10.L2 p n c bb tg q' (i + 1) k' ((i + 1 : Nat) : Int) H1 R) → F10.L3 p n c bb tg q i k (i : Int) (Ra.length : Int) H R := by
  intro Ra
  have hil := (List.getElem?_eq_some_iff.1 hx).1
  have A1 : HasI l (i : Int) x := ⟨by simpa using hx⟩
  induction Ra with
  | nil =>
    intro B H hi S K
    refine F10.L3_step ?_
    unfold F10.L3n
    refine iteB_f (by simp) ?_
    exact ref_l5 (A := []) hl hn hx hi S K
  | cons y Ra ih =>
    intro B H hi S K
    have hRi : Ra.length < i := by simp at hi; omega
    have e0 : (y :: Ra).reverse ++ B = Ra.reverse ++ y :: B := by simp
    rw [e0] at S
    have w1 : IntKind.wrap .i64 (((y :: Ra).length : Int) - 1) = (Ra.length : Int) := by simp only [List.length_cons]; rw [wr (by omega) (by omega)]; omega
    have I1 : HasI (Ra.reverse ++ y :: B) (Ra.length : Int) y := ⟨by rw [Int.toNat_natCast, List.getElem?_append_right (by simp)]; simp⟩
    refine F10.L3_step ?_
    unfold F10.L3n
    refine iteB_t (by simp) ?_
    rw [w1]
    refine S.idx ⟨by omega, by omega, ?_⟩
    rintro r o rfl
    refine R0.idx hl ⟨by omega, by omega, ?_⟩
    rintro a rfl
    (repeat (first | (refine Step.go ?_; intros) | refine iteB_t (by decide) ?_ | refine iteB_f (by decide) ?_ | (refine Duo.mk (by first | omega | exact rfl | decide) ?_; intros) | (refine Duo.mk (Clo.mk (by kernel_rfl)) ?_; intros)))
    refine gives_i S (ordK_ok y x tg) ?_
    intro H1 E1 S1
    have hb := ord_bnd y x tg
    have fin : ∀ (v : Int), decide (0 < v) = ltR bb tg x y → F10.L4 (some a) n c bb tg (some ⟨r, o, none⟩) i k (i : Int) ((y :: Ra).length : Int) v H1 R := by
      intro v hv
      refine F10.L4_step ?_
      unfold F10.L4n
      refine iteB_i (fun h => ?_) (fun h => ?_)
      · have h := of_decide_eq_true h
        have hlt : ltR bb tg x y = false := by rw [← hv]; exact decide_eq_false (by omega)
        have := ref_l5 (p := some a) (A := (y :: Ra).reverse) (B := B) (bb := bb) (tg := tg) (c := c) (R := R) hl hn hx (by simpa using hi) (by rw [e0]; exact S1) ?_
        · simpa using this
        · intro q' k' H2 S2
          refine K q' k' H2 ?_
          unfold sink
          rw [hlt, if_neg (by simp)]
          have e1 : (y :: Ra).reverse ++ x :: B = Ra.reverse ++ y :: x :: B := by simp
          rw [← e1]
          exact S2
      · have h := of_decide_eq_false h
        have hlt : ltR bb tg x y = true := by rw [← hv]; exact decide_eq_true (by omega)
        rw [w1]
        refine ih (y :: B) H1 (by simp at hi ⊢; omega) S1 ?_
        intro q' k' H2 S2
        refine K q' k' H2 ?_
        unfold sink
        rw [hlt, if_pos rfl]
        exact S2
    (repeat (first | (refine Step.go ?_; intros) | refine iteB_t (by decide) ?_ | refine iteB_f (by decide) ?_ | (refine Duo.mk (by first | omega | exact rfl | decide) ?_; intros) | (refine Duo.mk (Clo.mk (by kernel_rfl)) ?_; intros)))
    refine iteB_i (fun h => ?_) (fun h => ?_)
    · have h := eq_of_beq h
      refine fin _ ?_
      rw [wr (by omega) (by omega)]
      unfold ltR
      rw [if_pos h, ← ord_neg, Bool.eq_iff_iff, decide_eq_true_iff, decide_eq_true_iff]
      omega
    · have h : ¬ bb = 2 := by simpa using h
      refine fin _ ?_
      unfold ltR
      rw [if_neg h]
      exact ord_pos
theorem ref_l2 [R0 : RowsC H0 p KV.cells 6 l] (hl : l.length = n) (hn : n < 1000) : ∀ (d i : Nat) (out : List KV) (q : Option Addr) (k : Nat) (H : Heap), i + d = n → out.length = i → Sat H [sl KV.cells 27 6 q i k out, old H0] →
    F10.L2 p n c bb tg q i k (i : Int) H (fun e H1 => ∃ x : PA, e = .returned (.slice x.1 n x.2) ∧ Sat H1 [sl KV.cells 27 6 x.1 n x.2 (isort (ltR bb tg) out (l.drop i)), old H0]) := by
  intro d
  induction d with
  | zero =>
    intro i out q k H hi ho S
    refine F10.L2_step ?_
    unfold F10.L2n
    refine iteB_f (by rw [decide_eq_false_iff_not]; omega) ?_
    obtain rfl : i = n := by omega
    rw [List.drop_eq_nil_of_le (by omega)]
    exact ⟨(q, k), rfl, S⟩
  | succ d ih =>
    intro i out q k H hi ho S
    obtain ⟨x, hx⟩ := get_of (l := l) (i := i) (by omega)
    have ed : l.drop i = x :: l.drop (i + 1) := by
      have h5 := List.getElem?_eq_some_iff.1 hx
      rw [List.drop_eq_getElem_cons h5.1, h5.2]
    refine F10.L2_step ?_
    unfold F10.L2n
    refine iteB_t (by rw [decide_eq_true_iff]; omega) ?_
    have := ref_l3 (p := p) (R := fun e H1 => ∃ x : PA, e = .returned (.slice x.1 n x.2) ∧ Sat H1 [sl KV.cells 27 6 x.1 n x.2 (isort (ltR bb tg) out (l.drop i)), old H0]) (bb := bb) (tg := tg) (c := c) (q := q) (k := k) hl hn hx out.reverse [] H (by simpa using ho) (by simpa using S) ?_
    · simpa [ho] using this
    · intro q' k' H1 S1
      rw [ed]
      show F10.L2 _ _ _ _ _ _ _ _ _ _ (fun e H1 => ∃ x_1 : PA, e = .returned (.slice x_1.1 n x_1.2) ∧ Sat H1 [sl KV.cells 27 6 x_1.1 n x_1.2 (isort (ltR bb tg) (sink (ltR bb tg) x out.reverse []) (l.drop (i + 1))), old H0])
      exact ih (i + 1) _ q' k' H1 (by omega) (by rw [sink_len]; simp; omega) S1
theorem ref_ok {H : Heap} (hR : RowsAt KV.cells 6 H p l) (hl : l.length = n) (hn : n < 1000) : CallsH Try.prog 10 ⟨[.slice p n c, .int .i64 bb, .int .i64 tg]⟩ H (fun e H1 => ∃ x : PA, e = .returned (.slice x.1 n x.2) ∧ ExtH H H1 ∧ RowsAt KV.cells 6 H1 x.1 (sortR (by1 bb tg) tg l)) := by
  have R0 : RowsC H p KV.cells 6 l := ⟨hR⟩
  have S := Sat.start H
  have l1 : ∀ b, F10.L1 p n c b tg H (fun e H1 => ∃ x : PA, e = .returned (.slice x.1 n x.2) ∧ ExtH H H1 ∧ RowsAt KV.cells 6 H1 x.1 (sortR b tg l)) := by
    intro b
    refine F10.L1_step ?_
    unfold F10.L1n
    unfold sortR
    refine iteB_i (fun h => ?_) (fun h => ?_)
    · rw [if_pos (eq_of_beq h)]
      exact ⟨(p, c), rfl, ExtH.refl H, hR⟩
    · rw [if_neg (by simpa using h)]
      refine GoL.mono (ref_l2 (bb := b) (tg := tg) (c := c) hl hn n 0 [] none 0 H (by omega) rfl (S.to (.slNil .refl))) ?_
      rintro e H1 ⟨x, rfl, S1⟩
      exact ⟨x, rfl, Sat.grown, S1.rowsAt (List.mem_cons_self ..)⟩
  refine F10.calls ?_
  unfold F10.go
  unfold by1
  refine iteB_i (fun h => ?_) (fun h => ?_)
  · have h := eq_of_beq h
    refine iteB_i (fun h2 => ?_) (fun h2 => ?_)
    · have h2 : ¬ tg = 0 := by simpa using h2
      rw [if_pos ⟨h2, h⟩]
      refine F10.L0_step ?_
      unfold F10.L0n
      exact l1 1
    · have h2 : tg = 0 := by simpa using h2
      rw [if_neg (by rintro ⟨h3, _⟩; exact h3 h2)]
      exact l1 bb
  · have h : ¬ bb = 0 := by simpa using h
    rw [if_neg (by rintro ⟨_, h3⟩; exact h h3)]
    exact l1 bb
end
end Go.Proofs.Ytcejmnfjkdjobaa
