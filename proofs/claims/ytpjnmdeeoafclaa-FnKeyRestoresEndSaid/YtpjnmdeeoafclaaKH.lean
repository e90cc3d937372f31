/- What functions of this seat do, each proved by a walk; no condition. -/
import Derived.Test.YtpjnmdeeoafclaaKG
set_option linter.unusedVariables false
set_option linter.unusedSimpArgs false
namespace Go.Proofs.Ytpjnmdeeoafclaa
open Go Go.Den Go.Proofs
/-! Compacting. -/
theorem eu2 : Try.prog.underlying 2 = some (.int .i64) := by kernel_rfl
theorem ea2 : aggT Try.prog 2 = false := by kernel_rfl
theorem pkT60 {a0 b0 : Int} {a1 b1 : Int} : pureV Try.prog (Op.equal 60 (.agg ⟨[.int .i64 a0, .int .i64 a1]⟩) (.agg ⟨[.int .i64 b0, .int .i64 b1]⟩)) = some ([a0 == b0, a1 == b1].all id) := by
  rw [eq_one]
  refine pureEq_struct (P := Try.prog) (fs := #[{ name := "Main", type := 2, offset := 0, embedded := false, tag := "", pkgPath := "", byteOffset := 0 }, { name := "Sub", type := 2, offset := 1, embedded := false, tag := "", pkgPath := "", byteOffset := 8 }])
    (bs := [a0 == b0, a1 == b1]) (by kernel_rfl) (by kernel_rfl) ?_
  refine .cons (by decide) (purePart_leaf eu2 ea2 rfl) (purePart_leaf eu2 ea2 rfl) (pureEq_int eu2) ?_
  refine .cons (by decide) (purePart_leaf eu2 ea2 rfl) (purePart_leaf eu2 ea2 rfl) (pureEq_int eu2) .nil
theorem und96 : Try.prog.underlying 96 = some (.map 60 141) := by kernel_rfl
theorem und60 : Try.prog.underlying 60 = some (.struct #[{ name := "Main", type := 2, offset := 0, embedded := false, tag := "", pkgPath := "", byteOffset := 0 }, { name := "Sub", type := 2, offset := 1, embedded := false, tag := "", pkgPath := "", byteOffset := 8 }]) := by kernel_rfl
def eqR (r : Rv) (v : Value) : Bool := match v with | .agg ⟨[.int .i64 a, .int .i64 b]⟩ => r.1 == a && r.2 == b | _ => false
theorem eqR_rev (r x : Rv) : eqR r (rvV x) = (r == x) := by
  obtain ⟨a, b⟩ := r
  obtain ⟨c, d⟩ := x
  rfl
theorem revKey (b : Bool) (r : Rv) : pureV Try.prog (Instr.checkKey b 10000 60 (rvV r)) = some () := by
  refine checkKey_struct und60 ?_
  refine .cons (by decide) (purePart_leaf eu2 ea2 rfl) (checkKey_int eu2) ?_
  exact .cons (by decide) (purePart_leaf eu2 ea2 rfl) (checkKey_int eu2) .nil
theorem zero141 : pureV Try.prog (zeroValue 141) = some (.agg ⟨[]⟩) := by kernel_rfl
abbrev fu (_ : Unit) : Value := .agg ⟨[]⟩
instance {a b : Int} : EncV rvV (.agg ⟨[.int .i64 a, .int .i64 b]⟩) (a, b) := ⟨rfl⟩
instance : EncV fu (.agg ⟨[]⟩) () := ⟨rfl⟩
instance : MapT Try.prog 96 rvV fu (.agg ⟨[]⟩) := ⟨60, 141, und96, ⟨fun b k => revKey b k, fun k => ⟨eqR k, fun k' => by
    rw [eqR_rev]; exact Bool.eq_iff_iff.2 (by simp), fun es h => by
    refine findKey_struct und60 fun e he => ?_
    obtain ⟨x, hx⟩ := h e he
    rw [hx, eqR_rev]
    refine (pkT60 (a0 := k.1) (b0 := x.1) (a1 := k.2) (b1 := x.2)).trans ?_
    obtain ⟨a, b⟩ := k
    obtain ⟨c, d⟩ := x
    show some ((a == c) && ((b == d) && true)) = some ((a == c) && (b == d))
    simp⟩, fun k => by
    obtain ⟨a, b⟩ := k
    simp [Instr.sameBits, rvV]⟩, zero141⟩
/-- The generation in which a number lies, or behind it. -/
def dcN (t : Int) (G : List Gn) : Nat → Nat → Nat
  | k, 0 => k
  | k, m + 1 => if lastM (nthG G k).2.2 ≥ t then k else dcN t G (k + 1) m
abbrev rmp (mr : Nat) (m : List (Rv × Unit)) : HP := mp rvV fu mr m
abbrev cpA (t : Int) (a b mr : Nat) (m : List (Rv × Unit)) : HP := star [pt a (.cells ⟨[.int .i64 t]⟩ 2), pt b (.cells ⟨[.map (some mr)]⟩ 96), rmp mr m]
theorem upto_ok {x : Rv} {t : Int} {a b mr : Nat} {m : List (Rv × Unit)} {l : List HP} {H : Heap} (S : Sat H (cpA t a b mr m :: l)) : CallsH Try.prog 84 ⟨[] ++ [.agg ⟨[.int .i64 x.1, .int .i64 x.2]⟩] ++ [.pointer (some ⟨a, 0, none⟩), .pointer (some ⟨b, 0, none⟩)]⟩ H
    (fun e H1 => if x.1 ≤ t then e = .returned (.bool false) ∧ Sat H1 (cpA t a b mr (mset m x ()) :: l) else e = .returned (.bool true) ∧ Sat H1 (cpA t a b mr m :: l)) := by
  replace S := S.star
  simp only [List.cons_append, List.nil_append] at S
  refine F84.calls ?_
  unfold F84.go
  (repeat (first | (refine Step.go ?_; intros) | refine iteB_t (by decide) ?_ | refine iteB_f (by decide) ?_ | (refine Duo.mk (by first | omega | exact rfl | decide) ?_; intros) | (refine Duo.mk (Clo.mk (by kernel_rfl)) ?_; intros)))
  refine iteB_i (fun h => ?_) (fun h => ?_)
  · (repeat (first | (refine Step.go ?_; intros) | refine iteB_t (by decide) ?_ | refine iteB_f (by decide) ?_ | (refine Duo.mk (by first | omega | exact rfl | decide) ?_; intros) | (refine Duo.mk (Clo.mk (by kernel_rfl)) ?_; intros)))
    rename_i S1
    exact (if_pos (of_decide_eq_true h)).mpr ⟨rfl, S1.to (.drop (.star .refl))⟩
  · rename_i S1
    exact (if_neg (of_decide_eq_false h)).mpr ⟨rfl, S1.to (.drop (.star .refl))⟩
section
variable {kb : Nat} {key : Value} {md : Rv} {p : Option Addr} {n c : Nat} {X : List GX} {l : List HP} {H : Heap}
theorem nthG_of {i : Nat} {x : GX} (h : X[i]? = some x) : nthG (X.map gx) i = gx x := by unfold nthG; rw [List.getD_eq_getElem?_getD, List.getElem?_map, h]; rfl
def wkM (m : List (Rv × Unit)) (rs : List Rv) : Option Nat → List (Rv × Unit)
  | none => m
  | some j => mset m (rs.getD j (0, 0)) ()
theorem dcN_ge {t : Int} {G : List Gn} : ∀ (m k : Nat), k ≤ dcN t G k m ∧ dcN t G k m ≤ k + m := by
  intro m
  induction m with
  | zero => intro k; exact ⟨Nat.le_refl _, Nat.le_refl _⟩
  | succ m ih =>
    intro k
    unfold dcN
    split
    · omega
    · have := ih (k + 1); omega
theorem dc_loop {t : Int} {a b mr : Nat} {m : List (Rv × Unit)} {r o : Nat} (hn : n < 100000) (hr : ∀ x ∈ X, x.2.length < 100000) (hne : ∀ i x, X[i]? = some x → i + 1 < n → x.2 ≠ []) : ∀ (d k : Nat) (Z : Int) (H : Heap), k + d + 1 = n → Z = (k : Int) → Sat H (cpA t a b mr m :: kis kb key md (some ⟨r, o, none⟩) n c X l) →
    F73.L0 (some ⟨kb, 0, none⟩) a Z a b (Addr.add ⟨r, o, none⟩ (Int.toNat Z * 4)) H (fun e H1 => ∃ i x, i = dcN t (X.map gx) k d ∧ X[i]? = some x ∧ e = .returned (.tuple ⟨[.int .i64 (i : Int), .int .i64 (wkI (wkO t x.2 x.2.length))]⟩) ∧ Sat H1 (cpA t a b mr (wkM m x.2 (wkO t x.2 x.2.length)) :: kis kb key md (some ⟨r, o, none⟩) n c X l)) := by
  intro d
  have T : ∀ (k : Nat) (Z : Int) (H : Heap), k < n → Z = (k : Int) → Sat H (cpA t a b mr m :: kis kb key md (some ⟨r, o, none⟩) n c X l) →
      F73.L1 Z a b (Addr.add ⟨r, o, none⟩ (Int.toNat Z * 4)) H (fun e H1 => ∃ x, X[k]? = some x ∧ e = .returned (.tuple ⟨[.int .i64 (k : Int), .int .i64 (wkI (wkO t x.2 x.2.length))]⟩) ∧ Sat H1 (cpA t a b mr (wkM m x.2 (wkO t x.2 x.2.length)) :: kis kb key md (some ⟨r, o, none⟩) n c X l)) := by
    intro k Z H hk hZ S
    subst hZ
    obtain ⟨h1, h2⟩ := kis_len (S.to (.drop .refl))
    obtain ⟨⟨⟨ver, cr, p1, n1, c1⟩, rs⟩, hx⟩ := get_of (l := X) (i := k) (by omega)
    have hl : rs.length = n1 := kis_rvs hx (S.to (.drop .refl))
    have hr1 : rs.length < 100000 := hr _ (List.mem_of_getElem? hx)
    have A1 : HasI (X.map (·.1)) (k : Int) ⟨ver, cr, p1, n1, c1⟩ := hasX hx
    have A2 := atX' hx
    refine F73.L1_step ?_
    unfold F73.L1n
    refine call_of (walk_ok (t := t) (p := p1) (n := n1) (c := c1) (rs := rs) (A := cpA t a b mr m) (B := fun x => cpA t a b mr (mset m x ())) (by omega) inferInstance hl ?_ (by kernel_rfl) ?_ S) ?_
    · intro H S
      exact elt_cell (α := GS) (f := GS.cells) (E := 105) (z := 4) (a := ⟨r, o, none⟩) (n := n) (c := c) (i := (k : Int)) (j := 3) (x := ⟨ver, cr, p1, n1, c1⟩) (xs := List.map (fun (x : GX) => x.1) X) S inferInstance inferInstance A1 inferInstance
    · intro x H S
      exact upto_ok S
    rintro e H5 ⟨rfl, S5⟩
    (repeat (first | (refine Step.go ?_; intros) | refine iteB_t (by decide) ?_ | refine iteB_f (by decide) ?_ | (refine Duo.mk (by first | omega | exact rfl | decide) ?_; intros) | (refine Duo.mk (Clo.mk (by kernel_rfl)) ?_; intros)))
    refine ⟨(⟨ver, cr, p1, n1, c1⟩, rs), hx, rfl, ?_⟩
    dsimp only
    cases hw : wkO t rs rs.length with
    | none => rw [hw] at S5; exact S5
    | some j => rw [hw] at S5; exact S5
  induction d with
  | zero =>
    intro k Z H hk hZ S
    have w1 : IntKind.wrap .i64 ((n : Int) - 1) = (n : Int) - 1 := wr (by omega) (by omega)
    refine F73.L0_step ?_
    unfold F73.L0n
    (repeat (first | (refine Step.go ?_; intros) | refine iteB_t (by decide) ?_ | refine iteB_f (by decide) ?_ | (refine Duo.mk (by first | omega | exact rfl | decide) ?_; intros) | (refine Duo.mk (Clo.mk (by kernel_rfl)) ?_; intros)))
    refine iteB_f (by rw [w1, decide_eq_false_iff_not]; omega) ?_
    refine GoL.mono (T k Z H (by omega) hZ S) ?_
    rintro e H1 ⟨x, hx, rfl, S1⟩
    exact ⟨k, x, rfl, hx, rfl, S1⟩
  | succ d ih =>
    intro k Z H hk hZ S
    have w1 : IntKind.wrap .i64 ((n : Int) - 1) = (n : Int) - 1 := wr (by omega) (by omega)
    have w2 : IntKind.wrap .i64 ((k : Int) + 1) = ((k + 1 : Nat) : Int) := by rw [wr (by omega) (by omega)]; omega
    obtain ⟨h1, h2⟩ := kis_len (S.to (.drop .refl))
    obtain ⟨⟨⟨ver, cr, p1, n1, c1⟩, rs⟩, hx⟩ := get_of (l := X) (i := k) (by omega)
    have hl : rs.length = n1 := kis_rvs hx (S.to (.drop .refl))
    have hr1 : rs.length < 100000 := hr _ (List.mem_of_getElem? hx)
    have h0 : rs ≠ [] := hne _ _ hx (by omega)
    have hn1 : 0 < n1 := by have := List.length_pos_iff.2 h0; omega
    have w3 : IntKind.wrap .i64 ((n1 : Int) - 1) = (n1 : Int) - 1 := wr (by omega) (by omega)
    have A3 := hasLast' (d := ((0, 0) : Rv)) hl h0 (by omega)
    have A1 : HasI (X.map (·.1)) (k : Int) ⟨ver, cr, p1, n1, c1⟩ := hasX hx
    have A2 := atX' hx
    subst hZ
    refine F73.L0_step ?_
    unfold F73.L0n
    (repeat (first | (refine Step.go ?_; intros) | refine iteB_t (by decide) ?_ | refine iteB_f (by decide) ?_ | (refine Duo.mk (by first | omega | exact rfl | decide) ?_; intros) | (refine Duo.mk (Clo.mk (by kernel_rfl)) ?_; intros)))
    refine iteB_t (by rw [w1, decide_eq_true_iff]; omega) ?_
    (repeat (first | (refine Step.go ?_; intros) | refine iteB_t (by decide) ?_ | refine iteB_f (by decide) ?_ | (refine Duo.mk (by first | omega | exact rfl | decide) ?_; intros) | (refine Duo.mk (Clo.mk (by kernel_rfl)) ?_; intros)))
    refine S.idx (p := p1) ⟨by first | omega | (dsimp only; omega), by first | omega | (dsimp only; omega), ?_⟩
    rintro r2 o2 rfl
    (repeat (first | (refine Step.go ?_; intros) | refine iteB_t (by decide) ?_ | refine iteB_f (by decide) ?_ | (refine Duo.mk (by first | omega | exact rfl | decide) ?_; intros) | (refine Duo.mk (Clo.mk (by kernel_rfl)) ?_; intros)))
    have en : nthG (X.map gx) k = (ver, cr, rs) := nthG_of hx
    refine iteB_i (fun h => ?_) (fun h => ?_)
    · have h := of_decide_eq_true h
      have ed : dcN t (X.map gx) k (d + 1) = k := by unfold dcN; rw [en]; exact if_pos h
      refine GoL.mono (T k (k : Int) H (by omega) rfl S) ?_
      rintro e H1 ⟨x, hx, rfl, S1⟩
      exact ⟨k, x, ed.symm, hx, rfl, S1⟩
    · have h := of_decide_eq_false h
      have ed : dcN t (X.map gx) k (d + 1) = dcN t (X.map gx) (k + 1) d := by
        show (if lastM (nthG (X.map gx) k).2.2 ≥ t then k else _) = _
        rw [en]; exact if_neg h
      rw [w2, ed]
      (repeat (first | (refine Step.go ?_; intros) | refine iteB_t (by decide) ?_ | refine iteB_f (by decide) ?_ | (refine Duo.mk (by first | omega | exact rfl | decide) ?_; intros) | (refine Duo.mk (Clo.mk (by kernel_rfl)) ?_; intros)))
      exact ih (k + 1) ((k + 1 : Nat) : Int) H (by omega) rfl S
theorem dc_ok {t : Int} {mr : Nat} {m : List (Rv × Unit)} {r o : Nat} (hn : n < 100000) (h0 : 0 < n) (hr : ∀ x ∈ X, x.2.length < 100000) (hne : ∀ i x, X[i]? = some x → i + 1 < n → x.2 ≠ []) (S : Sat H (rmp mr m :: kis kb key md (some ⟨r, o, none⟩) n c X l)) :
    CallsH Try.prog 73 ⟨[.pointer (some ⟨kb, 0, none⟩), .int .i64 t, .map (some mr)]⟩ H (fun e H1 => ∃ i x, i = dcN t (X.map gx) 0 (n - 1) ∧ X[i]? = some x ∧ e = .returned (.tuple ⟨[.int .i64 (i : Int), .int .i64 (wkI (wkO t x.2 x.2.length))]⟩) ∧ Sat H1 (rmp mr (wkM m x.2 (wkO t x.2 x.2.length)) :: kis kb key md (some ⟨r, o, none⟩) n c X l)) := by
  refine F73.calls ?_
  unfold F73.go
  (repeat (first | (refine Step.go ?_; intros) | refine iteB_t (by decide) ?_ | refine iteB_f (by decide) ?_ | (refine Duo.mk (by first | omega | exact rfl | decide) ?_; intros) | (refine Duo.mk (Clo.mk (by kernel_rfl)) ?_; intros)))
  rename_i a _ _ b H1 S1
  have S2 : Sat H1 (cpA t a b mr m :: kis kb key md (some ⟨r, o, none⟩) n c X l) := S1.to (.star (by simp only [List.cons_append, List.nil_append]; exact Fits.out))
  refine GoL.mono (dc_loop (t := t) hn hr hne (n - 1) 0 0 _ (by omega) rfl S2) ?_
  rintro e H2 ⟨i, x, h1, h2, h3, S3⟩
  refine ⟨i, x, h1, h2, h3, ?_⟩
  refine S3.to ?_
  refine .starL ?_
  simp only [List.cons_append, List.nil_append]
  exact Fits.out
end
end Go.Proofs.Ytpjnmdeeoafclaa
