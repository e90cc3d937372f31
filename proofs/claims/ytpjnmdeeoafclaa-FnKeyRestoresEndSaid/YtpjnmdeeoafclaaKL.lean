/- What functions of this seat do, each proved by a walk; no condition. -/
import Derived.Test.YtpjnmdeeoafclaaKJ
set_option linter.unusedVariables false
set_option linter.unusedSimpArgs false
namespace Go.Proofs.Ytpjnmdeeoafclaa
open Go Go.Den Go.Proofs
/-! All since a number. -/
def sStep (t : Int) (st : List Rv × Int) (r : Rv) : List Rv × Int := if gtB (t, 0) r then st else if r.1 = st.2 then (st.1.dropLast ++ [r], st.2) else (st.1 ++ [r], r.1)
def sgi (t : Int) (G : List Gn) : Nat → Nat
  | 0 => 0
  | k + 1 => if (nthG G (k + 1)).2.2 = [] then sgi t G k else if gtB (t, 0) (nthG G (k + 1)).2.1 then k + 1 else sgi t G k
def sinceG (t : Int) (G : List Gn) : List Rv := (((G.drop (sgi t G (G.length - 1))).flatMap (·.2.2)).foldl (sStep t) ([], 0)).1
def StOk (st : List Rv × Int) : Prop := st.1 = [] → st.2 = 0
theorem sStep_ok {t : Int} {st : List Rv × Int} {r : Rv} (h : StOk st) : StOk (sStep t st r) := by
  unfold sStep
  split
  · exact h
  · split <;> (intro h2; simp at h2)
theorem sStep_len {t : Int} {st : List Rv × Int} {r : Rv} : (sStep t st r).1.length ≤ st.1.length + 1 := by
  unfold sStep
  split
  · omega
  · split
    · simp only [List.length_append, List.length_dropLast, List.length_cons, List.length_nil]; omega
    · simp
theorem fold_ok {t : Int} : ∀ {rs : List Rv} {st : List Rv × Int}, StOk st → StOk (rs.foldl (sStep t) st) ∧ (rs.foldl (sStep t) st).1.length ≤ st.1.length + rs.length := by
  intro rs
  induction rs with
  | nil => intro st h; exact ⟨h, Nat.le_refl _⟩
  | cons r rs ih =>
    intro st h
    have h2 := ih (st := sStep t st r) (sStep_ok h)
    have h3 := sStep_len (t := t) (st := st) (r := r)
    refine ⟨h2.1, ?_⟩
    have := h2.2
    simp only [List.foldl_cons, List.length_cons]
    omega
section
variable {kb : Nat} {key : Value} {md : Rv} {p : Option Addr} {n c : Nat} {X : List GX} {l : List HP} {H : Heap}
theorem gemp2_ok {r : Nat} {a b d : Value} {p1 : Option Addr} {n1 c1 : Nat} (S : Sat H (pt r (.cells ⟨[a, b, d, .slice p1 n1 c1]⟩ 105) :: l)) : CallsH Try.prog 68 ⟨[.pointer (some ⟨r, 0, none⟩)]⟩ H
    (fun e H1 => e = .returned (.bool ((n1 : Int) == 0)) ∧ Sat H1 (pt r (.cells ⟨[a, b, d, .slice p1 n1 c1]⟩ 105) :: l)) := by
  refine F68.calls ?_
  unfold F68.go
  refine iteB_f rfl ?_
  (repeat (first | (refine Step.go ?_; intros) | refine iteB_t (by decide) ?_ | refine iteB_f (by decide) ?_ | (refine Duo.mk (by first | omega | exact rfl | decide) ?_; intros) | (refine Duo.mk (Clo.mk (by kernel_rfl)) ?_; intros)))
  exact ⟨rfl, S⟩
abbrev snc (s7 : Nat) (t : Int) : HP := pt s7 (.cells ⟨[.int .i64 t, .int .i64 0]⟩ 60)
theorem sgi_loop {t : Int} {s7 r o : Nat} {R : Ending → Heap → Prop} (hn : n < 100000) : ∀ (k : Nat) (Z : Int) (H : Heap), k < n → Z = (k : Int) → Sat H (snc s7 t :: kis kb key md (some ⟨r, o, none⟩) n c X l) →
    (∀ H', Sat H' (snc s7 t :: kis kb key md (some ⟨r, o, none⟩) n c X l) → F60.L2 (some ⟨kb, 0, none⟩) s7 ((sgi t (X.map gx) k : Nat) : Int) H' R) → F60.L1 (some ⟨kb, 0, none⟩) s7 Z H R := by
  intro k
  induction k with
  | zero =>
    intro Z H hk hZ S K
    subst hZ
    refine F60.L1_step ?_
    unfold F60.L1n
    refine iteB_f (by rfl) ?_
    exact K H S
  | succ k ih =>
    intro Z H hk hZ S K
    subst hZ
    obtain ⟨h1, h2⟩ := kis_len (S.to (.drop .refl))
    obtain ⟨⟨⟨ver, cr, p1, n1, c1⟩, rs⟩, hx⟩ := get_of (l := X) (i := k + 1) (by omega)
    have hl : rs.length = n1 := kis_rvs hx (S.to (.drop .refl))
    have A1 : HasI (X.map (·.1)) ((k + 1 : Nat) : Int) ⟨ver, cr, p1, n1, c1⟩ := hasX hx
    have en : nthG (X.map gx) (k + 1) = (ver, cr, rs) := nthG_of hx
    have w1 : IntKind.wrap .i64 (((k + 1 : Nat) : Int) - 1) = (k : Int) := by rw [wr (by omega) (by omega)]; omega
    refine F60.L1_step ?_
    unfold F60.L1n
    refine iteB_t (by rw [decide_eq_true_iff]; omega) ?_
    (repeat (first | (refine Step.go ?_; intros) | refine iteB_t (by decide) ?_ | refine iteB_f (by decide) ?_ | (refine Duo.mk (by first | omega | exact rfl | decide) ?_; intros) | (refine Duo.mk (Clo.mk (by kernel_rfl)) ?_; intros)))
    rename_i r1 _ _ _ _ _ _ _ _ H1 S1
    dsimp only at S1 ⊢
    refine call_of (gemp2_ok S1) ?_
    rintro e H2 ⟨rfl, S2⟩
    (repeat (first | (refine Step.go ?_; intros) | refine iteB_t (by decide) ?_ | refine iteB_f (by decide) ?_ | (refine Duo.mk (by first | omega | exact rfl | decide) ?_; intros) | (refine Duo.mk (Clo.mk (by kernel_rfl)) ?_; intros)))
    have nxt : sgi t (X.map gx) (k + 1) = sgi t (X.map gx) k → ∀ H', Sat H' (snc s7 t :: kis kb key md (some ⟨r, o, none⟩) n c X l) → F60.L6 (some ⟨kb, 0, none⟩) s7 ((k + 1 : Nat) : Int) H' R := by
      intro h9 H' S'
      refine F60.L6_step ?_
      unfold F60.L6n
      rw [w1]
      exact ih _ H' (by omega) rfl S' (by rw [← h9]; exact K)
    refine iteB_i (fun h => ?_) (fun h => ?_)
    · have h0 : rs = [] := List.eq_nil_of_length_eq_zero (by simp at h; omega)
      exact nxt (by show (if (nthG (X.map gx) (k + 1)).2.2 = [] then _ else _) = _; rw [en]; exact if_pos h0) H2 (S2.to (.drop .refl))
    · have h0 : rs ≠ [] := by intro h0; rw [h0] at hl; simp at h hl; omega
      (repeat (first | (refine Step.go ?_; intros) | refine iteB_t (by decide) ?_ | refine iteB_f (by decide) ?_ | (refine Duo.mk (by first | omega | exact rfl | decide) ?_; intros) | (refine Duo.mk (Clo.mk (by kernel_rfl)) ?_; intros)))
      refine gives_i S2 (gt_ok (t, 0) cr _) ?_
      intro H3 E S3
      (repeat (first | (refine Step.go ?_; intros) | refine iteB_t (by decide) ?_ | refine iteB_f (by decide) ?_ | (refine Duo.mk (by first | omega | exact rfl | decide) ?_; intros) | (refine Duo.mk (Clo.mk (by kernel_rfl)) ?_; intros)))
      refine iteB_i (fun h3 => ?_) (fun h3 => ?_)
      · have e9 : sgi t (X.map gx) (k + 1) = k + 1 := by
          show (if (nthG (X.map gx) (k + 1)).2.2 = [] then _ else _) = _
          rw [en]
          exact (if_neg h0).trans (if_pos h3)
        have := K H3 (S3.to (.drop .refl))
        rw [e9] at this
        exact this
      · exact nxt (by
          show (if (nthG (X.map gx) (k + 1)).2.2 = [] then _ else _) = _
          rw [en]
          exact (if_neg h0).trans (if_neg (by rw [h3]; decide))) H3 (S3.to (.drop .refl))
theorem in_loop {t : Int} {s7 : Nat} {R : Ending → Heap → Prop} {gi : Int} {x : GX} {i0 : Nat} (hx : X[i0]? = some x) (hr : ∀ r ∈ x.2, r.1 ≠ 0) : ∀ (d : Nat) (i : Nat) (Z : Int) (st : List Rv × Int) (q : Option Addr) (m k : Nat) (H : Heap), i + d = x.2.length → Z = (i : Int) → StOk st → st.1.length + d < 1000000 → x.2.length < 1000000 →
    Sat H (sl rvC 60 2 q m k st.1 :: snc s7 t :: kis kb key md p n c X l) →
    (∀ q' m' k' H', Sat H' (sl rvC 60 2 q' m' k' ((x.2.drop i).foldl (sStep t) st).1 :: snc s7 t :: kis kb key md p n c X l) → F60.L3 (some ⟨kb, 0, none⟩) s7 (IntKind.wrap .i64 (gi + 1)) q' m' k' ((x.2.drop i).foldl (sStep t) st).2 H' R) →
    F60.L4 (some ⟨kb, 0, none⟩) s7 gi q m k st.2 x.1.p x.1.n x.1.c (x.1.n : Int) Z H R := by
  obtain ⟨⟨ver, cr, p1, n1, c1⟩, rs⟩ := x
  intro d
  induction d with
  | zero =>
    intro i Z st q m k H hi hZ hst hm hrs S K
    subst hZ
    have hl : rs.length = n1 := kis_rvs hx (S.to (.drop (.drop .refl)))
    dsimp only at hi K ⊢
    rw [List.drop_eq_nil_of_le (by omega)] at K
    refine F60.L4_step ?_
    unfold F60.L4n
    refine iteB_f (by rw [decide_eq_false_iff_not]; omega) ?_
    exact K q m k H S
  | succ d ih =>
    intro i Z st q m k H hi hZ hst hm hrs S K
    subst hZ
    have hl : rs.length = n1 := kis_rvs hx (S.to (.drop (.drop .refl)))
    dsimp only at hi K hrs ⊢
    have A2 := atX' hx
    obtain ⟨y, hy⟩ := get_of (l := rs) (i := i) (by omega)
    have hy0 : y.1 ≠ 0 := hr y (List.mem_of_getElem? hy)
    have A3 : HasI rs (i : Int) y := ⟨by simpa using hy⟩
    have w1 : IntKind.wrap .i64 ((i : Int) + 1) = ((i + 1 : Nat) : Int) := by rw [wr (by omega) (by omega)]; omega
    have ed : rs.drop i = y :: rs.drop (i + 1) := by
      have h5 := List.getElem?_eq_some_iff.1 hy
      rw [List.drop_eq_getElem_cons h5.1, h5.2]
    have hm2 := (S.slLen (List.mem_cons_self ..)).1
    rw [ed, List.foldl_cons] at K
    have nxt : ∀ q' m' k' H', Sat H' (sl rvC 60 2 q' m' k' (sStep t st y).1 :: snc s7 t :: kis kb key md p n c X l) → F60.L5 (some ⟨kb, 0, none⟩) s7 gi q' m' k' (sStep t st y).2 p1 n1 c1 (n1 : Int) (i : Int) H' R := by
      intro q' m' k' H' S'
      refine F60.L5_step ?_
      unfold F60.L5n
      rw [w1]
      have := sStep_len (t := t) (st := st) (r := y)
      exact ih (i + 1) _ (sStep t st y) q' m' k' H' (by dsimp only; omega) rfl (sStep_ok hst) (by omega) hrs S' K
    refine F60.L4_step ?_
    unfold F60.L4n
    refine iteB_t (by rw [decide_eq_true_iff]; omega) ?_
    refine S.idx (p := p1) ⟨by omega, by first | omega | (dsimp only; omega), ?_⟩
    rintro r2 o2 rfl
    (repeat (first | (refine Step.go ?_; intros) | refine iteB_t (by decide) ?_ | refine iteB_f (by decide) ?_ | (refine Duo.mk (by first | omega | exact rfl | decide) ?_; intros) | (refine Duo.mk (Clo.mk (by kernel_rfl)) ?_; intros)))
    refine gives_i ‹_› (gt_ok (t, 0) y _) ?_
    intro H3 E S3
    (repeat (first | (refine Step.go ?_; intros) | refine iteB_t (by decide) ?_ | refine iteB_f (by decide) ?_ | (refine Duo.mk (by first | omega | exact rfl | decide) ?_; intros) | (refine Duo.mk (Clo.mk (by kernel_rfl)) ?_; intros)))
    refine iteB_i (fun h3 => ?_) (fun h3 => ?_)
    · have e5 : sStep t st y = st := if_pos h3
      rw [e5] at nxt
      exact nxt q m k H3 (S3.to (.drop .refl))
    · have e5 : sStep t st y = if y.1 = st.2 then (st.1.dropLast ++ [y], st.2) else (st.1 ++ [y], y.1) := if_neg (by rw [h3]; decide)
      (repeat (first | (refine Step.go ?_; intros) | refine iteB_t (by decide) ?_ | refine iteB_f (by decide) ?_ | (refine Duo.mk (by first | omega | exact rfl | decide) ?_; intros) | (refine Duo.mk (Clo.mk (by kernel_rfl)) ?_; intros)))
      refine iteB_i (fun h4 => ?_) (fun h4 => ?_)
      · have h6 := eq_of_beq h4
        clear h4
        rw [if_pos h6] at e5
        rw [e5] at nxt
        obtain ⟨ys, lst⟩ := st
        dsimp only at h6 nxt hm2 S3 hm
        rcases List.eq_nil_or_concat ys with rfl | ⟨ys0, z, rfl⟩ <;> try rw [List.concat_eq_append] at *
        · exact absurd (h6.trans (hst rfl)) hy0
        rw [List.dropLast_concat] at nxt
        simp only [List.length_append, List.length_cons, List.length_nil] at hm2 hm
        have w2 : IntKind.wrap .i64 ((m : Int) - 1) = (m : Int) - 1 := wr (by omega) (by omega)
        have A4 : HasI (ys0 ++ [z]) (IntKind.wrap .i64 ((m : Int) - 1)) z := hasLast (by omega) w2
        (repeat (first | (refine Step.go ?_; intros) | refine iteB_t (by decide) ?_ | refine iteB_f (by decide) ?_ | (refine Duo.mk (by first | omega | exact rfl | decide) ?_; intros) | (refine Duo.mk (Clo.mk (by kernel_rfl)) ?_; intros)))
        refine S3.idx (p := q) ⟨by omega, by omega, ?_⟩
        rintro r3 o3 rfl
        (repeat (first | (refine Step.go ?_; intros) | refine iteB_t (by decide) ?_ | refine iteB_f (by decide) ?_ | (refine Duo.mk (by first | omega | exact rfl | decide) ?_; intros) | (refine Duo.mk (Clo.mk (by kernel_rfl)) ?_; intros)))
        rename_i H6 S6
        refine nxt _ _ _ H6 (S6.to ?_)
        rw [List.set_set, set_last (by rw [w2]; omega)]
        exact Fits.out
      · have h4 : ¬ y.1 = st.2 := by intro h5; rw [h5] at h4; simp at h4
        rw [if_neg h4] at e5
        rw [e5] at nxt
        (repeat (first | (refine Step.go ?_; intros) | refine iteB_t (by decide) ?_ | refine iteB_f (by decide) ?_ | (refine Duo.mk (by first | omega | exact rfl | decide) ?_; intros) | (refine Duo.mk (Clo.mk (by kernel_rfl)) ?_; intros)))
        rename_i q' k' H6 S6
        exact nxt q' (m + 1) k' H6 (S6.to Fits.out)
theorem out_loop {t : Int} {s7 r o : Nat} {R : Ending → Heap → Prop} (hn : n < 100000) (hr : ∀ x ∈ X, x.2.length < 100000 ∧ ∀ r ∈ x.2, r.1 ≠ 0) : ∀ (d : Nat) (i : Nat) (Z : Int) (st : List Rv × Int) (q : Option Addr) (m k : Nat) (H : Heap), i + d = n → Z = (i : Int) → StOk st → st.1.length + ((X.drop i).flatMap (·.2)).length < 1000000 →
    Sat H (sl rvC 60 2 q m k st.1 :: snc s7 t :: kis kb key md (some ⟨r, o, none⟩) n c X l) →
    (∀ q' m' k' H', Sat H' (sl rvC 60 2 q' m' k' (((X.drop i).flatMap (·.2)).foldl (sStep t) st).1 :: snc s7 t :: kis kb key md (some ⟨r, o, none⟩) n c X l) → R (.returned (.slice q' m' k')) H') →
    F60.L3 (some ⟨kb, 0, none⟩) s7 Z q m k st.2 H R := by
  intro d
  induction d with
  | zero =>
    intro i Z st q m k H hi hZ hst hm S K
    subst hZ
    obtain ⟨h1, h2⟩ := kis_len (S.to (.drop (.drop .refl)))
    rw [List.drop_eq_nil_of_le (by omega)] at K
    refine F60.L3_step ?_
    unfold F60.L3n
    (repeat (first | (refine Step.go ?_; intros) | refine iteB_t (by decide) ?_ | refine iteB_f (by decide) ?_ | (refine Duo.mk (by first | omega | exact rfl | decide) ?_; intros) | (refine Duo.mk (Clo.mk (by kernel_rfl)) ?_; intros)))
    refine iteB_f (by rw [decide_eq_false_iff_not]; omega) ?_
    exact K q m k H S
  | succ d ih =>
    intro i Z st q m k H hi hZ hst hm S K
    subst hZ
    obtain ⟨h1, h2⟩ := kis_len (S.to (.drop (.drop .refl)))
    obtain ⟨x, hx⟩ := get_of (l := X) (i := i) (by omega)
    have hx2 := hr x (List.mem_of_getElem? hx)
    have A1 : HasI (X.map (·.1)) (i : Int) x.1 := hasX hx
    have ed : X.drop i = x :: X.drop (i + 1) := by
      have h5 := List.getElem?_eq_some_iff.1 hx
      rw [List.drop_eq_getElem_cons h5.1, h5.2]
    rw [ed, List.flatMap_cons] at hm K
    rw [List.foldl_append] at K
    rw [List.length_append] at hm
    have w1 : IntKind.wrap .i64 ((i : Int) + 1) = ((i + 1 : Nat) : Int) := by rw [wr (by omega) (by omega)]; omega
    have hl := kis_rvs hx (S.to (.drop (.drop .refl)))
    have hf := fold_ok (t := t) (rs := x.2) hst
    refine F60.L3_step ?_
    unfold F60.L3n
    (repeat (first | (refine Step.go ?_; intros) | refine iteB_t (by decide) ?_ | refine iteB_f (by decide) ?_ | (refine Duo.mk (by first | omega | exact rfl | decide) ?_; intros) | (refine Duo.mk (Clo.mk (by kernel_rfl)) ?_; intros)))
    refine iteB_t (by rw [decide_eq_true_iff]; omega) ?_
    (repeat (first | (refine Step.go ?_; intros) | refine iteB_t (by decide) ?_ | refine iteB_f (by decide) ?_ | (refine Duo.mk (by first | omega | exact rfl | decide) ?_; intros) | (refine Duo.mk (Clo.mk (by kernel_rfl)) ?_; intros)))
    refine in_loop hx hx2.2 x.2.length 0 0 st q m k H (by omega) rfl hst (by omega) (by omega) S ?_
    intro q' m' k' H' S'
    rw [List.drop_zero] at S' ⊢
    rw [w1]
    exact ih (i + 1) _ _ q' m' k' H' (by omega) rfl hf.1 (by have := hf.2; omega) S' K
theorem since_ok {G : List Gn} {lg : Option Addr} {t : Int} (hG : GOk G) (hT : (G.flatMap (·.2.2)).length < 1000000) (hr0 : ∀ x ∈ G, ∀ r ∈ x.2.2, r.1 ≠ 0) (hne : G ≠ []) (hne2 : G.map (·.2.2) ≠ [[]]) (S : KiS H kb key md G l) :
    CallsH Try.prog 60 ⟨[.pointer (some ⟨kb, 0, none⟩), .pointer lg, .int .i64 t]⟩ H (fun e H1 => ∃ q m k, e = .returned (.slice q m k) ∧ KiS H1 kb key md G (sl rvC 60 2 q m k (sinceG t G) :: l)) := by
  obtain ⟨p, n, c, X, rfl, S⟩ := S
  refine F60.calls ?_
  unfold F60.go
  refine call_of (emp_ok S) ?_
  rintro e H1 ⟨rfl, S1⟩
  (repeat (first | (refine Step.go ?_; intros) | refine iteB_t (by decide) ?_ | refine iteB_f (by decide) ?_ | (refine Duo.mk (by first | omega | exact rfl | decide) ?_; intros) | (refine Duo.mk (Clo.mk (by kernel_rfl)) ?_; intros)))
  refine iteB_f (by simpa using hne2) ?_
  refine F60.L0_step ?_
  unfold F60.L0n
  have hX : X ≠ [] := by simpa using hne
  obtain ⟨h1, h2⟩ := kis_len S1
  have h3 : 0 < X.length := List.length_pos_iff.2 hX
  have hn : n < 100000 := by have := hG.1; simp at this; omega
  have hr : ∀ x ∈ X, x.2.length < 100000 ∧ ∀ r ∈ x.2, r.1 ≠ 0 := fun x hx => ⟨(hG.2 (gx x) (List.mem_map_of_mem hx)).2, hr0 (gx x) (List.mem_map_of_mem hx)⟩
  obtain ⟨r, o, rfl⟩ := S1.slSome (List.mem_cons_of_mem _ (List.mem_cons_self ..)) (by omega)
  (repeat (first | (refine Step.go ?_; intros) | refine iteB_t (by decide) ?_ | refine iteB_f (by decide) ?_ | (refine Duo.mk (by first | omega | exact rfl | decide) ?_; intros) | (refine Duo.mk (Clo.mk (by kernel_rfl)) ?_; intros)))
  rename_i s7 _ _ _ _ H2 S2
  have w1 : IntKind.wrap .i64 ((n : Int) - 1) = ((n - 1 : Nat) : Int) := by rw [wr (by omega) (by omega)]; omega
  rw [w1]
  refine sgi_loop hn (n - 1) _ _ (by omega) rfl S2 ?_
  intro H3 S3
  refine F60.L2_step ?_
  unfold F60.L2n
  have fm : ∀ Y : List GX, (Y.map gx).flatMap (·.2.2) = Y.flatMap (·.2) := by
    intro Y; induction Y with
    | nil => rfl
    | cons a Y ih => rw [List.map_cons, List.flatMap_cons, List.flatMap_cons, ih]; rfl
  have hsg : sgi t (X.map gx) (n - 1) ≤ n - 1 := by
    generalize n - 1 = j
    induction j with
    | zero => exact Nat.le_refl _
    | succ j ih => unfold sgi; split; omega; split <;> omega
  have hlen : ((X.drop (sgi t (X.map gx) (n - 1))).flatMap (·.2)).length < 1000000 := by
    have e1 : X.flatMap (·.2) = (X.take (sgi t (X.map gx) (n - 1))).flatMap (·.2) ++ (X.drop (sgi t (X.map gx) (n - 1))).flatMap (·.2) := by
      rw [← List.flatMap_append, List.take_append_drop]
    rw [fm, e1, List.length_append] at hT
    omega
  have S4 : Sat H3 (sl rvC 60 2 none 0 0 [] :: snc s7 t :: kis kb key md (some ⟨r, o, none⟩) n c X l) := S3.to (.slNil .refl)
  refine out_loop (t := t) hn hr (n - sgi t (X.map gx) (n - 1)) (sgi t (X.map gx) (n - 1)) _ ([], 0) none 0 0 H3 (by omega) rfl (fun _ => rfl) (by simpa using hlen) S4 ?_
  intro q' m' k' H4 S5
  refine ⟨q', m', k', rfl, some ⟨r, o, none⟩, n, c, X, rfl, ?_⟩
  have e2 : sinceG t (X.map gx) = (((X.drop (sgi t (X.map gx) (n - 1))).flatMap (·.2)).foldl (sStep t) ([], 0)).1 := by
    unfold sinceG
    rw [List.length_map, h1, ← List.map_drop, fm]
  rw [e2]
  exact S5.to Fits.out
end
end Go.Proofs.Ytpjnmdeeoafclaa
