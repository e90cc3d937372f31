/- What functions of this seat do, each proved by a walk; no condition. -/
import Derived.Test.YtcejmnfjkdjobaaCL
set_option linter.unusedVariables false
set_option linter.unusedSimpArgs false
set_option linter.unnecessarySimpa false
namespace Go.Proofs.Ytcejmnfjkdjobaa
open Go Go.Den Go.Proofs
theorem sort_same {bb tg : Int} {l : List KV} {n : Nat} {most : Int} (h : SortsP l n bb tg most) : sortR (by1 bb tg) tg l = sortV (by1 bb tg) tg l := by
  obtain ⟨_, h1, h2, h3, h4, _, ha⟩ := h
  unfold sortR sortV by1
  by_cases ht : tg = 0
  · subst ht
    simp only [ne_eq, not_true_eq_false, false_and, if_false, true_and]
    by_cases hb : bb ≤ 1
    · rw [if_pos hb]
      by_cases h0 : bb = 0
      · rw [if_pos h0]
      · rw [if_neg h0]
        have := isort_adj (lt := ltR bb 0) (X := l) (S := []) (by
          intro i a b hi hj
          rw [List.nil_append] at hi hj
          have := ha i a b hi hj
          unfold ltR
          rw [if_neg (by omega)]
          show ltS b.key a.key = false
          exact ltS_asymm this)
        simpa using this
    · rw [if_neg hb, if_neg (by omega), if_pos (by omega)]
      congr 1
      funext x y
      unfold ltR
      rw [if_pos (by omega)]
  · simp only [ht, ne_eq, not_false_eq_true, true_and, false_and, if_false]
    by_cases h0 : bb = 0
    · rw [if_pos h0]
      simp
      rfl
    · rw [if_neg h0, if_neg h0]
      by_cases hb : bb = 2
      · rw [if_pos hb]; subst hb; rfl
      · rw [if_neg hb]
        congr 1
        funext x y
        unfold ltR
        rw [if_neg hb]
abbrev kvA : KV := ⟨⟨#[97]⟩, ⟨#[]⟩, 0, 0, 2, 0⟩
abbrev kvB : KV := ⟨⟨#[98]⟩, ⟨#[]⟩, 0, 0, 1, 0⟩
theorem two_sort : sortV (by1 1 1) 1 [kvA, kvB] = [kvB, kvA] := by
  simp [sortV, by1, isort, sink, ahead]
theorem txnSorted_ok {H : Heap} {p : Option Addr} {n c : Nat} {l : List KV} {bb tg : Int} (hR : RowsAt KV.cells 6 H p l) (hl : l.length = n) : CallsH Try.prog 3 ⟨[.slice p n c, .int .i64 bb, .int .i64 tg]⟩ H (Gives (.bool true) H) := by
  refine F3.calls ?_
  unfold F3.go
  refine callD_i (fits_ok hR hl) ?_
  rintro e H1 ⟨E1, b1, rfl, hb1⟩
  have S1 := Sat.start H1
  (repeat (first | (refine Step.go ?_; intros) | refine iteB_t (by decide) ?_ | refine iteB_f (by decide) ?_ | (refine Duo.mk (by first | omega | exact rfl | decide) ?_; intros) | (refine Duo.mk (Clo.mk (by kernel_rfl)) ?_; intros)))
  refine iteB_i (fun h => ⟨rfl, E1⟩) (fun h1 => ?_)
  obtain ⟨hn, hz⟩ := hb1 (by simpa using h1)
  refine callD_i (sorts_ok (hR.ext E1) hl hn) ?_
  rintro e H2 ⟨E2, b2, rfl, hb2⟩
  have E12 := E1.trans E2
  (repeat (first | (refine Step.go ?_; intros) | refine iteB_t (by decide) ?_ | refine iteB_f (by decide) ?_ | (refine Duo.mk (by first | omega | exact rfl | decide) ?_; intros) | (refine Duo.mk (Clo.mk (by kernel_rfl)) ?_; intros)))
  refine iteB_i (fun h => ⟨rfl, E12⟩) (fun h2 => ?_)
  have hs := hb2 (by simpa using h2)
  have hs' := hs
  obtain ⟨hm, q1, q2, q3, q4, hN, ha⟩ := hs
  have S2 := Sat.start H2
  (repeat (first | (refine Step.go ?_; intros) | refine iteB_t (by decide) ?_ | refine iteB_f (by decide) ?_ | (refine Duo.mk (by first | omega | exact rfl | decide) ?_; intros) | (refine Duo.mk (Clo.mk (by kernel_rfl)) ?_; intros)))
  rename_i r H3 S3
  have RO : RowsAt KV.cells 6 H3 (some ⟨r, 0, none⟩) [kvA, kvB] := RowsAt.of_block (S3.at_ (List.mem_cons_self ..)) (by
    intro i x hi j v hj
    have := flat_at (f := KV.cells) (z := 6) (fun _ _ => rfl) hi hj
    exact this)
  have hk2 : ∀ x ∈ [kvA, kvB], Kz x := by
    intro x hx
    simp at hx
    rcases hx with rfl | rfl
    · exact ⟨by show (⟨#[97]⟩ : ByteArray).size < _; decide, by show (⟨#[]⟩ : ByteArray).size < _; decide⟩
    · exact ⟨by show (⟨#[98]⟩ : ByteArray).size < _; decide, by show (⟨#[]⟩ : ByteArray).size < _; decide⟩
  have hn2 : ∀ x ∈ [kvA, kvB], Near x := by
    intro x hx
    simp at hx
    rcases hx with rfl | rfl
    · exact ⟨⟨by decide, by decide⟩, ⟨by decide, by decide⟩, ⟨by decide, by decide⟩⟩
    · exact ⟨⟨by decide, by decide⟩, ⟨by decide, by decide⟩, ⟨by decide, by decide⟩⟩
  refine grow_i S3 (sorted_ok (c := 2) (bb := 1) (tg := 1) RO rfl (by decide) hk2 hn2 (by decide) (by decide)) ?_
  rintro ⟨q5, c5⟩ H4 E4 S4
  rw [two_sort] at S4
  simp only [List.cons_append, List.nil_append] at S4
  (repeat (first | (refine Step.go ?_; intros) | refine iteB_t (by decide) ?_ | refine iteB_f (by decide) ?_ | (refine Duo.mk (by first | omega | exact rfl | decide) ?_; intros) | (refine Duo.mk (Clo.mk (by kernel_rfl)) ?_; intros)))
  have E4' : ExtH H2 H4 := Sat.grown
  have hR4 := (hR.ext E12).ext E4'
  refine grow_i S4 (sorted_ok (c := c) (bb := bb) (tg := tg) hR4 hl (by omega) (fun x hx => by have := hz x hx; exact ⟨by have := this.1; omega, by have := this.2; omega⟩) hN ⟨q1, q2⟩ ⟨q3, q4⟩) ?_
  rintro ⟨q6, c6⟩ H5 E5 S5
  simp only [List.cons_append, List.nil_append] at S5
  (repeat (first | (refine Step.go ?_; intros) | refine iteB_t (by decide) ?_ | refine iteB_f (by decide) ?_ | (refine Duo.mk (by first | omega | exact rfl | decide) ?_; intros) | (refine Duo.mk (Clo.mk (by kernel_rfl)) ?_; intros)))
  have E5' : ExtH H2 H5 := Sat.grown
  refine callD_i (ref_ok (bb := bb) (tg := tg) (c := c) ((hR.ext E12).ext E5') hl (by omega)) ?_
  rintro e H6 ⟨⟨q7, c7⟩, rfl, E6, R7⟩
  rw [sort_same hs'] at R7
  have S6 : Sat H6 [sl KV.cells 27 6 q6 n c6 (sortV (by1 bb tg) tg l), sl KV.cells 27 6 q5 2 c5 [kvB, kvA], old H2] := by
    have h := Sat.onto (m := []) (Sat.start H6 |>.to (fun k x => by
      obtain ⟨g, a, b, c⟩ := x
      exact ⟨g, fun i o h => a i o (E6.block_some h), b, c⟩)) S5
    rw [List.nil_append] at h
    exact h.to Fits.out
  (repeat (first | (refine Step.go ?_; intros) | refine iteB_t (by decide) ?_ | refine iteB_f (by decide) ?_ | (refine Duo.mk (by first | omega | exact rfl | decide) ?_; intros) | (refine Duo.mk (Clo.mk (by kernel_rfl)) ?_; intros)))
  have hsl := (S6.slLen (List.mem_cons_self ..)).1
  refine gives_i S6 (same_ok (S6.rowsAt (List.mem_cons_self ..)) R7 hsl (by omega)) ?_
  intro H7 E7 S7
  (repeat (first | (refine Step.go ?_; intros) | refine iteB_t (by decide) ?_ | refine iteB_f (by decide) ?_ | (refine Duo.mk (by first | omega | exact rfl | decide) ?_; intros) | (refine Duo.mk (Clo.mk (by kernel_rfl)) ?_; intros)))
  have i0 : HasI [kvB, kvA] (0 : Int) kvB := ⟨rfl⟩
  obtain ⟨r', o', rfl⟩ := S7.slSome (List.mem_cons_of_mem _ (List.mem_cons_self ..)) (by decide)
  (repeat (first | (refine Step.go ?_; intros) | refine iteB_t (by decide) ?_ | refine iteB_f (by decide) ?_ | (refine Duo.mk (by first | omega | exact rfl | decide) ?_; intros) | (refine Duo.mk (Clo.mk (by kernel_rfl)) ?_; intros)))
  refine ⟨by simp [eqS], ?_⟩
  have : ExtH H2 H7 := Sat.grown
  exact E12.trans this
end Go.Proofs.Ytcejmnfjkdjobaa
