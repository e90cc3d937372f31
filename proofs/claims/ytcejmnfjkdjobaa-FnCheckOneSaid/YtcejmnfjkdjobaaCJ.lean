/- What functions of this seat do, each proved by a walk; no condition. -/
import Derived.Test.YtcejmnfjkdjobaaCI
set_option linter.unusedVariables false
set_option linter.unusedSimpArgs false
set_option linter.unnecessarySimpa false
namespace Go.Proofs.Ytcejmnfjkdjobaa
open Go Go.Den Go.Proofs
/-! impl.Sorted, and what the laws ask of key-values. -/
def sortV (bb tg : Int) (l : List KV) : List KV := if tg = 0 ∧ bb ≤ 1 then l else if bb = 2 then isort (fun x y => ahead tg y x) [] l else isort (fun x y => ahead tg x y) [] l
theorem sortI_map {bb tg : Int} {X : List KM} : (sortI bb tg X).map (·.kv) = sortV bb tg (X.map (·.kv)) := by
  unfold sortI sortV
  split
  · rfl
  · split
    · exact isort_map (f := KM.kv) (lt := fun x y => ahead tg y.kv x.kv) (lu := fun x y => ahead tg y x) (fun _ _ => rfl)
    · exact isort_map (f := KM.kv) (lt := fun x y => ahead tg x.kv y.kv) (lu := fun x y => ahead tg x y) (fun _ _ => rfl)
theorem isort_len {α : Type} {lt : α → α → Bool} : ∀ {X S : List α}, (isort lt S X).length = S.length + X.length
  | [], S => by simp [isort]
  | x :: X, S => by unfold isort; rw [isort_len, sink_len]; simp; omega
theorem isort_mem {α : Type} {lt : α → α → Bool} {z : α} : ∀ {X S : List α}, z ∈ isort lt S X → z ∈ S ∨ z ∈ X
  | [], S, h => .inl h
  | x :: X, S, h => by
    unfold isort at h
    rcases isort_mem h with h | h
    · rcases sink_mem h with h | h | h
      · exact .inr (by simp [h])
      · exact .inl (by simpa using h)
      · cases h
    · exact .inr (by simp [h])
theorem sortI_len {bb tg : Int} {X : List KM} : (sortI bb tg X).length = X.length := by
  unfold sortI
  split
  · rfl
  · split <;> (rw [isort_len]; simp)
theorem sortI_mem {bb tg : Int} {X : List KM} {z : KM} (h : z ∈ sortI bb tg X) : z ∈ X := by
  unfold sortI at h
  split at h
  · exact h
  · split at h <;> (rcases isort_mem h with h | h; cases h; exact h)
section
variable {H : Heap} {p : Option Addr} {n c : Nat} {l : List KV} {bb tg : Int}
theorem ordered_ok {r : RQ} : CallsH Try.prog 24 ⟨[.agg ⟨r.cells⟩]⟩ H (Gives (.bool (decide (0 ≤ r.so ∧ r.so ≤ 2 ∧ 0 ≤ r.st ∧ r.st ≤ 4))) H) := by
  have S := Sat.start H
  refine F24.calls ?_
  unfold F24.go
  (repeat (first | (refine Step.go ?_; intros) | refine iteB_t (by decide) ?_ | refine iteB_f (by decide) ?_ | (refine Duo.mk (by first | omega | exact rfl | decide) ?_; intros) | (refine Duo.mk (Clo.mk (by kernel_rfl)) ?_; intros)))
  refine iteB_i (fun h => ?_) (fun h => ?_)
  · have h := of_decide_eq_true h
    (repeat (first | (refine Step.go ?_; intros) | refine iteB_t (by decide) ?_ | refine iteB_f (by decide) ?_ | (refine Duo.mk (by first | omega | exact rfl | decide) ?_; intros) | (refine Duo.mk (Clo.mk (by kernel_rfl)) ?_; intros)))
    refine iteB_i (fun h2 => ?_) (fun h2 => ?_)
    · have h2 := of_decide_eq_true h2
      (repeat (first | (refine Step.go ?_; intros) | refine iteB_t (by decide) ?_ | refine iteB_f (by decide) ?_ | (refine Duo.mk (by first | omega | exact rfl | decide) ?_; intros) | (refine Duo.mk (Clo.mk (by kernel_rfl)) ?_; intros)))
      refine iteB_i (fun h3 => ?_) (fun h3 => ?_)
      · have h3 := of_decide_eq_true h3
        (repeat (first | (refine Step.go ?_; intros) | refine iteB_t (by decide) ?_ | refine iteB_f (by decide) ?_ | (refine Duo.mk (by first | omega | exact rfl | decide) ?_; intros) | (refine Duo.mk (Clo.mk (by kernel_rfl)) ?_; intros)))
        refine ⟨?_, Sat.grown⟩
        congr 2
        rw [Bool.eq_iff_iff, decide_eq_true_iff, decide_eq_true_iff]
        omega
      · have h3 := of_decide_eq_false h3
        refine ⟨?_, Sat.grown⟩
        rw [decide_eq_false (by omega)]
    · have h2 := of_decide_eq_false h2
      refine ⟨?_, Sat.grown⟩
      rw [decide_eq_false (by omega)]
  · have h := of_decide_eq_false h
    refine ⟨?_, Sat.grown⟩
    rw [decide_eq_false (by omega)]
abbrev rq0 (bb tg : Int) : RQ := ⟨0, ⟨#[]⟩, ⟨#[]⟩, ⟨#[]⟩, 0, 0, 0, bb, tg, 0, 0, 0, 0, false, false, false, false, false, none, 0, 0, none, 0, 0, none, 0, 0⟩
theorem o32_id {i : Int} (h : 0 ≤ i ∧ i ≤ 4) : o32 i = i := by unfold o32; rw [if_neg (by omega), if_neg (by omega)]
theorem sorted_ok (hR : RowsAt KV.cells 6 H p l) (hl : l.length = n) (hn : n ≤ 12) (hz : ∀ x ∈ l, Kz x) (hN : ∀ x ∈ l, Near x) (hb : 0 ≤ bb ∧ bb ≤ 2) (htg : 0 ≤ tg ∧ tg ≤ 4) : CallsH Try.prog 8 ⟨[.slice p n c, .int .i64 bb, .int .i64 tg]⟩ H
    (fun e H1 => ∃ x : PA, e = .returned (.slice x.1 n x.2) ∧ Sat H1 ([sl KV.cells 27 6 x.1 n x.2 (sortV (by1 bb tg) tg l)] ++ [old H])) := by
  have S := Sat.start H
  refine F8.calls ?_
  unfold F8.go
  (repeat (first | (refine Step.go ?_; intros) | refine iteB_t (by decide) ?_ | refine iteB_f (by decide) ?_ | (refine Duo.mk (by first | omega | exact rfl | decide) ?_; intros) | (refine Duo.mk (Clo.mk (by kernel_rfl)) ?_; intros)))
  rename_i H1 S1
  refine gives_i S1 (ordered_ok (r := rq0 bb tg)) ?_
  intro H2 E2 S2
  (repeat (first | (refine Step.go ?_; intros) | refine iteB_t (by decide) ?_ | refine iteB_f (by decide) ?_ | (refine Duo.mk (by first | omega | exact rfl | decide) ?_; intros) | (refine Duo.mk (Clo.mk (by kernel_rfl)) ?_; intros)))
  refine iteB_f (by rw [decide_eq_true (by exact ⟨hb.1, hb.2, htg.1, htg.2⟩)]; rfl) ?_
  (repeat (first | (refine Step.go ?_; intros) | refine iteB_t (by decide) ?_ | refine iteB_f (by decide) ?_ | (refine Duo.mk (by first | omega | exact rfl | decide) ?_; intros) | (refine Duo.mk (Clo.mk (by kernel_rfl)) ?_; intros)))
  have E3 : ExtH H H2 := Sat.grown
  refine grow_i S2 (kvsIn_ok (hR.ext E3) hl (by omega) hz) ?_
  rintro ⟨⟨⟨kq, kc⟩, X⟩, hX⟩ H3 E4 S3
  dsimp only at hX S3 ⊢
  simp only [List.cons_append, List.nil_append] at S3
  (repeat (first | (refine Step.go ?_; intros) | refine iteB_t (by decide) ?_ | refine iteB_f (by decide) ?_ | (refine Duo.mk (by first | omega | exact rfl | decide) ?_; intros) | (refine Duo.mk (Clo.mk (by kernel_rfl)) ?_; intros)))
  refine grow_i S3 (rangeIn_ok (r := rq0 bb tg) (show (⟨#[]⟩ : ByteArray).size < 2 ^ 62 by decide) (show (⟨#[]⟩ : ByteArray).size < 2 ^ 62 by decide)) ?_
  rintro x H4 E5 S4
  simp only [List.cons_append, List.nil_append] at S4
  (repeat (first | (refine Step.go ?_; intros) | refine iteB_t (by decide) ?_ | refine iteB_f (by decide) ?_ | (refine Duo.mk (by first | omega | exact rfl | decide) ?_; intros) | (refine Duo.mk (Clo.mk (by kernel_rfl)) ?_; intros)))
  have hNX : ∀ x ∈ X, Near x.kv := fun y hy => hN _ (by rw [← hX]; exact List.mem_map_of_mem hy)
  refine callD_i (zzSort_ok (bb := bb) (tg := tg) (r := rq0 bb tg) hn hNX (o32_id htg) (o32_id (i := bb) (by omega)) hb htg S4) ?_
  rintro e H5 ⟨rfl, S5⟩
  (repeat (first | (refine Step.go ?_; intros) | refine iteB_t (by decide) ?_ | refine iteB_f (by decide) ?_ | (refine Duo.mk (by first | omega | exact rfl | decide) ?_; intros) | (refine Duo.mk (Clo.mk (by kernel_rfl)) ?_; intros)))
  have hXl : X.length = n := by rw [← hl, ← hX, List.length_map]
  have kms := kmAt_of S5 (List.mem_cons_of_mem _ (List.mem_cons_self ..))
  refine grow_i S5 (kvsOf_ok (S5.rowsAt (List.mem_cons_self ..)) (fun z hz => kms z (sortI_mem hz)) (by rw [sortI_len]; exact hXl) (by omega)) ?_
  rintro ⟨qq, qc⟩ H6 E6 S6
  dsimp only at S6 ⊢
  rw [sortI_map, hX] at S6
  simp only [List.cons_append, List.nil_append] at S6
  (repeat (first | (refine Step.go ?_; intros) | refine iteB_t (by decide) ?_ | refine iteB_f (by decide) ?_ | (refine Duo.mk (by first | omega | exact rfl | decide) ?_; intros) | (refine Duo.mk (Clo.mk (by kernel_rfl)) ?_; intros)))
  exact ⟨(qq, qc), rfl, S6.to (m := [sl KV.cells 27 6 qq n qc (sortV (by1 bb tg) tg l), old H]) Fits.out⟩
end
end Go.Proofs.Ytcejmnfjkdjobaa
