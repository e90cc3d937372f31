/- What functions of this seat do, each proved by a walk; no condition. -/
import Derived.Test.YtjdaencapbjmdaaSD
set_option linter.unusedVariables false
set_option linter.unusedSimpArgs false
set_option linter.unnecessarySimpa false
namespace Go.Proofs.Ytjdaencapbjmdaa
open Go Go.Den Go.Proofs
/-! Comparables. -/
theorem iv_i {i : IV} {k : IV → Prop} (h : k i) : tIf i.v k := ⟨i, rfl, h⟩
theorem nilV_of {i : IV} {k : Value → Prop} (h : ∃ t x, i = .mk t x) (hk : k i.v) : nilV i.v k := by
  obtain ⟨t, x, rfl⟩ := h
  exact hk
theorem cellsAt_ext {H H1 : Heap} {p : Option Addr} {vs : List Value} (h : cellsAt H p vs) (e : ExtH H H1) : cellsAt H1 p vs := by
  intro j v hj
  obtain ⟨a, h1, h2⟩ := h j v hj
  exact ⟨a, h1, e.cell h2⟩
def near (i : Int) : Prop := -2305843009213693952 ≤ i ∧ i ≤ 2305843009213693952
inductive IsE (H : Heap) : Int → IV → EN → Prop
  | str {x : EN} : IsE H 0 (.mk 86 (.string x.1)) x
  | aff {x : EN} : IsE H 1 (.mk 83 (.string x.1)) x
  | byt {x : EN} {p : Option Addr} {n c : Nat} (hn : x.1.size = n) (h : cellsAt H p (bytesOf x.1.data.toList)) : IsE H 2 (.mk 84 (.slice p n c)) x
  | num {x : EN} (h : near x.2) : IsE H 3 (.mk 85 (.int .i64 x.2)) x
theorem IsE.ext {H H1 : Heap} {o : Int} {i : IV} {x : EN} (h : IsE H o i x) (e : ExtH H H1) : IsE H1 o i x := by
  cases h with
  | str => exact .str
  | aff => exact .aff
  | byt hn h => exact .byt hn (cellsAt_ext h e)
  | num h => exact .num h
theorem IsE.mk {H : Heap} {o : Int} {i : IV} {x : EN} (h : IsE H o i x) : ∃ t v, i = .mk t v := by cases h <;> exact ⟨_, _, rfl⟩
theorem cmpB_eq (a b : ByteArray) : Lib.compareBytes a.data.toList b.data.toList = if ltS a b then -1 else if ltS b a then 1 else 0 := by
  have key : ∀ l m : List UInt8, -1 ≤ Lib.compareBytes l m ∧ Lib.compareBytes l m ≤ 1 := by
    intro l
    induction l with
    | nil => intro m; cases m <;> simp [Lib.compareBytes]
    | cons x l ih =>
      intro m
      cases m with
      | nil => simp [Lib.compareBytes]
      | cons y m =>
        unfold Lib.compareBytes
        split
        · omega
        · split
          · omega
          · exact ih m
  have h1 := key a.data.toList b.data.toList
  have h2 := bl_cmp a.data.toList b.data.toList
  have h3 := ltS_cmp a b
  have h4 := ltS_flip a b
  cases h : ltS a b with
  | true =>
    rw [h] at h3
    have := of_decide_eq_true h3
    simp only [if_true]; omega
  | false =>
    rw [h] at h3 h4
    have h3 := of_decide_eq_false h3
    simp only [Bool.false_eq_true, if_false]
    cases h5 : ltS b a with
    | true =>
      simp only [if_true]
      rw [h5] at h4
      have hne : ¬ a.data.toList = b.data.toList := by
        intro e
        have : eqS a b = true := by unfold eqS; rw [ByteArray.toList_eq, ByteArray.toList_eq, e]; simp
        rw [this] at h4; simp at h4
      have : ¬ Lib.compareBytes a.data.toList b.data.toList = 0 := fun e => hne (h2.2.1 e)
      omega
    | false =>
      simp only [Bool.false_eq_true, if_false]
      rw [h5] at h4
      have he : eqS a b = true := by simpa using h4
      unfold eqS at he
      rw [ByteArray.toList_eq, ByteArray.toList_eq] at he
      exact h2.2.2 (eq_of_beq he)
section
variable {H : Heap}
theorem cmpStr {x y : EN} : CallsH Try.prog 97 ⟨[.string x.1, .iface 86 (.string y.1)]⟩ H (Gives (.int .i64 (cmpE 0 x y)) H) := by
  have S := Sat.start H
  have e : cmpE 0 x y = if ltS x.1 y.1 then -1 else if ltS y.1 x.1 then 1 else 0 := rfl
  rw [e]
  refine F97.calls (c := .mk 86 (.string y.1)) ?_
  unfold F97.go
  (repeat (first | (refine Step.go ?_; intros) | refine iteB_t (by decide) ?_ | refine iteB_f (by decide) ?_ | (refine Duo.mk (by first | omega | exact rfl | decide) ?_; intros) | (refine Duo.mk (Clo.mk (by kernel_rfl)) ?_; intros)))
  refine iteB_i (fun h => ?_) (fun h => ?_)
  · rw [if_pos h]; exact ⟨rfl, ExtH.refl H⟩
  · rw [if_neg (by rw [h]; simp), ltS_flip]
    refine iteB_i (fun h => ?_) (fun h => ?_)
    · rw [if_pos h]; exact ⟨rfl, ExtH.refl H⟩
    · rw [if_neg (by rw [h]; simp)]; exact ⟨rfl, ExtH.refl H⟩
theorem aff_eq {o : Int} (ho : o = 1 ∨ o = 2) {x y : EN} : cmpE o x y = if x.1.size = 0 then (if y.1.size = 0 then 0 else 1) else if y.1.size = 0 then -1 else if ltS x.1 y.1 then -1 else if ltS y.1 x.1 then 1 else 0 := by
  have h3 : ¬ o = 3 := by omega
  have h0 : o ≠ 0 := by omega
  have L : ∀ u v : EN, ltE o u v = if ¬ (u.1.size = 0 ↔ v.1.size = 0) then decide (v.1.size = 0) else ltS u.1 v.1 := by
    intro u v
    unfold ltE
    rw [if_neg h3]
    by_cases h : (u.1.size = 0 ↔ v.1.size = 0)
    · rw [if_neg (fun e => e.2 h), if_neg (fun e => e h)]
    · rw [if_pos ⟨h0, h⟩, if_pos h]
  unfold cmpE
  rw [L, L]
  by_cases hx : x.1.size = 0 <;> by_cases hy : y.1.size = 0
  · simp [hx, hy, ltS_nil _ hx, ltS_nil _ hy]
  · simp [hx, hy]
  · simp [hx, hy]
  · simp [hx, hy]
theorem cmpAff {x y : EN} : CallsH Try.prog 92 ⟨[.string x.1, .iface 83 (.string y.1)]⟩ H (Gives (.int .i64 (cmpE 1 x y)) H) := by
  have S := Sat.start H
  rw [aff_eq (.inl rfl)]
  refine F92.calls (c := .mk 83 (.string y.1)) ?_
  unfold F92.go
  (repeat (first | (refine Step.go ?_; intros) | refine iteB_t (by decide) ?_ | refine iteB_f (by decide) ?_ | (refine Duo.mk (by first | omega | exact rfl | decide) ?_; intros) | (refine Duo.mk (Clo.mk (by kernel_rfl)) ?_; intros)))
  refine iteB_i (fun h => ?_) (fun h => ?_)
  · have h := eq_of_beq h
    rw [if_pos (by omega)]
    refine iteB_i (fun h => ?_) (fun h => ?_)
    · have h := eq_of_beq h
      rw [if_pos (by omega)]; exact ⟨rfl, ExtH.refl H⟩
    · have h : ¬ (y.1.size : Int) = 0 := by simpa using h
      rw [if_neg (by omega)]; exact ⟨rfl, ExtH.refl H⟩
  have h : ¬ (x.1.size : Int) = 0 := by simpa using h
  rw [if_neg (by omega)]
  refine iteB_i (fun h => ?_) (fun h => ?_)
  · have h := eq_of_beq h
    rw [if_pos (by omega)]; exact ⟨rfl, ExtH.refl H⟩
  have h : ¬ (y.1.size : Int) = 0 := by simpa using h
  rw [if_neg (by omega)]
  refine iteB_i (fun h => ?_) (fun h => ?_)
  · rw [if_pos h]; exact ⟨rfl, ExtH.refl H⟩
  · rw [if_neg (by rw [h]; simp), ltS_flip]
    refine iteB_i (fun h => ?_) (fun h => ?_)
    · rw [if_pos h]; exact ⟨rfl, ExtH.refl H⟩
    · rw [if_neg (by rw [h]; simp)]; exact ⟨rfl, ExtH.refl H⟩
theorem bcmp_ok {p q : Option Addr} {n m c d : Nat} {a b : ByteArray} (h1 : a.size = n) (h2 : b.size = m) (ha : cellsAt H p (bytesOf a.data.toList)) (hb : cellsAt H q (bytesOf b.data.toList)) : CallsH Try.prog 94 ⟨[.slice p n c, .slice q m d]⟩ H (Gives (.int .i64 (Lib.compareBytes a.data.toList b.data.toList)) H) := by
  refine F94.calls ?_
  unfold F94.go
  refine cmpX (fn := Try.f95) (by kernel_rfl) (by kernel_rfl) (by kernel_rfl) (by kernel_rfl) (by kernel_rfl) h1 h2 ha hb ?_
  exact ⟨_, rfl, rfl, ExtH.refl H⟩
theorem cmpByt {x y : EN} {p q : Option Addr} {n m c d : Nat} (h1 : x.1.size = n) (h2 : y.1.size = m) (ha : cellsAt H p (bytesOf x.1.data.toList)) (hb : cellsAt H q (bytesOf y.1.data.toList)) : CallsH Try.prog 93 ⟨[.slice p n c, .iface 84 (.slice q m d)]⟩ H (Gives (.int .i64 (cmpE 2 x y)) H) := by
  have S := Sat.start H
  rw [aff_eq (.inr rfl)]
  refine F93.calls (c := .mk 84 (.slice q m d)) ?_
  unfold F93.go
  (repeat (first | (refine Step.go ?_; intros) | refine iteB_t (by decide) ?_ | refine iteB_f (by decide) ?_ | (refine Duo.mk (by first | omega | exact rfl | decide) ?_; intros) | (refine Duo.mk (Clo.mk (by kernel_rfl)) ?_; intros)))
  refine iteB_i (fun h => ?_) (fun h => ?_)
  · have h := eq_of_beq h
    rw [if_pos (by omega)]
    refine iteB_i (fun h => ?_) (fun h => ?_)
    · have h := eq_of_beq h
      rw [if_pos (by omega)]; exact ⟨rfl, ExtH.refl H⟩
    · have h : ¬ (m : Int) = 0 := by simpa using h
      rw [if_neg (by omega)]; exact ⟨rfl, ExtH.refl H⟩
  have h : ¬ (n : Int) = 0 := by simpa using h
  rw [if_neg (by omega)]
  refine iteB_i (fun h => ?_) (fun h => ?_)
  · have h := eq_of_beq h
    rw [if_pos (by omega)]; exact ⟨rfl, ExtH.refl H⟩
  have h : ¬ (m : Int) = 0 := by simpa using h
  rw [if_neg (by omega)]
  refine gives_i S (bcmp_ok h1 h2 ha hb) ?_
  intro H1 E1 S1
  (repeat (first | (refine Step.go ?_; intros) | refine iteB_t (by decide) ?_ | refine iteB_f (by decide) ?_ | (refine Duo.mk (by first | omega | exact rfl | decide) ?_; intros) | (refine Duo.mk (Clo.mk (by kernel_rfl)) ?_; intros)))
  rw [cmpB_eq]
  exact ⟨rfl, E1⟩
theorem cmpNum {x y : EN} (hx : near x.2) (hy : near y.2) : CallsH Try.prog 96 ⟨[.int .i64 x.2, .iface 85 (.int .i64 y.2)]⟩ H (Gives (.int .i64 (cmpE 3 x y)) H) := by
  have S := Sat.start H
  have e : cmpE 3 x y = if x.2 < y.2 then -1 else if y.2 < x.2 then 1 else 0 := by unfold cmpE ltE; simp
  rw [e]
  unfold near at hx hy
  refine F96.calls (c := .mk 85 (.int .i64 y.2)) ?_
  unfold F96.go
  (repeat (first | (refine Step.go ?_; intros) | refine iteB_t (by decide) ?_ | refine iteB_f (by decide) ?_ | (refine Duo.mk (by first | omega | exact rfl | decide) ?_; intros) | (refine Duo.mk (Clo.mk (by kernel_rfl)) ?_; intros)))
  rw [wr (by omega) (by omega)]
  refine iteB_i (fun h => ?_) (fun h => ?_)
  · have h := of_decide_eq_true h
    rw [if_pos (by omega)]; exact ⟨rfl, ExtH.refl H⟩
  · have h := of_decide_eq_false h
    rw [if_neg (by omega)]
    refine iteB_i (fun h => ?_) (fun h => ?_)
    · have h := of_decide_eq_true h
      rw [if_pos (by omega)]; exact ⟨rfl, ExtH.refl H⟩
    · have h := of_decide_eq_false h
      rw [if_neg (by omega)]; exact ⟨rfl, ExtH.refl H⟩
/-- Two ends compared, through their interface. -/
theorem cmp_i {o : Int} {i j : IV} {x y : EN} {l : List HP} {Q : List PanicEntry → Heap → Prop} {K : Value → Heap → Prop} (hi : IsE H o i x) (hj : IsE H o j y) (S : Sat H l) (k : ∀ H1, ExtH H H1 → Sat H1 l → K (.int .i64 (cmpE o x y)) H1) : callI Try.prog i.v "Compare" [j.v] H Q K := by
  cases hi with
  | str =>
    cases hj with
    | str => exact callI_val (f := 97) (by kernel_rfl) (by kernel_rfl) (by kernel_rfl) (gives_i S cmpStr k)
  | aff =>
    cases hj with
    | aff => exact callI_val (f := 92) (by kernel_rfl) (by kernel_rfl) (by kernel_rfl) (gives_i S cmpAff k)
  | byt h1 h2 =>
    cases hj with
    | byt h3 h4 => exact callI_val (f := 93) (by kernel_rfl) (by kernel_rfl) (by kernel_rfl) (gives_i S (cmpByt h1 h3 h2 h4) k)
  | num h1 =>
    cases hj with
    | num h2 => exact callI_val (f := 96) (by kernel_rfl) (by kernel_rfl) (by kernel_rfl) (gives_i S (cmpNum h1 h2) k)
/-! Intervals. -/
/-- An interval's two ends as they stand in memory. -/
abbrev PairI (o : Int) (b e : EN) := IV × IV
theorem compare_ok {o : Int} {a b : Nat} {i j i2 j2 : IV} {x xe y ye : EN} (h1 : H[a]? = some (.cells ⟨[i.v, j.v]⟩ 45)) (h2 : H[b]? = some (.cells ⟨[i2.v, j2.v]⟩ 45)) (hi : IsE H o i x) (hj : IsE H o j xe) (hi2 : IsE H o i2 y) (hj2 : IsE H o j2 ye) :
    CallsH Try.prog 14 ⟨[.pointer (some ⟨a, 0, none⟩), .iface 48 (.pointer (some ⟨b, 0, none⟩))]⟩ H (Gives (.int .i64 (if cmpE o x y < 0 ∧ cmpE o xe y ≤ 0 then (-1 : Int) else if 0 ≤ cmpE o x ye then 1 else 0)) H) := by
  have S := Sat.start H
  have A1 := atOld h1
  have A2 := atOld h2
  refine F14.calls (c := .mk 48 (.pointer (some ⟨b, 0, none⟩))) ?_
  unfold F14.go
  (repeat (first | (refine Step.go ?_; intros) | refine iteB_t (by decide) ?_ | refine iteB_f (by decide) ?_ | (refine Duo.mk (by first | omega | exact rfl | decide) ?_; intros) | (refine Duo.mk (Clo.mk (by kernel_rfl)) ?_; intros)))
  refine nilV_of hi.mk ?_
  (repeat (first | (refine Step.go ?_; intros) | refine iteB_t (by decide) ?_ | refine iteB_f (by decide) ?_ | (refine Duo.mk (by first | omega | exact rfl | decide) ?_; intros) | (refine Duo.mk (Clo.mk (by kernel_rfl)) ?_; intros)))
  refine cmp_i hi hi2 S ?_
  intro H1 E1 S1
  (repeat (first | (refine Step.go ?_; intros) | refine iteB_t (by decide) ?_ | refine iteB_f (by decide) ?_ | (refine Duo.mk (by first | omega | exact rfl | decide) ?_; intros) | (refine Duo.mk (Clo.mk (by kernel_rfl)) ?_; intros)))
  refine nilV_of hi.mk ?_
  (repeat (first | (refine Step.go ?_; intros) | refine iteB_t (by decide) ?_ | refine iteB_f (by decide) ?_ | (refine Duo.mk (by first | omega | exact rfl | decide) ?_; intros) | (refine Duo.mk (Clo.mk (by kernel_rfl)) ?_; intros)))
  refine cmp_i (hi.ext E1) (hj2.ext E1) S1 ?_
  intro H2 E2 S2
  (repeat (first | (refine Step.go ?_; intros) | refine iteB_t (by decide) ?_ | refine iteB_f (by decide) ?_ | (refine Duo.mk (by first | omega | exact rfl | decide) ?_; intros) | (refine Duo.mk (Clo.mk (by kernel_rfl)) ?_; intros)))
  refine nilV_of hj.mk ?_
  (repeat (first | (refine Step.go ?_; intros) | refine iteB_t (by decide) ?_ | refine iteB_f (by decide) ?_ | (refine Duo.mk (by first | omega | exact rfl | decide) ?_; intros) | (refine Duo.mk (Clo.mk (by kernel_rfl)) ?_; intros)))
  refine cmp_i (hj.ext (E1.trans E2)) (hi2.ext (E1.trans E2)) S2 ?_
  intro H3 E3 S3
  have E : ExtH H H3 := Sat.grown
  (repeat (first | (refine Step.go ?_; intros) | refine iteB_t (by decide) ?_ | refine iteB_f (by decide) ?_ | (refine Duo.mk (by first | omega | exact rfl | decide) ?_; intros) | (refine Duo.mk (Clo.mk (by kernel_rfl)) ?_; intros)))
  have l0 : ¬ (cmpE o x y < 0 ∧ cmpE o xe y ≤ 0) → F14.L0 (cmpE o x ye) H3 (Gives (.int .i64 (if cmpE o x y < 0 ∧ cmpE o xe y ≤ 0 then (-1 : Int) else if 0 ≤ cmpE o x ye then 1 else 0)) H) := by
    intro hn
    rw [if_neg hn]
    refine F14.L0_step ?_
    unfold F14.L0n
    refine iteB_i (fun h => ?_) (fun h => ?_)
    · rw [if_pos (of_decide_eq_true h)]; exact ⟨rfl, E⟩
    · rw [if_neg (of_decide_eq_false h)]; exact ⟨rfl, E⟩
  refine iteB_i (fun h => ?_) (fun h => ?_)
  · have h := of_decide_eq_true h
    refine iteB_i (fun h2 => ?_) (fun h2 => ?_)
    · rw [if_pos ⟨h, of_decide_eq_true h2⟩]; exact ⟨rfl, E⟩
    · exact l0 (fun h3 => of_decide_eq_false h2 h3.2)
  · exact l0 (fun h3 => of_decide_eq_false h h3.1)
end
end Go.Proofs.Ytjdaencapbjmdaa
