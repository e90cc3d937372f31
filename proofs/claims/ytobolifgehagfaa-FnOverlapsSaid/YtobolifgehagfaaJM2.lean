/- What functions of this seat do, each proved by a walk; no condition. -/
import Derived.Test.YtobolifgehagfaaJC
import Derived.Test.YtobolifgehagfaaJM1
set_option linter.unusedVariables false
set_option linter.unusedSimpArgs false
set_option linter.unnecessarySimpa false
namespace Go.Proofs.Ytobolifgehagfaa
open Go Go.Den Go.Proofs
section
variable {H : Heap}
theorem ends_ok (o : Int) (s t : ByteArray) (a b : Int) : CallsH Try.prog 71 ⟨[.int .i64 o, .string s, .string t, .int .i64 a, .int .i64 b]⟩ H (Gives (.int .i64 (cmpE o (s, a) (t, b))) H) := by
  have l1 : ∀ less more, less = ltE o (s, a) (t, b) → more = ltE o (t, b) (s, a) → F71.L1 less more H (Gives (.int .i64 (cmpE o (s, a) (t, b))) H) := by
    rintro less more rfl rfl
    refine F71.L1_step ?_
    unfold F71.L1n
    unfold cmpE
    refine iteB_i (fun h => ?_) (fun h => ?_)
    · rw [if_pos h]; exact ⟨rfl, ExtH.refl H⟩
    · rw [if_neg (by rw [h]; simp)]
      refine iteB_i (fun h => ?_) (fun h => ?_)
      · rw [if_pos h]; exact ⟨rfl, ExtH.refl H⟩
      · rw [if_neg (by rw [h]; simp)]; exact ⟨rfl, ExtH.refl H⟩
  refine F71.calls ?_
  unfold F71.go
  refine iteB_i (fun h => ?_) (fun h => ?_)
  · have h := eq_of_beq h
    refine l1 _ _ ?_ ?_
    · unfold ltE; rw [if_pos h]
    · unfold ltE; rw [if_pos h]
  have h : ¬ o = 3 := by simpa using h
  refine iteB_i (fun h0 => ?_) (fun h0 => ?_)
  · have h0 : ¬ o = 0 := by simpa using h0
    rw [eqS_nil, eqS_nil]
    refine iteB_i (fun hm => ?_) (fun hm => ?_)
    · have hm : ¬ (s.size = 0 ↔ t.size = 0) := by
        intro e
        have hd : decide (s.size = 0) = decide (t.size = 0) := by rw [Bool.eq_iff_iff, decide_eq_true_iff, decide_eq_true_iff]; exact e
        rw [hd] at hm
        simp at hm
      refine F71.L0_step ?_
      unfold F71.L0n
      rw [eqS_nil, eqS_nil]
      refine l1 _ _ ?_ ?_
      · unfold ltE; rw [if_neg h, if_pos ⟨h0, hm⟩]
      · unfold ltE; rw [if_neg h, if_pos ⟨h0, fun e => hm e.symm⟩]
    · have hm : (s.size = 0 ↔ t.size = 0) := by simpa using hm
      refine l1 _ _ ?_ ?_
      · unfold ltE; rw [if_neg h, if_neg (fun e => e.2 hm)]
      · unfold ltE; rw [if_neg h, if_neg (fun e => e.2 hm.symm)]; exact ltS_flip s t
  · have h0 : o = 0 := by simpa using h0
    refine l1 _ _ ?_ ?_
    · unfold ltE; rw [if_neg h, if_neg (fun e => e.1 h0)]
    · unfold ltE; rw [if_neg h, if_neg (fun e => e.1 h0)]; exact ltS_flip s t
theorem plain_ok {b e : ByteArray} {p : Bool} {f t : Int} (hb : b.size ≤ 140737488351232) : CallsH Try.prog 67 ⟨[.agg ⟨[.string b, .string e, .bool p, .int .i64 f, .int .i64 t]⟩]⟩ H (Gives (.agg ⟨(plainS ⟨b, e, p, f, t⟩).cells⟩) H) := by
  have S := Sat.start H
  refine F67.calls ?_
  unfold F67.go
  unfold plainS SP.end_
  (repeat (first | (refine Step.go ?_; intros) | refine iteB_t (by decide) ?_ | refine iteB_f (by decide) ?_ | (refine Duo.mk (by first | omega | exact rfl | decide) ?_; intros) | (refine Duo.mk (Clo.mk (by kernel_rfl)) ?_; intros)))
  refine iteB_i (fun h => ?_) (fun h => ?_)
  · subst h
    (repeat (first | (refine Step.go ?_; intros) | refine iteB_t (by decide) ?_ | refine iteB_f (by decide) ?_ | (refine Duo.mk (by first | omega | exact rfl | decide) ?_; intros) | (refine Duo.mk (Clo.mk (by kernel_rfl)) ?_; intros)))
    refine ⟨by show ((b.size + 1 : Nat) : Int) ≤ 9223372036854775807; omega, ?_⟩
    (repeat (first | (refine Step.go ?_; intros) | refine iteB_t (by decide) ?_ | refine iteB_f (by decide) ?_ | (refine Duo.mk (by first | omega | exact rfl | decide) ?_; intros) | (refine Duo.mk (Clo.mk (by kernel_rfl)) ?_; intros)))
    exact ⟨rfl, Sat.grown⟩
  · subst h
    (repeat (first | (refine Step.go ?_; intros) | refine iteB_t (by decide) ?_ | refine iteB_f (by decide) ?_ | (refine Duo.mk (by first | omega | exact rfl | decide) ?_; intros) | (refine Duo.mk (Clo.mk (by kernel_rfl)) ?_; intros)))
    exact ⟨rfl, Sat.grown⟩
end
section
variable {H0 H : Heap} {o : Int} {s t : SP} {a b : Nat}
theorem meet_l0 (h1 : H[a]? = some (.cells ⟨(plainS s).cells⟩ 35)) (h2 : H[b]? = some (.cells ⟨(plainS t).cells⟩ 35)) (E : ExtH H0 H) : F43.L0 o a b H (Gives (.bool (meetS o s t)) H0) := by
  have S := Sat.start H
  have A1 := atOld h1
  have A2 := atOld h2
  refine F43.L0_step ?_
  unfold F43.L0n
  unfold meetS
  (repeat (first | (refine Step.go ?_; intros) | refine iteB_t (by decide) ?_ | refine iteB_f (by decide) ?_ | (refine Duo.mk (by first | omega | exact rfl | decide) ?_; intros) | (refine Duo.mk (Clo.mk (by kernel_rfl)) ?_; intros)))
  refine gives_i S (ends_ok o _ _ _ _) ?_
  intro H1 E1 S1
  (repeat (first | (refine Step.go ?_; intros) | refine iteB_t (by decide) ?_ | refine iteB_f (by decide) ?_ | (refine Duo.mk (by first | omega | exact rfl | decide) ?_; intros) | (refine Duo.mk (Clo.mk (by kernel_rfl)) ?_; intros)))
  rw [cmpE_neg]
  refine iteB_i (fun h => ?_) (fun h => ?_)
  · have h : ltE o s.B t.E = true := h
    rw [h]
    (repeat (first | (refine Step.go ?_; intros) | refine iteB_t (by decide) ?_ | refine iteB_f (by decide) ?_ | (refine Duo.mk (by first | omega | exact rfl | decide) ?_; intros) | (refine Duo.mk (Clo.mk (by kernel_rfl)) ?_; intros)))
    refine gives_i S1 (ends_ok o _ _ _ _) ?_
    intro H2 E2 S2
    (repeat (first | (refine Step.go ?_; intros) | refine iteB_t (by decide) ?_ | refine iteB_f (by decide) ?_ | (refine Duo.mk (by first | omega | exact rfl | decide) ?_; intros) | (refine Duo.mk (Clo.mk (by kernel_rfl)) ?_; intros)))
    rw [cmpE_neg]
    exact ⟨rfl, (E.trans E1).trans E2⟩
  · have h : ltE o s.B t.E = false := h
    rw [h]
    exact ⟨rfl, E.trans E1⟩
theorem ahead_l0 (h1 : H[a]? = some (.cells ⟨(plainS s).cells⟩ 35)) (h2 : H[b]? = some (.cells ⟨(plainS t).cells⟩ 35)) (E : ExtH H0 H) : F57.L0 o a b H (Gives (.bool (aheadS o s t)) H0) := by
  have S := Sat.start H
  have A1 := atOld h1
  have A2 := atOld h2
  refine F57.L0_step ?_
  unfold F57.L0n
  unfold aheadS
  (repeat (first | (refine Step.go ?_; intros) | refine iteB_t (by decide) ?_ | refine iteB_f (by decide) ?_ | (refine Duo.mk (by first | omega | exact rfl | decide) ?_; intros) | (refine Duo.mk (Clo.mk (by kernel_rfl)) ?_; intros)))
  refine gives_i S (ends_ok o _ _ _ _) ?_
  intro H1 E1 S1
  (repeat (first | (refine Step.go ?_; intros) | refine iteB_t (by decide) ?_ | refine iteB_f (by decide) ?_ | (refine Duo.mk (by first | omega | exact rfl | decide) ?_; intros) | (refine Duo.mk (Clo.mk (by kernel_rfl)) ?_; intros)))
  rw [cmpE_neg, cmpE_zero]
  refine iteB_i (fun h => ?_) (fun h => ?_)
  · have h : ltE o s.B t.B = true := h
    rw [h]
    exact ⟨rfl, E.trans E1⟩
  · have h : ltE o s.B t.B = false := h
    rw [h]
    refine iteB_i (fun h2 => ?_) (fun h2 => ?_)
    · have h2 : (!ltE o s.B t.B && !ltE o t.B s.B) = true := h2
      rw [h] at h2
      have h3 : (!ltE o t.B s.B) = true := by simpa using h2
      rw [h3]
      (repeat (first | (refine Step.go ?_; intros) | refine iteB_t (by decide) ?_ | refine iteB_f (by decide) ?_ | (refine Duo.mk (by first | omega | exact rfl | decide) ?_; intros) | (refine Duo.mk (Clo.mk (by kernel_rfl)) ?_; intros)))
      refine gives_i S1 (ends_ok o _ _ _ _) ?_
      intro H2 E2 S2
      (repeat (first | (refine Step.go ?_; intros) | refine iteB_t (by decide) ?_ | refine iteB_f (by decide) ?_ | (refine Duo.mk (by first | omega | exact rfl | decide) ?_; intros) | (refine Duo.mk (Clo.mk (by kernel_rfl)) ?_; intros)))
      rw [cmpE_neg]
      exact ⟨rfl, (E.trans E1).trans E2⟩
    · have h2 : (!ltE o s.B t.B && !ltE o t.B s.B) = false := h2
      rw [h] at h2
      have h3 : (!ltE o t.B s.B) = false := by simpa using h2
      rw [h3]
      exact ⟨rfl, E.trans E1⟩
theorem meet_ok (z1 : s.b.size ≤ 140737488351232) (z2 : t.b.size ≤ 140737488351232) : CallsH Try.prog 43 ⟨[.int .i64 o, .agg ⟨s.cells⟩, .agg ⟨t.cells⟩]⟩ H (Gives (.bool (meetS o s t)) H) := by
  have S := Sat.start H
  refine F43.calls ?_
  unfold F43.go
  (repeat (first | (refine Step.go ?_; intros) | refine iteB_t (by decide) ?_ | refine iteB_f (by decide) ?_ | (refine Duo.mk (by first | omega | exact rfl | decide) ?_; intros) | (refine Duo.mk (Clo.mk (by kernel_rfl)) ?_; intros)))
  refine ⟨?_, ?_, ?_, ?_, ?_, ?_, ?_, ?_, ?_, ?_, ?_, ?_⟩
  all_goals
    ((repeat (first | (refine Step.go ?_; intros) | refine iteB_t (by decide) ?_ | refine iteB_f (by decide) ?_ | (refine Duo.mk (by first | omega | exact rfl | decide) ?_; intros) | (refine Duo.mk (Clo.mk (by kernel_rfl)) ?_; intros)))
     refine gives_i (by assumption) (plain_ok (by assumption)) ?_
     intro _ _ _
     (repeat (first | (refine Step.go ?_; intros) | refine iteB_t (by decide) ?_ | refine iteB_f (by decide) ?_ | (refine Duo.mk (by first | omega | exact rfl | decide) ?_; intros) | (refine Duo.mk (Clo.mk (by kernel_rfl)) ?_; intros)))
     refine gives_i (by assumption) (plain_ok (by assumption)) ?_
     intro _ _ _
     (repeat (first | (refine Step.go ?_; intros) | refine iteB_t (by decide) ?_ | refine iteB_f (by decide) ?_ | (refine Duo.mk (by first | omega | exact rfl | decide) ?_; intros) | (refine Duo.mk (Clo.mk (by kernel_rfl)) ?_; intros)))
     have S9 := ‹Sat _ _›
     exact meet_l0 (s := s) (t := t) S9.obj S9.obj Sat.grown)
theorem ahead_ok (z1 : s.b.size ≤ 140737488351232) (z2 : t.b.size ≤ 140737488351232) : CallsH Try.prog 57 ⟨[.int .i64 o, .agg ⟨s.cells⟩, .agg ⟨t.cells⟩]⟩ H (Gives (.bool (aheadS o s t)) H) := by
  have S := Sat.start H
  refine F57.calls ?_
  unfold F57.go
  (repeat (first | (refine Step.go ?_; intros) | refine iteB_t (by decide) ?_ | refine iteB_f (by decide) ?_ | (refine Duo.mk (by first | omega | exact rfl | decide) ?_; intros) | (refine Duo.mk (Clo.mk (by kernel_rfl)) ?_; intros)))
  refine ⟨?_, ?_, ?_, ?_, ?_, ?_, ?_, ?_, ?_, ?_, ?_, ?_⟩
  all_goals
    ((repeat (first | (refine Step.go ?_; intros) | refine iteB_t (by decide) ?_ | refine iteB_f (by decide) ?_ | (refine Duo.mk (by first | omega | exact rfl | decide) ?_; intros) | (refine Duo.mk (Clo.mk (by kernel_rfl)) ?_; intros)))
     refine gives_i (by assumption) (plain_ok (by assumption)) ?_
     intro _ _ _
     (repeat (first | (refine Step.go ?_; intros) | refine iteB_t (by decide) ?_ | refine iteB_f (by decide) ?_ | (refine Duo.mk (by first | omega | exact rfl | decide) ?_; intros) | (refine Duo.mk (Clo.mk (by kernel_rfl)) ?_; intros)))
     refine gives_i (by assumption) (plain_ok (by assumption)) ?_
     intro _ _ _
     (repeat (first | (refine Step.go ?_; intros) | refine iteB_t (by decide) ?_ | refine iteB_f (by decide) ?_ | (refine Duo.mk (by first | omega | exact rfl | decide) ?_; intros) | (refine Duo.mk (Clo.mk (by kernel_rfl)) ?_; intros)))
     have S9 := ‹Sat _ _›
     exact ahead_l0 (s := s) (t := t) S9.obj S9.obj Sat.grown)
end
end Go.Proofs.Ytobolifgehagfaa

set_option linter.unusedVariables false
set_option linter.unusedSimpArgs false
set_option linter.unnecessarySimpa false
namespace Go.Proofs.Ytobolifgehagfaa
open Go Go.Den Go.Proofs
theorem nilV_of {i : IV} {k : Value → Prop} (h : ∃ t x, i = .mk t x) (hk : k i.v) : nilV Try.prog i.v k := by
  obtain ⟨t, x, rfl⟩ := h
  exact hk
theorem cellsAt_ext {H H1 : Heap} {p : Option Addr} {vs : List Value} (h : cellsAt H p vs) (e : ExtH H H1) : cellsAt H1 p vs := by
  intro j v hj
  obtain ⟨a, h1, h2⟩ := h j v hj
  exact ⟨a, h1, e.cell h2⟩
def near (i : Int) : Prop := -2305843009213693952 ≤ i ∧ i ≤ 2305843009213693952
inductive IsE (H : Heap) : Int → IV → EN → Prop
  | str {x : EN} : IsE H 0 (.mk 181 (.string x.1)) x
  | aff {x : EN} : IsE H 1 (.mk 180 (.string x.1)) x
  | byt {x : EN} {p : Option Addr} {n c : Nat} (hn : x.1.size = n) (h : cellsAt H p (bytesOf x.1.data.toList)) : IsE H 2 (.mk 182 (.slice p n c)) x
  | num {x : EN} (h : near x.2) : IsE H 3 (.mk 183 (.int .i64 x.2)) x
theorem IsE.ext {H H1 : Heap} {o : Int} {i : IV} {x : EN} (h : IsE H o i x) (e : ExtH H H1) : IsE H1 o i x := by
  cases h with
  | str => exact .str
  | aff => exact .aff
  | byt hn h => exact .byt hn (cellsAt_ext h e)
  | num h => exact .num h
theorem IsE.mk {H : Heap} {o : Int} {i : IV} {x : EN} (h : IsE H o i x) : ∃ t v, i = .mk t v := by cases h <;> exact ⟨_, _, rfl⟩
theorem cmpB_eq (a b : ByteArray) : Lib.compareBytes a.data.toList b.data.toList = if ltS a b then -1 else if ltS b a then 1 else 0 := by
  have key : ∀ l m : List UInt8, -1 ≤ Lib.compareBytes l m ∧ Lib.compareBytes l m ≤ 1 := by
    intro l
    induction l with
    | nil => intro m; cases m <;> simp [Lib.compareBytes]
    | cons x l ih =>
      intro m
      cases m with
      | nil => simp [Lib.compareBytes]
      | cons y m =>
        unfold Lib.compareBytes
        split
        · omega
        · split
          · omega
          · exact ih m
  have h1 := key a.data.toList b.data.toList
  have h2 := bl_cmp a.data.toList b.data.toList
  have h3 := ltS_cmp a b
  have h4 := ltS_flip a b
  cases h : ltS a b with
  | true =>
    rw [h] at h3
    have := of_decide_eq_true h3
    simp only [if_true]; omega
  | false =>
    rw [h] at h3 h4
    have h3 := of_decide_eq_false h3
    simp only [Bool.false_eq_true, if_false]
    cases h5 : ltS b a with
    | true =>
      simp only [if_true]
      rw [h5] at h4
      have hne : ¬ a.data.toList = b.data.toList := by
        intro e
        have : eqS a b = true := by unfold eqS; rw [ByteArray.toList_eq, ByteArray.toList_eq, e]; simp
        rw [this] at h4; simp at h4
      have : ¬ Lib.compareBytes a.data.toList b.data.toList = 0 := fun e => hne (h2.2.1 e)
      omega
    | false =>
      simp only [Bool.false_eq_true, if_false]
      rw [h5] at h4
      have he : eqS a b = true := by simpa using h4
      unfold eqS at he
      rw [ByteArray.toList_eq, ByteArray.toList_eq] at he
      exact h2.2.2 (eq_of_beq he)
section
variable {H : Heap}
theorem cmpStr {x y : EN} : CallsH Try.prog 186 ⟨[.string x.1, .iface 181 (.string y.1)]⟩ H (Gives (.int .i64 (cmpE 0 x y)) H) := by
  have S := Sat.start H
  have e : cmpE 0 x y = if ltS x.1 y.1 then -1 else if ltS y.1 x.1 then 1 else 0 := rfl
  rw [e]
  refine F186.calls (c := .mk 181 (.string y.1)) ?_
  unfold F186.go
  (repeat (first | (refine Step.go ?_; intros) | refine iteB_t (by decide) ?_ | refine iteB_f (by decide) ?_ | (refine Duo.mk (by first | omega | exact rfl | decide) ?_; intros) | (refine Duo.mk (Clo.mk (by kernel_rfl)) ?_; intros)))
  refine iteB_i (fun h => ?_) (fun h => ?_)
  · rw [if_pos h]; exact ⟨rfl, ExtH.refl H⟩
  · rw [if_neg (by rw [h]; simp), ltS_flip]
    refine iteB_i (fun h => ?_) (fun h => ?_)
    · rw [if_pos h]; exact ⟨rfl, ExtH.refl H⟩
    · rw [if_neg (by rw [h]; simp)]; exact ⟨rfl, ExtH.refl H⟩
theorem aff_eq {o : Int} (ho : o = 1 ∨ o = 2) {x y : EN} : cmpE o x y = if x.1.size = 0 then (if y.1.size = 0 then 0 else 1) else if y.1.size = 0 then -1 else if ltS x.1 y.1 then -1 else if ltS y.1 x.1 then 1 else 0 := by
  have h3 : ¬ o = 3 := by omega
  have h0 : o ≠ 0 := by omega
  have L : ∀ u v : EN, ltE o u v = if ¬ (u.1.size = 0 ↔ v.1.size = 0) then decide (v.1.size = 0) else ltS u.1 v.1 := by
    intro u v
    unfold ltE
    rw [if_neg h3]
    by_cases h : (u.1.size = 0 ↔ v.1.size = 0)
    · rw [if_neg (fun e => e.2 h), if_neg (fun e => e h)]
    · rw [if_pos ⟨h0, h⟩, if_pos h]
  unfold cmpE
  rw [L, L]
  by_cases hx : x.1.size = 0 <;> by_cases hy : y.1.size = 0
  · simp [hx, hy, ltS_nil _ hx, ltS_nil _ hy]
  · simp [hx, hy]
  · simp [hx, hy]
  · simp [hx, hy]
theorem cmpAff {x y : EN} : CallsH Try.prog 185 ⟨[.string x.1, .iface 180 (.string y.1)]⟩ H (Gives (.int .i64 (cmpE 1 x y)) H) := by
  have S := Sat.start H
  rw [aff_eq (.inl rfl)]
  refine F185.calls (c := .mk 180 (.string y.1)) ?_
  unfold F185.go
  (repeat (first | (refine Step.go ?_; intros) | refine iteB_t (by decide) ?_ | refine iteB_f (by decide) ?_ | (refine Duo.mk (by first | omega | exact rfl | decide) ?_; intros) | (refine Duo.mk (Clo.mk (by kernel_rfl)) ?_; intros)))
  refine iteB_i (fun h => ?_) (fun h => ?_)
  · have h := eq_of_beq h
    rw [if_pos (by omega)]
    refine iteB_i (fun h => ?_) (fun h => ?_)
    · have h := eq_of_beq h
      rw [if_pos (by omega)]; exact ⟨rfl, ExtH.refl H⟩
    · have h : ¬ (y.1.size : Int) = 0 := by simpa using h
      rw [if_neg (by omega)]; exact ⟨rfl, ExtH.refl H⟩
  have h : ¬ (x.1.size : Int) = 0 := by simpa using h
  rw [if_neg (by omega)]
  refine iteB_i (fun h => ?_) (fun h => ?_)
  · have h := eq_of_beq h
    rw [if_pos (by omega)]; exact ⟨rfl, ExtH.refl H⟩
  have h : ¬ (y.1.size : Int) = 0 := by simpa using h
  rw [if_neg (by omega)]
  refine iteB_i (fun h => ?_) (fun h => ?_)
  · rw [if_pos h]; exact ⟨rfl, ExtH.refl H⟩
  · rw [if_neg (by rw [h]; simp), ltS_flip]
    refine iteB_i (fun h => ?_) (fun h => ?_)
    · rw [if_pos h]; exact ⟨rfl, ExtH.refl H⟩
    · rw [if_neg (by rw [h]; simp)]; exact ⟨rfl, ExtH.refl H⟩
theorem bcmp_ok {p q : Option Addr} {n m c d : Nat} {a b : ByteArray} (h1 : a.size = n) (h2 : b.size = m) (ha : cellsAt H p (bytesOf a.data.toList)) (hb : cellsAt H q (bytesOf b.data.toList)) : CallsH Try.prog 188 ⟨[.slice p n c, .slice q m d]⟩ H (Gives (.int .i64 (Lib.compareBytes a.data.toList b.data.toList)) H) := by
  refine F188.calls ?_
  unfold F188.go
  refine cmpX (fn := Try.f189) (by kernel_rfl) (by kernel_rfl) (by kernel_rfl) (by kernel_rfl) (by kernel_rfl) h1 h2 ha hb ?_
  exact ⟨_, rfl, rfl, ExtH.refl H⟩
theorem cmpByt {x y : EN} {p q : Option Addr} {n m c d : Nat} (h1 : x.1.size = n) (h2 : y.1.size = m) (ha : cellsAt H p (bytesOf x.1.data.toList)) (hb : cellsAt H q (bytesOf y.1.data.toList)) : CallsH Try.prog 187 ⟨[.slice p n c, .iface 182 (.slice q m d)]⟩ H (Gives (.int .i64 (cmpE 2 x y)) H) := by
  have S := Sat.start H
  rw [aff_eq (.inr rfl)]
  refine F187.calls (c := .mk 182 (.slice q m d)) ?_
  unfold F187.go
  (repeat (first | (refine Step.go ?_; intros) | refine iteB_t (by decide) ?_ | refine iteB_f (by decide) ?_ | (refine Duo.mk (by first | omega | exact rfl | decide) ?_; intros) | (refine Duo.mk (Clo.mk (by kernel_rfl)) ?_; intros)))
  refine iteB_i (fun h => ?_) (fun h => ?_)
  · have h := eq_of_beq h
    rw [if_pos (by omega)]
    refine iteB_i (fun h => ?_) (fun h => ?_)
    · have h := eq_of_beq h
      rw [if_pos (by omega)]; exact ⟨rfl, ExtH.refl H⟩
    · have h : ¬ (m : Int) = 0 := by simpa using h
      rw [if_neg (by omega)]; exact ⟨rfl, ExtH.refl H⟩
  have h : ¬ (n : Int) = 0 := by simpa using h
  rw [if_neg (by omega)]
  refine iteB_i (fun h => ?_) (fun h => ?_)
  · have h := eq_of_beq h
    rw [if_pos (by omega)]; exact ⟨rfl, ExtH.refl H⟩
  have h : ¬ (m : Int) = 0 := by simpa using h
  rw [if_neg (by omega)]
  refine gives_i S (bcmp_ok h1 h2 ha hb) ?_
  intro H1 E1 S1
  (repeat (first | (refine Step.go ?_; intros) | refine iteB_t (by decide) ?_ | refine iteB_f (by decide) ?_ | (refine Duo.mk (by first | omega | exact rfl | decide) ?_; intros) | (refine Duo.mk (Clo.mk (by kernel_rfl)) ?_; intros)))
  rw [cmpB_eq]
  exact ⟨rfl, E1⟩
theorem cmpNum {x y : EN} (hx : near x.2) (hy : near y.2) : CallsH Try.prog 190 ⟨[.int .i64 x.2, .iface 183 (.int .i64 y.2)]⟩ H (Gives (.int .i64 (cmpE 3 x y)) H) := by
  have S := Sat.start H
  have e : cmpE 3 x y = if x.2 < y.2 then -1 else if y.2 < x.2 then 1 else 0 := by unfold cmpE ltE; simp
  rw [e]
  unfold near at hx hy
  refine F190.calls (c := .mk 183 (.int .i64 y.2)) ?_
  unfold F190.go
  (repeat (first | (refine Step.go ?_; intros) | refine iteB_t (by decide) ?_ | refine iteB_f (by decide) ?_ | (refine Duo.mk (by first | omega | exact rfl | decide) ?_; intros) | (refine Duo.mk (Clo.mk (by kernel_rfl)) ?_; intros)))
  rw [wr (by omega) (by omega)]
  refine iteB_i (fun h => ?_) (fun h => ?_)
  · have h := of_decide_eq_true h
    rw [if_pos (by omega)]; exact ⟨rfl, ExtH.refl H⟩
  · have h := of_decide_eq_false h
    rw [if_neg (by omega)]
    refine iteB_i (fun h => ?_) (fun h => ?_)
    · have h := of_decide_eq_true h
      rw [if_pos (by omega)]; exact ⟨rfl, ExtH.refl H⟩
    · have h := of_decide_eq_false h
      rw [if_neg (by omega)]; exact ⟨rfl, ExtH.refl H⟩
/-- Two ends compared, through their interface. -/
theorem cmp_i {o : Int} {i j : IV} {x y : EN} {l : List HP} {Q : List PanicEntry → Heap → Prop} {K : Value → Heap → Prop} (hi : IsE H o i x) (hj : IsE H o j y) (S : Sat H l) (k : ∀ H1, ExtH H H1 → Sat H1 l → K (.int .i64 (cmpE o x y)) H1) : callI Try.prog i.v "Compare" [j.v] H Q K := by
  cases hi with
  | str =>
    cases hj with
    | str => exact callI_val (f := 186) (by kernel_rfl) (by kernel_rfl) (by kernel_rfl) (gives_i S cmpStr k)
  | aff =>
    cases hj with
    | aff => exact callI_val (f := 185) (by kernel_rfl) (by kernel_rfl) (by kernel_rfl) (gives_i S cmpAff k)
  | byt h1 h2 =>
    cases hj with
    | byt h3 h4 => exact callI_val (f := 187) (by kernel_rfl) (by kernel_rfl) (by kernel_rfl) (gives_i S (cmpByt h1 h3 h2 h4) k)
  | num h1 =>
    cases hj with
    | num h2 => exact callI_val (f := 190) (by kernel_rfl) (by kernel_rfl) (by kernel_rfl) (gives_i S (cmpNum h1 h2) k)
end
end Go.Proofs.Ytobolifgehagfaa

set_option linter.unusedVariables false
set_option linter.unusedSimpArgs false
set_option linter.unnecessarySimpa false
namespace Go.Proofs.Ytobolifgehagfaa
open Go Go.Den Go.Proofs
section
variable {H : Heap}
theorem mkAff (b e : ByteArray) : CallsH Try.prog 50 ⟨[.string b, .string e]⟩ H (Gives (.agg ⟨[.iface 180 (.string b), .iface 180 (.string e)]⟩) H) := by
  have S := Sat.start H
  refine F50.calls ?_
  unfold F50.go
  (repeat (first | (refine Step.go ?_; intros) | refine iteB_t (by decide) ?_ | refine iteB_f (by decide) ?_ | (refine Duo.mk (by first | omega | exact rfl | decide) ?_; intros) | (refine Duo.mk (Clo.mk (by kernel_rfl)) ?_; intros)))
  exact ⟨rfl, Sat.grown⟩
theorem mkAffP {b : ByteArray} (hb : b.size ≤ 140737488351232) : CallsH Try.prog 87 ⟨[.string b]⟩ H (Gives (.agg ⟨[.iface 180 (.string b), .iface 180 (.string (b ++ ⟨#[0]⟩))]⟩) H) := by
  have S := Sat.start H
  refine F87.calls ?_
  unfold F87.go
  (repeat (first | (refine Step.go ?_; intros) | refine iteB_t (by decide) ?_ | refine iteB_f (by decide) ?_ | (refine Duo.mk (by first | omega | exact rfl | decide) ?_; intros) | (refine Duo.mk (Clo.mk (by kernel_rfl)) ?_; intros)))
  rename_i r H1 S1
  refine ⟨by show ((b.size + 1 : Nat) : Int) ≤ 9223372036854775807; omega, ?_⟩
  refine gives_i S1 (mkAff _ _) ?_
  intro H2 E2 S2
  (repeat (first | (refine Step.go ?_; intros) | refine iteB_t (by decide) ?_ | refine iteB_f (by decide) ?_ | (refine Duo.mk (by first | omega | exact rfl | decide) ?_; intros) | (refine Duo.mk (Clo.mk (by kernel_rfl)) ?_; intros)))
  exact ⟨rfl, Sat.grown⟩
abbrev NumOk (o : Int) (s : SP) : Prop := o = 3 → s.p = false ∧ near s.f ∧ near s.t
end
end Go.Proofs.Ytobolifgehagfaa

set_option linter.unusedVariables false
set_option linter.unusedSimpArgs false
set_option linter.unnecessarySimpa false
namespace Go.Proofs.Ytobolifgehagfaa
open Go Go.Den Go.Proofs
/-! Trees in memory. -/
/-- What stays as it is. -/
def has (g : PH) : HP := fun h => PH.sub g h
class HasG (l : List HP) (g : outParam PH) : Prop where
  out : has g ∈ l
instance (priority := 2000) HasG.here {g : PH} {l : List HP} : HasG (has g :: l) g := ⟨List.mem_cons_self ..⟩
instance (priority := 1000) HasG.there {g : PH} {c : HP} {l : List HP} [h : HasG l g] : HasG (c :: l) g := ⟨List.mem_cons_of_mem _ h.out⟩
theorem HasG.sub {H : Heap} {l : List HP} {g : PH} (G : HasG l g) (S : Sat H l) : PH.sub g (PH.of H) := by
  obtain ⟨h, h1, h2⟩ := S.mem G.out
  exact h1.trans h2
def IsG (g : PH) (o : Int) (i : IV) (x : EN) : Prop := ∀ H : Heap, PH.sub g (PH.of H) → IsE H o i x
theorem IsG.mono {g g' : PH} {o : Int} {i : IV} {x : EN} (h : IsG g o i x) (s : PH.sub g g') : IsG g' o i x := fun H hs => h H (s.trans hs)
def OkI (g : PH) (o : Int) (it : It) : Prop := IsG g o it.i it.B ∧ IsG g o it.j it.E
theorem OkI.mono {g g' : PH} {o : Int} {it : It} (h : OkI g o it) (s : PH.sub g g') : OkI g' o it := ⟨h.1.mono s, h.2.mono s⟩
/-- A value that counts as much as M. -/
def IsM (g : PH) (o : Int) (m : IV) (M : EN) : Prop := ∃ M', IsG g o m M' ∧ eqE o M' M
theorem IsM.mono {g g' : PH} {o : Int} {m : IV} {M : EN} (h : IsM g o m M) (s : PH.sub g g') : IsM g' o m M := let ⟨a, b, c⟩ := h; ⟨a, b.mono s, c⟩
theorem IsM.congr {g : PH} {o : Int} {m : IV} {M N : EN} (h : IsM g o m M) (e : eqE o M N) : IsM g o m N := let ⟨a, b, c⟩ := h; ⟨a, b, c.trans e⟩
theorem IsG.isM {g : PH} {o : Int} {m : IV} {M : EN} (h : IsG g o m M) : IsM g o m M := ⟨M, h, .refl ..⟩
abbrev pA (b : Nat) : Value := .pointer (some ⟨b, 0, none⟩)
abbrev aA (b : Nat) : Addr := ⟨b, 0, none⟩
def colI (c : Bool) : Int := if c then 1 else 0
abbrev ndO (it : It) (m : IV) (l r p : Nat) (c : Bool) : Obj := .cells ⟨[it.i.v, it.j.v, it.v.v, m.v, pA l, pA r, pA p, .int .i64 (colI c)]⟩ 135
abbrev senO : Obj := .cells ⟨[.nilIface, .nilIface, .nilIface, .nilIface, .pointer none, .pointer none, .pointer none, .int .i64 0]⟩ 135
abbrev treO (root : Nat) (n : Int) (sr : Nat) : Obj := .cells ⟨[pA root, .int .i64 n, pA sr]⟩ 138
def nd (g : PH) (o : Int) (sr : Nat) (it : It) (M : EN) (l r p : Nat) (c : Bool) : HP := ex fun m : IV => star [lift (OkI g o it ∧ it.r ≠ sr ∧ IsM g o m M), pt it.r (ndO it m l r p c)]
def tr (g : PH) (o : Int) (sr : Nat) : Nat → Tr → HP
  | _, .nil => star []
  | p, .node it c l r => star [nd g o sr it (mx3 o it.E (l.mx o) (r.mx o)) (l.ref sr) (r.ref sr) p c, tr g o sr it.r l, tr g o sr it.r r]
def cx (g : PH) (o : Int) (sr : Nat) : Nat → Option EN → List Fr → HP
  | _, _, [] => star []
  | h, e, f :: k => star [nd g o sr f.it (f.mx o e) (if f.left then h else f.sib.ref sr) (if f.left then f.sib.ref sr else h) (par sr k) f.c, tr g o sr f.it.r f.sib, cx g o sr f.it.r (some (f.mx o e)) k]
section
variable {H : Heap} {l m : List HP} {g : PH} {o : Int} {sr b : Nat}
theorem nd_congr {it : It} {M N : EN} {x y p : Nat} {c : Bool} (e : eqE o M N) : Ent (nd g o sr it M x y p c :: l) (nd g o sr it N x y p c :: l) := by
  refine Ent.exL fun m => Ent.ex m ?_
  refine Ent.starL (Ent.star ?_)
  refine Ent.liftL fun h => Ent.lift ⟨h.1, h.2.1, h.2.2.congr e⟩ .refl
theorem cx_congr : ∀ (k : List Fr) {h : Nat} {e e' : Option EN} {l : List HP}, eqO o e e' → Ent (cx g o sr h e k :: l) (cx g o sr h e' k :: l)
  | [], _, _, _, _, _ => Ent.refl
  | f :: k, h, e, e', l, q => by
    unfold cx
    refine Ent.starL (Ent.star ?_)
    have q1 := Fr.mx_congr (f := f) q
    refine Ent.trans (nd_congr q1) (Ent.cons (Ent.cons ?_))
    exact cx_congr k q1
/-- Opening and closing a node. -/
theorem nd_open {it : It} {M : EN} {x y p : Nat} {c : Bool} (S : Sat H (nd g o sr it M x y p c :: l)) : ∃ m, OkI g o it ∧ it.r ≠ sr ∧ IsM g o m M ∧ Sat H (pt it.r (ndO it m x y p c) :: l) := by
  obtain ⟨m, S⟩ := S.ex
  obtain ⟨h, S⟩ := S.star.lift
  exact ⟨m, h.1, h.2.1, h.2.2, S⟩
theorem nd_close {it : It} {M : EN} {x y p : Nat} {c : Bool} {m : IV} (h1 : OkI g o it) (h2 : it.r ≠ sr) (h3 : IsM g o m M) : Ent (pt it.r (ndO it m x y p c) :: l) (nd g o sr it M x y p c :: l) :=
  Ent.ex m (Ent.star (Ent.lift ⟨h1, h2, h3⟩ .refl))
theorem tr_open {it : It} {p : Nat} {c : Bool} {t u : Tr} (S : Sat H (tr g o sr p (.node it c t u) :: l)) : ∃ m, OkI g o it ∧ it.r ≠ sr ∧ IsM g o m (mx3 o it.E (t.mx o) (u.mx o)) ∧ Sat H (pt it.r (ndO it m (t.ref sr) (u.ref sr) p c) :: tr g o sr it.r t :: tr g o sr it.r u :: l) := nd_open S.star
theorem tr_close {it : It} {p : Nat} {c : Bool} {t u : Tr} {m : IV} (h1 : OkI g o it) (h2 : it.r ≠ sr) (h3 : IsM g o m (mx3 o it.E (t.mx o) (u.mx o))) : Ent (pt it.r (ndO it m (t.ref sr) (u.ref sr) p c) :: tr g o sr it.r t :: tr g o sr it.r u :: l) (tr g o sr p (.node it c t u) :: l) :=
  Ent.star (nd_close h1 h2 h3)
theorem tr_nil {p : Nat} : Ent (tr g o sr p .nil :: l) l := Ent.starL .refl
theorem tr_mknil {p : Nat} : Ent l (tr g o sr p .nil :: l) := Ent.star .refl
/-- A cell of a block among pieces. -/
def CellI (l : List HP) (b j : Nat) (v : Value) : Prop := ∀ k, SatP k l → ∃ cs T, k b = some (.cells ⟨cs⟩ T) ∧ cs[j]? = some v
theorem CellI.there {c : HP} {j : Nat} {v : Value} (h : CellI l b j v) : CellI (c :: l) b j v := fun k x => h k x.tail
theorem CellI.here {cs : List Value} {T : TypeId} {j : Nat} {v : Value} (h : cs[j]? = some v) : CellI (pt b (.cells ⟨cs⟩ T) :: l) b j v := fun k x => by
  obtain ⟨h', h1, h2, _⟩ := x
  exact ⟨cs, T, h2 _ _ h1, h⟩
theorem CellI.get {j : Nat} {v : Value} (h : CellI l b j v) (S : Sat H l) : hcell H ⟨b, j, none⟩ = some v := by
  obtain ⟨cs, T, h1, h2⟩ := h _ S.out
  exact hcell_of h1 h2
/-- A child, by its greatest end. -/
def Kid (g : PH) (o : Int) (sr : Nat) (l : List HP) (b : Nat) : Option EN → Prop
  | none => b = sr
  | some e => ∀ k, SatP k l → b ≠ sr ∧ ∃ i cs T, IsM g o i e ∧ k b = some (.cells ⟨cs⟩ T) ∧ cs[3]? = some (IV.v i)
theorem Kid.there {c : HP} : ∀ {e : Option EN}, Kid g o sr l b e → Kid g o sr (c :: l) b e
  | none, h => h
  | some e, h => fun k x => h k x.tail
theorem Kid.to {m : List HP} (e : Ent m l) : ∀ {x : Option EN}, Kid g o sr l b x → Kid g o sr m b x
  | none, h => h
  | some _, h => fun k x => h k (e k x)
theorem Kid.here {cs : List Value} {T : TypeId} {i : IV} {e : EN} (h : cs[3]? = some (IV.v i)) (hi : IsM g o i e) (hb : b ≠ sr) : Kid g o sr (pt b (.cells ⟨cs⟩ T) :: l) b (some e) := fun k x => by
  obtain ⟨h', h1, h2, _⟩ := x
  exact ⟨hb, i, cs, T, hi, h2 _ _ h1, h⟩
theorem kid_tr : ∀ (t : Tr) {p : Nat}, Kid g o sr (tr g o sr p t :: l) (t.ref sr) (t.mx o)
  | .nil, _ => rfl
  | .node it c t u, p => fun k x => by
    have x := SatP.star_iff.1 x
    obtain ⟨m, x⟩ := SatP.ex_iff.1 x
    obtain ⟨h, x⟩ := SatP.lift_iff.1 (SatP.star_iff.1 x)
    obtain ⟨h', h1, h2, _⟩ := x
    exact ⟨h.2.1, m, _, _, h.2.2, h2 _ _ h1, rfl⟩
theorem Kid.get {e : EN} (h : Kid g o sr l b (some e)) (S : Sat H l) : b ≠ sr ∧ ∃ i cs T, IsM g o i e ∧ H[b]? = some (.cells ⟨cs⟩ T) ∧ cs[3]? = some (IV.v i) := h _ S.out
/-! The greatest end is set anew, from a node up. -/
theorem cmpG {i j : IV} {x y : EN} {Q : List PanicEntry → Heap → Prop} {K : Value → Heap → Prop} (S : Sat H l) [G : HasG l g] (hi : IsG g o i x) (hj : IsG g o j y) (k : ∀ H1, Sat H1 l → K (.int .i64 (cmpE o x y)) H1) : callI Try.prog i.v "Compare" [j.v] H Q K :=
  cmp_i (hi H (G.sub S)) (hj H (G.sub S)) S fun H1 _ S1 => k H1 S1
instance {i : IV} {X : Prop} : Step (guardB (isCell i.v) X) X := ⟨fun h => by rw [isCell_IV]; exact h⟩
theorem pq_same {a : Addr} {k : Bool → Prop} (h : k true) : pqD H (some a) (some a) k := by
  refine .inl ⟨rfl, ?_⟩
  have e : (a == a) = true := by simp
  rw [e]
  exact h
theorem pq_ne {a b : Nat} {ca cb : Array Value} {Ta Tb : TypeId} {za zb : Nat} {k : Bool → Prop} (hn : a ≠ b) (ha : H[a]? = some (.cells ca Ta (za, za))) (hb : H[b]? = some (.cells cb Tb (zb, zb))) (h : k false) : pqD H (some ⟨a, 0, none⟩) (some ⟨b, 0, none⟩) k :=
  .inr ⟨hn, ⟨_, _, _, ha⟩, ⟨_, _, _, hb⟩, h⟩
theorem updM_step {k : List Fr} {it : It} {c : Bool} {M : EN} {m : IV} {x y : Nat} {mx my : Option EN} {R : Ending → Heap → Prop}
    (S : Sat H (pt it.r (ndO it m x y (par sr k) c) :: cx g o sr it.r (some M) k :: pt sr senO :: has g :: l)) (hO : OkI g o it) (hne : it.r ≠ sr) (hm : IsM g o m M) (kx : Kid g o sr l x mx) (ky : Kid g o sr l y my)
    (stop : ∀ H1, eqE o M (mx3 o it.E mx my) → Sat H1 (pt it.r (ndO it m x y (par sr k) c) :: cx g o sr it.r (some M) k :: pt sr senO :: has g :: l) → R (.returned (.tuple ⟨[]⟩)) H1)
    (rec : ∀ m' H1, IsM g o m' (mx3 o it.E mx my) → Sat H1 (pt it.r (ndO it m' x y (par sr k) c) :: cx g o sr it.r (some M) k :: pt sr senO :: has g :: l) → F137.L0 (some (aA (par sr k))) (some (aA sr)) H1 R) :
    F137.L0 (some (aA it.r)) (some (aA sr)) H R := by
  have l4 : ∀ (H : Heap) (i : IV), IsM g o i (mx3 o it.E mx my) → Sat H (pt it.r (ndO it m x y (par sr k) c) :: cx g o sr it.r (some M) k :: pt sr senO :: has g :: l) → F137.L4 (some (aA it.r)) (some (aA sr)) m i H R := by
    rintro H i ⟨N, hi, hN⟩ S
    obtain ⟨M', hm1, hm2⟩ := hm
    refine F137.L4_step ?_
    unfold F137.L4n
    refine cmpG S hm1 hi fun H1 S1 => ?_
    (repeat (first | (refine Step.go ?_; intros) | refine iteB_t (by decide) ?_ | refine iteB_f (by decide) ?_ | (refine Duo.mk (by first | omega | exact rfl | decide) ?_; intros) | (refine Duo.mk (Clo.mk (by kernel_rfl)) ?_; intros)))
    refine iteB_i (fun h => ?_) (fun h => ?_)
    · have h := cmpE_eqE.1 h
      exact stop H1 (hm2.symm.trans (h.trans hN)) S1
    · (repeat (first | (refine Step.go ?_; intros) | refine iteB_t (by decide) ?_ | refine iteB_f (by decide) ?_ | (refine Duo.mk (by first | omega | exact rfl | decide) ?_; intros) | (refine Duo.mk (Clo.mk (by kernel_rfl)) ?_; intros)))
      exact rec i _ ⟨N, hi, hN⟩ (by assumption)
  have l2 : ∀ (H : Heap) (i : IV), IsM g o i (mx2 o it.E mx) → Sat H (pt it.r (ndO it m x y (par sr k) c) :: cx g o sr it.r (some M) k :: pt sr senO :: has g :: l) → F137.L2 (some (aA it.r)) (some (aA sr)) m i H R := by
    rintro H i ⟨N, hi, hN⟩ S
    refine F137.L2_step ?_
    unfold F137.L2n
    (repeat (first | (refine Step.go ?_; intros) | refine iteB_t (by decide) ?_ | refine iteB_f (by decide) ?_ | (refine Duo.mk (by first | omega | exact rfl | decide) ?_; intros) | (refine Duo.mk (Clo.mk (by kernel_rfl)) ?_; intros)))
    cases my with
    | none =>
      obtain rfl : y = sr := ky
      refine pq_same ?_
      (repeat (first | (refine Step.go ?_; intros) | refine iteB_t (by decide) ?_ | refine iteB_f (by decide) ?_ | (refine Duo.mk (by first | omega | exact rfl | decide) ?_; intros) | (refine Duo.mk (Clo.mk (by kernel_rfl)) ?_; intros)))
      exact l4 H i ⟨N, hi, hN⟩ S
    | some e =>
      obtain ⟨hy, j, cs, T, ⟨J, hj, hJ⟩, hb, hc⟩ := Kid.get (ky.there.there.there.there) S
      refine pq_ne hy hb (S.at_ (r := sr) (o := senO) (by simp)) ?_
      (repeat (first | (refine Step.go ?_; intros) | refine iteB_t (by decide) ?_ | refine iteB_f (by decide) ?_ | (refine Duo.mk (by first | omega | exact rfl | decide) ?_; intros) | (refine Duo.mk (Clo.mk (by kernel_rfl)) ?_; intros)))
      refine ⟨j, hcell_of hb hc, ?_⟩
      refine cmpG S hj hi fun H1 S1 => ?_
      (repeat (first | (refine Step.go ?_; intros) | refine iteB_t (by decide) ?_ | refine iteB_f (by decide) ?_ | (refine Duo.mk (by first | omega | exact rfl | decide) ?_; intros) | (refine Duo.mk (Clo.mk (by kernel_rfl)) ?_; intros)))
      rw [cmpE_pos]
      have hlt : ltE o N J = ltE o (mx2 o it.E mx) e := by rw [hN.lt_l, hJ.lt_r]
      obtain ⟨_, j1, cs1, T1, ⟨J1, hj1, hJ1⟩, hb1, hc1⟩ := Kid.get (ky.there.there.there.there) S1
      refine iteB_i (fun h => ?_) (fun h => ?_)
      · rw [hlt] at h
        refine F137.L3_step ?_
        unfold F137.L3n
        (repeat (first | (refine Step.go ?_; intros) | refine iteB_t (by decide) ?_ | refine iteB_f (by decide) ?_ | (refine Duo.mk (by first | omega | exact rfl | decide) ?_; intros) | (refine Duo.mk (Clo.mk (by kernel_rfl)) ?_; intros)))
        refine ⟨j1, hcell_of hb1 hc1, ?_⟩
        refine l4 H1 j1 ⟨J1, hj1, hJ1.trans ?_⟩ S1
        show eqE o e (mx3 o it.E mx (some e))
        unfold mx3
        rw [show mx2 o (mx2 o it.E mx) (some e) = e from if_pos h]
        exact .refl ..
      · rw [hlt] at h
        refine l4 H1 i ⟨N, hi, ?_⟩ S1
        unfold mx3
        rw [show mx2 o (mx2 o it.E mx) (some e) = mx2 o it.E mx from if_neg (by rw [h]; simp)]
        exact hN
  refine F137.L0_step ?_
  unfold F137.L0n
  refine pq_ne hne (S.at_ (r := it.r) (o := ndO it m x y (par sr k) c) (by simp)) (S.at_ (r := sr) (o := senO) (by simp)) ?_
  (repeat (first | (refine Step.go ?_; intros) | refine iteB_t (by decide) ?_ | refine iteB_f (by decide) ?_ | (refine Duo.mk (by first | omega | exact rfl | decide) ?_; intros) | (refine Duo.mk (Clo.mk (by kernel_rfl)) ?_; intros)))
  cases mx with
  | none =>
    obtain rfl : x = sr := kx
    refine pq_same ?_
    (repeat (first | (refine Step.go ?_; intros) | refine iteB_t (by decide) ?_ | refine iteB_f (by decide) ?_ | (refine Duo.mk (by first | omega | exact rfl | decide) ?_; intros) | (refine Duo.mk (Clo.mk (by kernel_rfl)) ?_; intros)))
    exact l2 H _ ⟨it.E, hO.2, .refl ..⟩ S
  | some e =>
    obtain ⟨hy, j, cs, T, ⟨J, hj, hJ⟩, hb, hc⟩ := Kid.get (kx.there.there.there.there) S
    refine pq_ne hy hb (S.at_ (r := sr) (o := senO) (by simp)) ?_
    (repeat (first | (refine Step.go ?_; intros) | refine iteB_t (by decide) ?_ | refine iteB_f (by decide) ?_ | (refine Duo.mk (by first | omega | exact rfl | decide) ?_; intros) | (refine Duo.mk (Clo.mk (by kernel_rfl)) ?_; intros)))
    refine ⟨j, hcell_of hb hc, ?_⟩
    refine cmpG S hj hO.2 fun H1 S1 => ?_
    (repeat (first | (refine Step.go ?_; intros) | refine iteB_t (by decide) ?_ | refine iteB_f (by decide) ?_ | (refine Duo.mk (by first | omega | exact rfl | decide) ?_; intros) | (refine Duo.mk (Clo.mk (by kernel_rfl)) ?_; intros)))
    rw [cmpE_pos, hJ.lt_r]
    obtain ⟨_, j1, cs1, T1, ⟨J1, hj1, hJ1⟩, hb1, hc1⟩ := Kid.get (kx.there.there.there.there) S1
    refine iteB_i (fun h => ?_) (fun h => ?_)
    · refine F137.L1_step ?_
      unfold F137.L1n
      (repeat (first | (refine Step.go ?_; intros) | refine iteB_t (by decide) ?_ | refine iteB_f (by decide) ?_ | (refine Duo.mk (by first | omega | exact rfl | decide) ?_; intros) | (refine Duo.mk (Clo.mk (by kernel_rfl)) ?_; intros)))
      refine ⟨j1, hcell_of hb1 hc1, ?_⟩
      refine l2 H1 j1 ⟨J1, hj1, hJ1.trans ?_⟩ S1
      rw [show mx2 o it.E (some e) = e from if_pos h]
      exact .refl ..
    · refine l2 H1 _ ⟨it.E, hO.2, ?_⟩ S1
      rw [show mx2 o it.E (some e) = it.E from if_neg (by rw [h]; simp)]
      exact .refl ..
theorem updM_ok : ∀ (k : List Fr) (it : It) (c : Bool) (M : EN) (m : IV) (x y : Nat) (mx my : Option EN) (H : Heap) (l : List HP),
    Sat H (pt it.r (ndO it m x y (par sr k) c) :: cx g o sr it.r (some M) k :: pt sr senO :: has g :: l) → OkI g o it → it.r ≠ sr → IsM g o m M → Kid g o sr l x mx → Kid g o sr l y my →
    F137.L0 (some (aA it.r)) (some (aA sr)) H (fun e H1 => e = .returned (.tuple ⟨[]⟩) ∧ ∃ m', IsM g o m' (mx3 o it.E mx my) ∧ Sat H1 (pt it.r (ndO it m' x y (par sr k) c) :: cx g o sr it.r (some (mx3 o it.E mx my)) k :: pt sr senO :: has g :: l)) := by
  intro k
  induction k with
  | nil =>
    intro it c M m x y mx my H l S hO hne hm kx ky
    refine updM_step S hO hne hm kx ky (fun H1 e S1 => ⟨rfl, m, hm.congr e, S1.to (Ent.cons (cx_congr [] e))⟩) fun m' H1 hm' S1 => ?_
    refine F137.L0_step ?_
    unfold F137.L0n
    refine pq_same ?_
    (repeat (first | (refine Step.go ?_; intros) | refine iteB_t (by decide) ?_ | refine iteB_f (by decide) ?_ | (refine Duo.mk (by first | omega | exact rfl | decide) ?_; intros) | (refine Duo.mk (Clo.mk (by kernel_rfl)) ?_; intros)))
    exact ⟨rfl, m', hm', S1⟩
  | cons f k ih =>
    intro it c M m x y mx my H l S hO hne hm kx ky
    refine updM_step S hO hne hm kx ky (fun H1 e S1 => ⟨rfl, m, hm.congr e, S1.to (Ent.cons (cx_congr (f :: k) e))⟩) fun m' H1 hm' S1 => ?_
    have S2 := (S1.bring (c := cx g o sr it.r (some M) (f :: k)) (by (repeat (first | exact Sel.here | apply Sel.there)))).star
    obtain ⟨mf, f1, f2, f3, S3⟩ := nd_open S2
    obtain ⟨fi, fc, fl, fs⟩ := f
    have kh : ∀ l', Kid g o sr (pt it.r (ndO it m' x y (par sr (⟨fi, fc, fl, fs⟩ :: k)) c) :: l') it.r (some (mx3 o it.E mx my)) := fun l' => Kid.here rfl hm' hne
    have ks : ∀ l', Kid g o sr (tr g o sr fi.r fs :: l') (fs.ref sr) (fs.mx o) := fun l' => kid_tr fs
    have S4 : Sat H1 (pt fi.r (ndO fi mf (if fl then it.r else fs.ref sr) (if fl then fs.ref sr else it.r) (par sr k) fc) :: cx g o sr fi.r (some (Fr.mx o ⟨fi, fc, fl, fs⟩ (some M))) k :: pt sr senO :: has g :: pt it.r (ndO it m' x y (par sr (⟨fi, fc, fl, fs⟩ :: k)) c) :: tr g o sr fi.r fs :: l) := S3.to (by
      iterate 6 (apply Ent.pick; (focus (repeat (first | exact Sel.here | apply Sel.there))))
      exact Ent.refl)
    have em : mx3 o fi.E (if fl then some (mx3 o it.E mx my) else fs.mx o) (if fl then fs.mx o else some (mx3 o it.E mx my)) = Fr.mx o ⟨fi, fc, fl, fs⟩ (some (mx3 o it.E mx my)) := by cases fl <;> rfl
    refine GoL.mono (ih fi fc _ mf _ _ (if fl then some (mx3 o it.E mx my) else fs.mx o) (if fl then fs.mx o else some (mx3 o it.E mx my)) H1 _ S4 f1 f2 f3 ?_ ?_) (fun e H2 h => ?_)
    · cases fl
      · exact (ks _).there
      · exact kh _
    · cases fl
      · exact kh _
      · exact (ks _).there
    · obtain ⟨rfl, m2, g1, S5⟩ := h
      refine ⟨rfl, m', hm', ?_⟩
      rw [em] at g1 S5
      have S6 : Sat H2 (cx g o sr it.r (some (mx3 o it.E mx my)) (⟨fi, fc, fl, fs⟩ :: k) :: pt it.r (ndO it m' x y (par sr (⟨fi, fc, fl, fs⟩ :: k)) c) :: pt sr senO :: has g :: l) := by
        refine S5.to (Ent.star (Ent.trans ?_ (nd_close f1 f2 g1)))
        iterate 6 (apply Ent.pick; (focus (repeat (first | exact Sel.here | apply Sel.there))))
        exact Ent.refl
      refine S6.to ?_
      iterate 4 (apply Ent.pick; (focus (repeat (first | exact Sel.here | apply Sel.there))))
      exact Ent.refl
end
end Go.Proofs.Ytobolifgehagfaa

set_option linter.unusedVariables false
set_option linter.unusedSimpArgs false
set_option linter.unnecessarySimpa false
namespace Go.Proofs.Ytobolifgehagfaa
open Go Go.Den Go.Proofs
/-! Turns. -/
def rootR : List Fr → Nat → Nat
  | [], h => h
  | f :: k, _ => rootR k f.it.r
theorem ref_fill {f : Fr} {t : Tr} {sr : Nat} : (f.fill t).ref sr = f.it.r := by unfold Fr.fill; split <;> rfl
theorem ref_plug {sr : Nat} : ∀ (k : List Fr) (t : Tr), (plug k t).ref sr = rootR k (t.ref sr)
  | [], t => rfl
  | f :: k, t => by rw [plug, ref_plug k, ref_fill]; rfl
section
variable {H : Heap} {l m : List HP} {g : PH} {o : Int} {sr b tp : Nat}
theorem updD {k : List Fr} {it : It} {c : Bool} {M : EN} {m : IV} {x y : Nat} {mx my : Option EN} {Q : List PanicEntry → Heap → Prop} {K : Value → Heap → Prop}
    (S : Sat H (pt it.r (ndO it m x y (par sr k) c) :: cx g o sr it.r (some M) k :: pt sr senO :: has g :: l)) (hO : OkI g o it) (hne : it.r ≠ sr) (hm : IsM g o m M) (kx : Kid g o sr l x mx) (ky : Kid g o sr l y my)
    (k1 : ∀ m' H1, IsM g o m' (mx3 o it.E mx my) → Sat H1 (pt it.r (ndO it m' x y (par sr k) c) :: cx g o sr it.r (some (mx3 o it.E mx my)) k :: pt sr senO :: has g :: l) → K (.tuple ⟨[]⟩) H1) :
    callD Try.prog 137 [pA it.r, pA sr] H Q K :=
  call_of (F137.calls (updM_ok k it c M m x y mx my H l S hO hne hm kx ky)) fun e H1 ⟨he, m', h1, S1⟩ => by subst he; exact k1 m' H1 h1 S1
theorem pq_ref {ca : List Value} {T : TypeId} {p : Nat} {t : Tr} {K : Bool → Prop} (S : Sat H (pt b (.cells ⟨ca⟩ T) :: tr g o sr p t :: pt sr senO :: l)) (hb : b ≠ sr) (k : K false) : pqD H (some (aA b)) (some (aA (t.ref sr))) K := by
  cases t with
  | nil => exact pq_ne hb (S.at_ (r := b) (o := .cells ⟨ca⟩ T) (by simp)) (S.at_ (r := sr) (o := senO) (by simp)) k
  | node it c u v =>
    have S1 := (S.bring (c := tr g o sr p (.node it c u v)) (by (repeat (first | exact Sel.here | apply Sel.there))))
    obtain ⟨m, h1, h2, h3, S2⟩ := tr_open S1
    refine pq_ne ?_ (S2.at_ (r := b) (o := .cells ⟨ca⟩ T) (by simp)) (S2.at_ (r := it.r) (o := ndO it m (u.ref sr) (v.ref sr) p c) (by simp)) k
    exact S2.ne (r := b) (r' := it.r) (by (repeat (first | exact Sel.here | apply Sel.there))) (by (repeat (first | exact Sel.here | apply Sel.there)))
theorem repl_ok {xi yi : It} {xc yc : Bool} {xm ym : IV} {xl xr yl yr yp : Nat} {n : Int} {M N : EN} {k : List Fr}
    (S : Sat H (pt xi.r (ndO xi xm xl xr (par sr k) xc) :: pt yi.r (ndO yi ym yl yr yp yc) :: cx g o sr xi.r (some M) k :: pt tp (treO (rootR k xi.r) n sr) :: pt sr senO :: has g :: l)) (hx : xi.r ≠ sr) (hy : yi.r ≠ sr) (hm : IsM g o ym N) :
    CallsH Try.prog 168 ⟨[pA tp, pA xi.r, pA yi.r]⟩ H (fun e H1 => e = .returned (.tuple ⟨[]⟩) ∧ Sat H1 (pt xi.r (ndO xi xm xl xr yi.r xc) :: pt yi.r (ndO yi ym yl yr (par sr k) yc) :: cx g o sr yi.r (some N) k :: pt tp (treO (rootR k yi.r) n sr) :: pt sr senO :: has g :: l)) := by
  refine F168.calls ?_
  unfold F168.go
  cases k with
  | nil =>
    (repeat (first | (refine Step.go ?_; intros) | refine iteB_t (by decide) ?_ | refine iteB_f (by decide) ?_ | (refine Duo.mk (by first | omega | exact rfl | decide) ?_; intros) | (refine Duo.mk (Clo.mk (by kernel_rfl)) ?_; intros)))
    refine pq_same ?_
    (repeat (first | (refine Step.go ?_; intros) | refine iteB_t (by decide) ?_ | refine iteB_f (by decide) ?_ | (refine Duo.mk (by first | omega | exact rfl | decide) ?_; intros) | (refine Duo.mk (Clo.mk (by kernel_rfl)) ?_; intros)))
    refine ⟨rfl, ?_⟩
    (refine Sat.to (by assumption) ?_; apply Ent.pick; (focus (repeat (first | exact Sel.here | apply Sel.there))); apply Ent.pick; (focus (repeat (first | exact Sel.here | apply Sel.there))); apply Ent.pick; (focus (repeat (first | exact Sel.here | apply Sel.there))); apply Ent.pick; (focus (repeat (first | exact Sel.here | apply Sel.there))); apply Ent.pick; (focus (repeat (first | exact Sel.here | apply Sel.there))); exact Fits.out)
  | cons f k =>
    obtain ⟨fi, fc, fl, fs⟩ := f
    have S2 := (S.bring (c := cx g o sr xi.r (some M) (⟨fi, fc, fl, fs⟩ :: k)) (by (repeat (first | exact Sel.here | apply Sel.there)))).star
    obtain ⟨mf, f1, f2, f3, S3⟩ := nd_open S2
    clear S2
    cases fl with
    | true =>
      have S3 : Sat H (pt fi.r (ndO fi mf xi.r (fs.ref sr) (par sr k) fc) :: tr g o sr fi.r fs :: cx g o sr fi.r (some (Fr.mx o ⟨fi, fc, true, fs⟩ (some M))) k :: pt xi.r (ndO xi xm xl xr fi.r xc) :: pt yi.r (ndO yi ym yl yr yp yc) :: pt tp (treO (rootR k fi.r) n sr) :: pt sr senO :: has g :: l) := S3
      clear S
      (repeat (first | (refine Step.go ?_; intros) | refine iteB_t (by decide) ?_ | refine iteB_f (by decide) ?_ | (refine Duo.mk (by first | omega | exact rfl | decide) ?_; intros) | (refine Duo.mk (Clo.mk (by kernel_rfl)) ?_; intros)))
      rename_i H1 S4
      refine pq_ne f2 (S4.obj) (S4.obj) ?_
      (repeat (first | (refine Step.go ?_; intros) | refine iteB_t (by decide) ?_ | refine iteB_f (by decide) ?_ | (refine Duo.mk (by first | omega | exact rfl | decide) ?_; intros) | (refine Duo.mk (Clo.mk (by kernel_rfl)) ?_; intros)))
      refine pq_same ?_
      (repeat (first | (refine Step.go ?_; intros) | refine iteB_t (by decide) ?_ | refine iteB_f (by decide) ?_ | (refine Duo.mk (by first | omega | exact rfl | decide) ?_; intros) | (refine Duo.mk (Clo.mk (by kernel_rfl)) ?_; intros)))
      refine F168.L0_step ?_
      unfold F168.L0n
      (repeat (first | (refine Step.go ?_; intros) | refine iteB_t (by decide) ?_ | refine iteB_f (by decide) ?_ | (refine Duo.mk (by first | omega | exact rfl | decide) ?_; intros) | (refine Duo.mk (Clo.mk (by kernel_rfl)) ?_; intros)))
      rename_i H2 S5
      refine updD (k := k) (it := fi) (c := fc) (m := mf) (x := yi.r) (y := (fs.ref sr)) (mx := some N) (my := fs.mx o) (l := tr g o sr fi.r fs :: pt yi.r (ndO yi ym yl yr fi.r yc) :: pt xi.r (ndO xi xm xl xr fi.r xc) :: pt tp (treO (rootR k fi.r) n sr) :: l) (S5.to ?_) f1 f2 f3 ?_ ?_ ?_
      · iterate 8 (apply Ent.pick; (focus (repeat (first | exact Sel.here | apply Sel.there))))
        exact Ent.refl
      · exact (Kid.here rfl hm hy).there
      · exact kid_tr fs
      intro m' H3 h1 S6
      (repeat (first | (refine Step.go ?_; intros) | refine iteB_t (by decide) ?_ | refine iteB_f (by decide) ?_ | (refine Duo.mk (by first | omega | exact rfl | decide) ?_; intros) | (refine Duo.mk (Clo.mk (by kernel_rfl)) ?_; intros)))
      rename_i H4 S7
      refine ⟨rfl, ?_⟩
      have S8 : Sat H4 (cx g o sr yi.r (some N) (⟨fi, fc, true, fs⟩ :: k) :: pt xi.r (ndO xi xm xl xr yi.r xc) :: pt yi.r (ndO yi ym yl yr fi.r yc) :: pt tp (treO (rootR k fi.r) n sr) :: pt sr senO :: has g :: l) := by
        refine S7.to (Ent.star (Ent.trans ?_ (nd_close f1 f2 h1)))
        iterate 8 (apply Ent.pick; (focus (repeat (first | exact Sel.here | apply Sel.there))))
        exact Ent.refl
      refine S8.to ?_
      iterate 6 (apply Ent.pick; (focus (repeat (first | exact Sel.here | apply Sel.there))))
      exact Ent.refl
    | false =>
      have S3 : Sat H (pt fi.r (ndO fi mf (fs.ref sr) xi.r (par sr k) fc) :: tr g o sr fi.r fs :: cx g o sr fi.r (some (Fr.mx o ⟨fi, fc, false, fs⟩ (some M))) k :: pt xi.r (ndO xi xm xl xr fi.r xc) :: pt yi.r (ndO yi ym yl yr yp yc) :: pt tp (treO (rootR k fi.r) n sr) :: pt sr senO :: has g :: l) := S3
      clear S
      (repeat (first | (refine Step.go ?_; intros) | refine iteB_t (by decide) ?_ | refine iteB_f (by decide) ?_ | (refine Duo.mk (by first | omega | exact rfl | decide) ?_; intros) | (refine Duo.mk (Clo.mk (by kernel_rfl)) ?_; intros)))
      rename_i H1 S4
      refine pq_ne f2 (S4.obj) (S4.obj) ?_
      (repeat (first | (refine Step.go ?_; intros) | refine iteB_t (by decide) ?_ | refine iteB_f (by decide) ?_ | (refine Duo.mk (by first | omega | exact rfl | decide) ?_; intros) | (refine Duo.mk (Clo.mk (by kernel_rfl)) ?_; intros)))
      refine pq_ref (T := 135) (ca := [xi.i.v, xi.j.v, xi.v.v, xm.v, pA xl, pA xr, pA fi.r, .int .i64 (colI xc)]) (p := fi.r) (t := fs) (g := g) (o := o) (l := []) (S4.to ?_) hx ?_
      · iterate 3 (apply Ent.pick; (focus (repeat (first | exact Sel.here | apply Sel.there))))
        exact Ent.nil
      (repeat (first | (refine Step.go ?_; intros) | refine iteB_t (by decide) ?_ | refine iteB_f (by decide) ?_ | (refine Duo.mk (by first | omega | exact rfl | decide) ?_; intros) | (refine Duo.mk (Clo.mk (by kernel_rfl)) ?_; intros)))
      refine F168.L0_step ?_
      unfold F168.L0n
      (repeat (first | (refine Step.go ?_; intros) | refine iteB_t (by decide) ?_ | refine iteB_f (by decide) ?_ | (refine Duo.mk (by first | omega | exact rfl | decide) ?_; intros) | (refine Duo.mk (Clo.mk (by kernel_rfl)) ?_; intros)))
      rename_i H2 S5
      refine updD (k := k) (it := fi) (c := fc) (m := mf) (x := (fs.ref sr)) (y := yi.r) (mx := fs.mx o) (my := some N) (l := tr g o sr fi.r fs :: pt yi.r (ndO yi ym yl yr fi.r yc) :: pt xi.r (ndO xi xm xl xr fi.r xc) :: pt tp (treO (rootR k fi.r) n sr) :: l) (S5.to ?_) f1 f2 f3 ?_ ?_ ?_
      · iterate 8 (apply Ent.pick; (focus (repeat (first | exact Sel.here | apply Sel.there))))
        exact Ent.refl
      · exact kid_tr fs
      · exact (Kid.here rfl hm hy).there
      intro m' H3 h1 S6
      (repeat (first | (refine Step.go ?_; intros) | refine iteB_t (by decide) ?_ | refine iteB_f (by decide) ?_ | (refine Duo.mk (by first | omega | exact rfl | decide) ?_; intros) | (refine Duo.mk (Clo.mk (by kernel_rfl)) ?_; intros)))
      rename_i H4 S7
      refine ⟨rfl, ?_⟩
      have S8 : Sat H4 (cx g o sr yi.r (some N) (⟨fi, fc, false, fs⟩ :: k) :: pt xi.r (ndO xi xm xl xr yi.r xc) :: pt yi.r (ndO yi ym yl yr fi.r yc) :: pt tp (treO (rootR k fi.r) n sr) :: pt sr senO :: has g :: l) := by
        refine S7.to (Ent.star (Ent.trans ?_ (nd_close f1 f2 h1)))
        iterate 8 (apply Ent.pick; (focus (repeat (first | exact Sel.here | apply Sel.there))))
        exact Ent.refl
      refine S8.to ?_
      iterate 6 (apply Ent.pick; (focus (repeat (first | exact Sel.here | apply Sel.there))))
      exact Ent.refl
theorem rotL_ok {xi yi : It} {xc yc : Bool} {a b e : Tr} {n : Int} {k : List Fr}
    (S : Sat H (tr g o sr (par sr k) (.node xi xc a (.node yi yc b e)) :: cx g o sr xi.r (Tr.mx o (.node xi xc a (.node yi yc b e))) k :: pt tp (treO (rootR k xi.r) n sr) :: pt sr senO :: has g :: l)) :
    CallsH Try.prog 164 ⟨[pA tp, pA xi.r]⟩ H (fun e' H1 => e' = .returned (.tuple ⟨[]⟩) ∧ Sat H1 (tr g o sr (par sr k) (.node yi yc (.node xi xc a b) e) :: cx g o sr yi.r (Tr.mx o (.node yi yc (.node xi xc a b) e)) k :: pt tp (treO (rootR k yi.r) n sr) :: pt sr senO :: has g :: l)) := by
  obtain ⟨xm, ox, nx, hxm, S1⟩ := tr_open S
  obtain ⟨ym, oy, ny, hym, S2⟩ := tr_open (S1.bring (c := tr g o sr xi.r (.node yi yc b e)) (by (repeat (first | exact Sel.here | apply Sel.there))))
  clear S S1
  have T0 : Sat H (pt yi.r (ndO yi ym (b.ref sr) (e.ref sr) xi.r yc) :: tr g o sr yi.r b :: tr g o sr yi.r e :: pt xi.r (ndO xi xm (a.ref sr) yi.r (par sr k) xc) :: tr g o sr xi.r a :: cx g o sr xi.r (Tr.mx o (.node xi xc a (.node yi yc b e))) k :: pt tp (treO (rootR k xi.r) n sr) :: pt sr senO :: has g :: l) := by
    refine S2.to ?_
    iterate 9 (apply Ent.pick; (focus (repeat (first | exact Sel.here | apply Sel.there))))
    exact Ent.refl
  clear S2
  have l0 : ∀ H, Sat H (pt xi.r (ndO xi xm (a.ref sr) (b.ref sr) (par sr k) xc) :: pt yi.r (ndO yi ym (b.ref sr) (e.ref sr) xi.r yc) :: tr g o sr xi.r b :: tr g o sr yi.r e :: tr g o sr xi.r a :: cx g o sr xi.r (Tr.mx o (.node xi xc a (.node yi yc b e))) k :: pt tp (treO (rootR k xi.r) n sr) :: pt sr senO :: has g :: l) →
      F164.L0 (some (aA tp)) (some (aA xi.r)) (some (aA yi.r)) H (fun e' H1 => e' = .returned (.tuple ⟨[]⟩) ∧ Sat H1 (tr g o sr (par sr k) (.node yi yc (.node xi xc a b) e) :: cx g o sr yi.r (Tr.mx o (.node yi yc (.node xi xc a b) e)) k :: pt tp (treO (rootR k yi.r) n sr) :: pt sr senO :: has g :: l)) := by
    intro H S
    refine F164.L0_step ?_
    unfold F164.L0n
    (repeat (first | (refine Step.go ?_; intros) | refine iteB_t (by decide) ?_ | refine iteB_f (by decide) ?_ | (refine Duo.mk (by first | omega | exact rfl | decide) ?_; intros) | (refine Duo.mk (Clo.mk (by kernel_rfl)) ?_; intros)))
    have T1 : Sat H (pt xi.r (ndO xi xm (a.ref sr) (b.ref sr) (par sr k) xc) :: cx g o sr xi.r (some (mx3 o xi.E (a.mx o) (Tr.mx o (.node yi yc b e)))) k :: pt sr senO :: has g :: tr g o sr xi.r a :: tr g o sr xi.r b :: pt yi.r (ndO yi ym (b.ref sr) (e.ref sr) xi.r yc) :: tr g o sr yi.r e :: pt tp (treO (rootR k xi.r) n sr) :: l) := by
      refine S.to ?_
      iterate 9 (apply Ent.pick; (focus (repeat (first | exact Sel.here | apply Sel.there))))
      exact Ent.refl
    clear S
    refine updD (k := k) (it := xi) (c := xc) (m := xm) (x := (a.ref sr)) (y := (b.ref sr)) (mx := a.mx o) (my := b.mx o) T1 ox nx hxm ?_ ?_ ?_
    · exact kid_tr a
    · exact (kid_tr b).there
    intro m' H1 h1 S1
    (repeat (first | (refine Step.go ?_; intros) | refine iteB_t (by decide) ?_ | refine iteB_f (by decide) ?_ | (refine Duo.mk (by first | omega | exact rfl | decide) ?_; intros) | (refine Duo.mk (Clo.mk (by kernel_rfl)) ?_; intros)))
    have T2 : Sat H1 (pt xi.r (ndO xi m' (a.ref sr) (b.ref sr) (par sr k) xc) :: pt yi.r (ndO yi ym (b.ref sr) (e.ref sr) xi.r yc) :: cx g o sr xi.r (some (mx3 o xi.E (a.mx o) (b.mx o))) k :: pt tp (treO (rootR k xi.r) n sr) :: pt sr senO :: has g :: tr g o sr xi.r a :: tr g o sr xi.r b :: tr g o sr yi.r e :: l) := by
      refine S1.to ?_
      iterate 9 (apply Ent.pick; (focus (repeat (first | exact Sel.here | apply Sel.there))))
      exact Ent.refl
    clear S1
    refine call_of (repl_ok T2 nx ny hym) ?_
    rintro _ H2 ⟨rfl, S3⟩
    (repeat (first | (refine Step.go ?_; intros) | refine iteB_t (by decide) ?_ | refine iteB_f (by decide) ?_ | (refine Duo.mk (by first | omega | exact rfl | decide) ?_; intros) | (refine Duo.mk (Clo.mk (by kernel_rfl)) ?_; intros)))
    rename_i H3 S4
    have T3 : Sat H3 (pt yi.r (ndO yi ym xi.r (e.ref sr) (par sr k) yc) :: cx g o sr yi.r (some (mx3 o yi.E (b.mx o) (e.mx o))) k :: pt sr senO :: has g :: pt xi.r (ndO xi m' (a.ref sr) (b.ref sr) yi.r xc) :: tr g o sr yi.r e :: tr g o sr xi.r a :: tr g o sr xi.r b :: pt tp (treO (rootR k yi.r) n sr) :: l) := by
      refine S4.to ?_
      iterate 9 (apply Ent.pick; (focus (repeat (first | exact Sel.here | apply Sel.there))))
      exact Ent.refl
    clear S4
    (repeat (first | (refine Step.go ?_; intros) | refine iteB_t (by decide) ?_ | refine iteB_f (by decide) ?_ | (refine Duo.mk (by first | omega | exact rfl | decide) ?_; intros) | (refine Duo.mk (Clo.mk (by kernel_rfl)) ?_; intros)))
    refine updD (k := k) (it := yi) (c := yc) (m := ym) (x := xi.r) (y := (e.ref sr)) (mx := some (mx3 o xi.E (a.mx o) (b.mx o))) (my := e.mx o) T3 oy ny hym ?_ ?_ ?_
    · exact Kid.here rfl h1 nx
    · exact (kid_tr e).there
    intro m2 H4 h2 S5
    (repeat (first | (refine Step.go ?_; intros) | refine iteB_t (by decide) ?_ | refine iteB_f (by decide) ?_ | (refine Duo.mk (by first | omega | exact rfl | decide) ?_; intros) | (refine Duo.mk (Clo.mk (by kernel_rfl)) ?_; intros)))
    refine ⟨rfl, ?_⟩
    have S6 : Sat H4 (tr g o sr yi.r (.node xi xc a b) :: pt yi.r (ndO yi m2 xi.r (e.ref sr) (par sr k) yc) :: tr g o sr yi.r e :: cx g o sr yi.r (Tr.mx o (.node yi yc (.node xi xc a b) e)) k :: pt tp (treO (rootR k yi.r) n sr) :: pt sr senO :: has g :: l) := by
      refine S5.to (Ent.trans ?_ (tr_close ox nx h1))
      iterate 9 (apply Ent.pick; (focus (repeat (first | exact Sel.here | apply Sel.there))))
      exact Ent.refl
    refine S6.to (Ent.trans ?_ (tr_close oy ny h2))
    iterate 7 (apply Ent.pick; (focus (repeat (first | exact Sel.here | apply Sel.there))))
    exact Ent.refl
  refine F164.calls ?_
  unfold F164.go
  (repeat (first | (refine Step.go ?_; intros) | refine iteB_t (by decide) ?_ | refine iteB_f (by decide) ?_ | (refine Duo.mk (by first | omega | exact rfl | decide) ?_; intros) | (refine Duo.mk (Clo.mk (by kernel_rfl)) ?_; intros)))
  refine pq_ne ny (T0.obj) (T0.obj) ?_
  (repeat (first | (refine Step.go ?_; intros) | refine iteB_t (by decide) ?_ | refine iteB_f (by decide) ?_ | (refine Duo.mk (by first | omega | exact rfl | decide) ?_; intros) | (refine Duo.mk (Clo.mk (by kernel_rfl)) ?_; intros)))
  rename_i H1 S3
  clear T0
  cases b with
  | nil =>
    refine pq_same ?_
    (repeat (first | (refine Step.go ?_; intros) | refine iteB_t (by decide) ?_ | refine iteB_f (by decide) ?_ | (refine Duo.mk (by first | omega | exact rfl | decide) ?_; intros) | (refine Duo.mk (Clo.mk (by kernel_rfl)) ?_; intros)))
    refine l0 _ (S3.to ?_)
    iterate 2 (apply Ent.pick; (focus (repeat (first | exact Sel.here | apply Sel.there))))
    refine Ent.trans ?_ tr_mknil
    refine Ent.trans (Ent.bring (c := tr g o sr yi.r .nil) (by (repeat (first | exact Sel.here | apply Sel.there)))) (Ent.trans tr_nil ?_)
    iterate 6 (apply Ent.pick; (focus (repeat (first | exact Sel.here | apply Sel.there))))
    exact Ent.refl
  | node bi bc bl br =>
    obtain ⟨bm, ob, nb, hbm, S4⟩ := tr_open (S3.bring (c := tr g o sr yi.r (.node bi bc bl br)) (by (repeat (first | exact Sel.here | apply Sel.there))))
    clear S3
    have T4 : Sat H1 (pt bi.r (ndO bi bm (bl.ref sr) (br.ref sr) yi.r bc) :: tr g o sr bi.r bl :: tr g o sr bi.r br :: pt xi.r (ndO xi xm (a.ref sr) bi.r (par sr k) xc) :: pt yi.r (ndO yi ym bi.r (e.ref sr) xi.r yc) :: tr g o sr yi.r e :: tr g o sr xi.r a :: cx g o sr xi.r (Tr.mx o (.node xi xc a (.node yi yc (.node bi bc bl br) e))) k :: pt tp (treO (rootR k xi.r) n sr) :: pt sr senO :: has g :: l) := by
      refine S4.to ?_
      iterate 10 (apply Ent.pick; (focus (repeat (first | exact Sel.here | apply Sel.there))))
      exact Ent.refl
    clear S4
    dsimp only [Tr.ref]
    refine pq_ne nb (T4.obj) (T4.obj) ?_
    (repeat (first | (refine Step.go ?_; intros) | refine iteB_t (by decide) ?_ | refine iteB_f (by decide) ?_ | (refine Duo.mk (by first | omega | exact rfl | decide) ?_; intros) | (refine Duo.mk (Clo.mk (by kernel_rfl)) ?_; intros)))
    rename_i H2 S5
    refine l0 _ (S5.to ?_)
    iterate 2 (apply Ent.pick; (focus (repeat (first | exact Sel.here | apply Sel.there))))
    refine Ent.trans ?_ (tr_close ob nb hbm)
    iterate 9 (apply Ent.pick; (focus (repeat (first | exact Sel.here | apply Sel.there))))
    exact Ent.refl
theorem rotR_ok {xi yi : It} {xc yc : Bool} {a b e : Tr} {n : Int} {k : List Fr}
    (S : Sat H (tr g o sr (par sr k) (.node xi xc (.node yi yc e b) a) :: cx g o sr xi.r (Tr.mx o (.node xi xc (.node yi yc e b) a)) k :: pt tp (treO (rootR k xi.r) n sr) :: pt sr senO :: has g :: l)) :
    CallsH Try.prog 165 ⟨[pA tp, pA xi.r]⟩ H (fun e' H1 => e' = .returned (.tuple ⟨[]⟩) ∧ Sat H1 (tr g o sr (par sr k) (.node yi yc e (.node xi xc b a)) :: cx g o sr yi.r (Tr.mx o (.node yi yc e (.node xi xc b a))) k :: pt tp (treO (rootR k yi.r) n sr) :: pt sr senO :: has g :: l)) := by
  obtain ⟨xm, ox, nx, hxm, S1⟩ := tr_open S
  obtain ⟨ym, oy, ny, hym, S2⟩ := tr_open (S1.bring (c := tr g o sr xi.r (.node yi yc e b)) (by (repeat (first | exact Sel.here | apply Sel.there))))
  clear S S1
  have T0 : Sat H (pt yi.r (ndO yi ym (e.ref sr) (b.ref sr) xi.r yc) :: tr g o sr yi.r b :: tr g o sr yi.r e :: pt xi.r (ndO xi xm yi.r (a.ref sr) (par sr k) xc) :: tr g o sr xi.r a :: cx g o sr xi.r (Tr.mx o (.node xi xc (.node yi yc e b) a)) k :: pt tp (treO (rootR k xi.r) n sr) :: pt sr senO :: has g :: l) := by
    refine S2.to ?_
    iterate 9 (apply Ent.pick; (focus (repeat (first | exact Sel.here | apply Sel.there))))
    exact Ent.refl
  clear S2
  have l0 : ∀ H, Sat H (pt xi.r (ndO xi xm (b.ref sr) (a.ref sr) (par sr k) xc) :: pt yi.r (ndO yi ym (e.ref sr) (b.ref sr) xi.r yc) :: tr g o sr xi.r b :: tr g o sr yi.r e :: tr g o sr xi.r a :: cx g o sr xi.r (Tr.mx o (.node xi xc (.node yi yc e b) a)) k :: pt tp (treO (rootR k xi.r) n sr) :: pt sr senO :: has g :: l) →
      F165.L0 (some (aA tp)) (some (aA xi.r)) (some (aA yi.r)) H (fun e' H1 => e' = .returned (.tuple ⟨[]⟩) ∧ Sat H1 (tr g o sr (par sr k) (.node yi yc e (.node xi xc b a)) :: cx g o sr yi.r (Tr.mx o (.node yi yc e (.node xi xc b a))) k :: pt tp (treO (rootR k yi.r) n sr) :: pt sr senO :: has g :: l)) := by
    intro H S
    refine F165.L0_step ?_
    unfold F165.L0n
    (repeat (first | (refine Step.go ?_; intros) | refine iteB_t (by decide) ?_ | refine iteB_f (by decide) ?_ | (refine Duo.mk (by first | omega | exact rfl | decide) ?_; intros) | (refine Duo.mk (Clo.mk (by kernel_rfl)) ?_; intros)))
    have T1 : Sat H (pt xi.r (ndO xi xm (b.ref sr) (a.ref sr) (par sr k) xc) :: cx g o sr xi.r (some (mx3 o xi.E (Tr.mx o (.node yi yc e b)) (a.mx o))) k :: pt sr senO :: has g :: tr g o sr xi.r a :: tr g o sr xi.r b :: pt yi.r (ndO yi ym (e.ref sr) (b.ref sr) xi.r yc) :: tr g o sr yi.r e :: pt tp (treO (rootR k xi.r) n sr) :: l) := by
      refine S.to ?_
      iterate 9 (apply Ent.pick; (focus (repeat (first | exact Sel.here | apply Sel.there))))
      exact Ent.refl
    clear S
    refine updD (k := k) (it := xi) (c := xc) (m := xm) (x := (b.ref sr)) (y := (a.ref sr)) (mx := b.mx o) (my := a.mx o) T1 ox nx hxm ?_ ?_ ?_
    · exact (kid_tr b).there
    · exact kid_tr a
    intro m' H1 h1 S1
    (repeat (first | (refine Step.go ?_; intros) | refine iteB_t (by decide) ?_ | refine iteB_f (by decide) ?_ | (refine Duo.mk (by first | omega | exact rfl | decide) ?_; intros) | (refine Duo.mk (Clo.mk (by kernel_rfl)) ?_; intros)))
    have T2 : Sat H1 (pt xi.r (ndO xi m' (b.ref sr) (a.ref sr) (par sr k) xc) :: pt yi.r (ndO yi ym (e.ref sr) (b.ref sr) xi.r yc) :: cx g o sr xi.r (some (mx3 o xi.E (b.mx o) (a.mx o))) k :: pt tp (treO (rootR k xi.r) n sr) :: pt sr senO :: has g :: tr g o sr xi.r a :: tr g o sr xi.r b :: tr g o sr yi.r e :: l) := by
      refine S1.to ?_
      iterate 9 (apply Ent.pick; (focus (repeat (first | exact Sel.here | apply Sel.there))))
      exact Ent.refl
    clear S1
    refine call_of (repl_ok T2 nx ny hym) ?_
    rintro _ H2 ⟨rfl, S3⟩
    (repeat (first | (refine Step.go ?_; intros) | refine iteB_t (by decide) ?_ | refine iteB_f (by decide) ?_ | (refine Duo.mk (by first | omega | exact rfl | decide) ?_; intros) | (refine Duo.mk (Clo.mk (by kernel_rfl)) ?_; intros)))
    rename_i H3 S4
    have T3 : Sat H3 (pt yi.r (ndO yi ym (e.ref sr) xi.r (par sr k) yc) :: cx g o sr yi.r (some (mx3 o yi.E (e.mx o) (b.mx o))) k :: pt sr senO :: has g :: pt xi.r (ndO xi m' (b.ref sr) (a.ref sr) yi.r xc) :: tr g o sr yi.r e :: tr g o sr xi.r a :: tr g o sr xi.r b :: pt tp (treO (rootR k yi.r) n sr) :: l) := by
      refine S4.to ?_
      iterate 9 (apply Ent.pick; (focus (repeat (first | exact Sel.here | apply Sel.there))))
      exact Ent.refl
    clear S4
    (repeat (first | (refine Step.go ?_; intros) | refine iteB_t (by decide) ?_ | refine iteB_f (by decide) ?_ | (refine Duo.mk (by first | omega | exact rfl | decide) ?_; intros) | (refine Duo.mk (Clo.mk (by kernel_rfl)) ?_; intros)))
    refine updD (k := k) (it := yi) (c := yc) (m := ym) (x := (e.ref sr)) (y := xi.r) (mx := e.mx o) (my := some (mx3 o xi.E (b.mx o) (a.mx o))) T3 oy ny hym ?_ ?_ ?_
    · exact (kid_tr e).there
    · exact Kid.here rfl h1 nx
    intro m2 H4 h2 S5
    (repeat (first | (refine Step.go ?_; intros) | refine iteB_t (by decide) ?_ | refine iteB_f (by decide) ?_ | (refine Duo.mk (by first | omega | exact rfl | decide) ?_; intros) | (refine Duo.mk (Clo.mk (by kernel_rfl)) ?_; intros)))
    refine ⟨rfl, ?_⟩
    have S6 : Sat H4 (tr g o sr yi.r (.node xi xc b a) :: pt yi.r (ndO yi m2 (e.ref sr) xi.r (par sr k) yc) :: tr g o sr yi.r e :: cx g o sr yi.r (Tr.mx o (.node yi yc e (.node xi xc b a))) k :: pt tp (treO (rootR k yi.r) n sr) :: pt sr senO :: has g :: l) := by
      refine S5.to (Ent.trans ?_ (tr_close ox nx h1))
      iterate 9 (apply Ent.pick; (focus (repeat (first | exact Sel.here | apply Sel.there))))
      exact Ent.refl
    refine S6.to (Ent.trans ?_ (tr_close oy ny h2))
    iterate 7 (apply Ent.pick; (focus (repeat (first | exact Sel.here | apply Sel.there))))
    exact Ent.refl
  refine F165.calls ?_
  unfold F165.go
  (repeat (first | (refine Step.go ?_; intros) | refine iteB_t (by decide) ?_ | refine iteB_f (by decide) ?_ | (refine Duo.mk (by first | omega | exact rfl | decide) ?_; intros) | (refine Duo.mk (Clo.mk (by kernel_rfl)) ?_; intros)))
  refine pq_ne ny (T0.obj) (T0.obj) ?_
  (repeat (first | (refine Step.go ?_; intros) | refine iteB_t (by decide) ?_ | refine iteB_f (by decide) ?_ | (refine Duo.mk (by first | omega | exact rfl | decide) ?_; intros) | (refine Duo.mk (Clo.mk (by kernel_rfl)) ?_; intros)))
  rename_i H1 S3
  clear T0
  cases b with
  | nil =>
    refine pq_same ?_
    (repeat (first | (refine Step.go ?_; intros) | refine iteB_t (by decide) ?_ | refine iteB_f (by decide) ?_ | (refine Duo.mk (by first | omega | exact rfl | decide) ?_; intros) | (refine Duo.mk (Clo.mk (by kernel_rfl)) ?_; intros)))
    refine l0 _ (S3.to ?_)
    iterate 2 (apply Ent.pick; (focus (repeat (first | exact Sel.here | apply Sel.there))))
    refine Ent.trans ?_ tr_mknil
    refine Ent.trans (Ent.bring (c := tr g o sr yi.r .nil) (by (repeat (first | exact Sel.here | apply Sel.there)))) (Ent.trans tr_nil ?_)
    iterate 6 (apply Ent.pick; (focus (repeat (first | exact Sel.here | apply Sel.there))))
    exact Ent.refl
  | node bi bc bl br =>
    obtain ⟨bm, ob, nb, hbm, S4⟩ := tr_open (S3.bring (c := tr g o sr yi.r (.node bi bc bl br)) (by (repeat (first | exact Sel.here | apply Sel.there))))
    clear S3
    have T4 : Sat H1 (pt bi.r (ndO bi bm (bl.ref sr) (br.ref sr) yi.r bc) :: tr g o sr bi.r bl :: tr g o sr bi.r br :: pt xi.r (ndO xi xm bi.r (a.ref sr) (par sr k) xc) :: pt yi.r (ndO yi ym (e.ref sr) bi.r xi.r yc) :: tr g o sr yi.r e :: tr g o sr xi.r a :: cx g o sr xi.r (Tr.mx o (.node xi xc (.node yi yc e (.node bi bc bl br)) a)) k :: pt tp (treO (rootR k xi.r) n sr) :: pt sr senO :: has g :: l) := by
      refine S4.to ?_
      iterate 10 (apply Ent.pick; (focus (repeat (first | exact Sel.here | apply Sel.there))))
      exact Ent.refl
    clear S4
    dsimp only [Tr.ref]
    refine pq_ne nb (T4.obj) (T4.obj) ?_
    (repeat (first | (refine Step.go ?_; intros) | refine iteB_t (by decide) ?_ | refine iteB_f (by decide) ?_ | (refine Duo.mk (by first | omega | exact rfl | decide) ?_; intros) | (refine Duo.mk (Clo.mk (by kernel_rfl)) ?_; intros)))
    rename_i H2 S5
    refine l0 _ (S5.to ?_)
    iterate 2 (apply Ent.pick; (focus (repeat (first | exact Sel.here | apply Sel.there))))
    refine Ent.trans ?_ (tr_close ob nb hbm)
    iterate 9 (apply Ent.pick; (focus (repeat (first | exact Sel.here | apply Sel.there))))
    exact Ent.refl
end
end Go.Proofs.Ytobolifgehagfaa

set_option linter.unusedVariables false
set_option linter.unusedSimpArgs false
set_option linter.unnecessarySimpa false
namespace Go.Proofs.Ytobolifgehagfaa
open Go Go.Den Go.Proofs
/-! A red node is put in: what follows. -/
section
variable {H : Heap} {l m : List HP} {g : PH} {o : Int} {sr b tp : Nat}
theorem zip_down (f : Fr) (k : List Fr) (t : Tr) : Ent (tr g o sr (par sr k) (f.fill t) :: cx g o sr f.it.r ((f.fill t).mx o) k :: l) (tr g o sr f.it.r t :: cx g o sr (t.ref sr) (t.mx o) (f :: k) :: l) := by
  obtain ⟨fi, fc, fl, fs⟩ := f
  cases fl
  · refine Ent.starL (Ent.trans ?_ (Ent.cons (Ent.star .refl)))
    dsimp only [List.cons_append, List.nil_append]
    iterate 4 (apply Ent.pick; (focus (repeat (first | exact Sel.here | apply Sel.there))))
    exact Ent.refl
  · refine Ent.starL (Ent.trans ?_ (Ent.cons (Ent.star .refl)))
    dsimp only [List.cons_append, List.nil_append]
    iterate 4 (apply Ent.pick; (focus (repeat (first | exact Sel.here | apply Sel.there))))
    exact Ent.refl
theorem zip_up (f : Fr) (k : List Fr) (t : Tr) : Ent (tr g o sr f.it.r t :: cx g o sr (t.ref sr) (t.mx o) (f :: k) :: l) (tr g o sr (par sr k) (f.fill t) :: cx g o sr f.it.r ((f.fill t).mx o) k :: l) := by
  obtain ⟨fi, fc, fl, fs⟩ := f
  cases fl
  · refine Ent.trans (Ent.bring (c := cx g o sr (t.ref sr) (t.mx o) (⟨fi, fc, false, fs⟩ :: k)) (by (repeat (first | exact Sel.here | apply Sel.there)))) (Ent.starL (Ent.star ?_))
    dsimp only [List.cons_append, List.nil_append]
    iterate 4 (apply Ent.pick; (focus (repeat (first | exact Sel.here | apply Sel.there))))
    exact Ent.refl
  · refine Ent.trans (Ent.bring (c := cx g o sr (t.ref sr) (t.mx o) (⟨fi, fc, true, fs⟩ :: k)) (by (repeat (first | exact Sel.here | apply Sel.there)))) (Ent.starL (Ent.star ?_))
    dsimp only [List.cons_append, List.nil_append]
    iterate 4 (apply Ent.pick; (focus (repeat (first | exact Sel.here | apply Sel.there))))
    exact Ent.refl
theorem unz : ∀ (k : List Fr) (t : Tr), Ent (tr g o sr (par sr k) t :: cx g o sr (t.ref sr) (t.mx o) k :: l) (tr g o sr sr (plug k t) :: l)
  | [], t => Ent.cons (Ent.starL .refl)
  | f :: k, t => by
    refine Ent.trans (zip_up f k t) ?_
    have := unz k (f.fill t)
    rw [ref_fill] at this
    exact this
/-! Colours. -/
theorem col_sr {Q : List PanicEntry → Heap → Prop} {K : Value → Heap → Prop} (S : Sat H l) (k : ∀ H1, Sat H1 l → K (.int .i64 0) H1) : callD Try.prog 152 [pA sr, pA sr] H Q K := by
  refine gives_i (v := .int .i64 0) S ?_ (fun H1 _ S1 => k H1 S1)
  refine F152.calls ?_
  unfold F152.go
  refine pq_same ?_
  exact ⟨rfl, ExtH.refl H⟩
theorem col_at {cs : List Value} {T : TypeId} {n : Int} {Q : List PanicEntry → Heap → Prop} {K : Value → Heap → Prop} (S : Sat H l) [A : At b (.cells ⟨cs⟩ T) l] [A2 : At sr senO l] (hn : cs[7]? = some (.int .i64 n)) (hb : b ≠ sr) (k : ∀ H1, Sat H1 l → K (.int .i64 n) H1) : callD Try.prog 152 [pA b, pA sr] H Q K := by
  refine gives_i (v := .int .i64 n) S ?_ (fun H1 _ S1 => k H1 S1)
  refine F152.calls ?_
  unfold F152.go
  refine pq_ne hb (A.get S) (A2.get S) ?_
  refine iteB_f rfl ?_
  refine nilD_i ?_
  refine ⟨n, hcell_of (A.get S) hn, ?_⟩
  exact ⟨rfl, ExtH.refl H⟩
theorem exit_ok {ai : It} {ac : Bool} {al ar : Tr} {k : List Fr} {n : Int} {R : Ending → Heap → Prop} (hk : redP k = false)
    (S : Sat H (tr g o sr (par sr k) (.node ai ac al ar) :: cx g o sr ai.r (Tr.mx o (.node ai ac al ar)) k :: pt tp (treO (rootR k ai.r) n sr) :: pt sr senO :: has g :: l))
    (fin : ∀ H1, Sat H1 (tr g o sr sr ((plug k (.node ai ac al ar)).setC false) :: pt tp (treO ((plug k (.node ai ac al ar)).ref sr) n sr) :: pt sr senO :: has g :: l) → R (.returned (.tuple ⟨[]⟩)) H1) :
    F156.L0 (some (aA tp)) (some (aA ai.r)) H R := by
  -- the end: the root turns black
  have last : ∀ H, Sat H (tr g o sr (par sr k) (.node ai ac al ar) :: cx g o sr ai.r (Tr.mx o (.node ai ac al ar)) k :: pt tp (treO (rootR k ai.r) n sr) :: pt sr senO :: has g :: l) →
      nilD (some (aA tp)) fun a36 => ldPtr H a36 fun p30 => nilD p30 fun a37 => st1 H (Addr.add a37 7) (.int .i64 (0 : Int)) fun H12 => R (.returned (.tuple ⟨[]⟩)) H12 := by
    intro H S
    have S1 := S.to (unz k (.node ai ac al ar))
    rw [show rootR k ai.r = (plug k (.node ai ac al ar)).ref sr from (ref_plug (sr := sr) k (.node ai ac al ar)).symm] at S1
    clear S
    generalize hT : plug k (.node ai ac al ar) = T at S1 fin
    cases T with
    | nil =>
      exfalso
      have := congrArg Tr.inL hT
      rw [inL_plug] at this
      simp [Tr.inL] at this
    | node wi wc wl wr =>
      dsimp only [Tr.ref] at S1
      obtain ⟨wm, ow, nw, hw, S2⟩ := tr_open S1
      clear S1
      (repeat (first | (refine Step.go ?_; intros) | refine iteB_t (by decide) ?_ | refine iteB_f (by decide) ?_ | (refine Duo.mk (by first | omega | exact rfl | decide) ?_; intros) | (refine Duo.mk (Clo.mk (by kernel_rfl)) ?_; intros)))
      rename_i H2 S3
      refine fin H2 (S3.to (Ent.trans ?_ (tr_close ow nw hw)))
      iterate 5 (apply Ent.pick; (focus (repeat (first | exact Sel.here | apply Sel.there))))
      exact Ent.refl
  refine F156.L0_step ?_
  unfold F156.L0n
  obtain ⟨am, oa, na, ha, S1⟩ := tr_open S
  clear S
  have back : ∀ H, Sat H (pt ai.r (ndO ai am (al.ref sr) (ar.ref sr) (par sr k) ac) :: tr g o sr ai.r al :: tr g o sr ai.r ar :: cx g o sr ai.r (Tr.mx o (.node ai ac al ar)) k :: pt tp (treO (rootR k ai.r) n sr) :: pt sr senO :: has g :: l) →
      Sat H (tr g o sr (par sr k) (.node ai ac al ar) :: cx g o sr ai.r (Tr.mx o (.node ai ac al ar)) k :: pt tp (treO (rootR k ai.r) n sr) :: pt sr senO :: has g :: l) := fun H S => S.to (tr_close oa na ha)
  (repeat (first | (refine Step.go ?_; intros) | refine iteB_t (by decide) ?_ | refine iteB_f (by decide) ?_ | (refine Duo.mk (by first | omega | exact rfl | decide) ?_; intros) | (refine Duo.mk (Clo.mk (by kernel_rfl)) ?_; intros)))
  cases k with
  | nil =>
    refine col_sr S1 fun H1 S2 => ?_
    refine Step.go ?_
    refine iteB_f (by decide) ?_
    exact last H1 (back H1 S2)
  | cons f k =>
    obtain ⟨fi, fc, fl, fs⟩ := f
    obtain rfl : fc = false := hk
    have S2 := (S1.bring (c := cx g o sr ai.r (Tr.mx o (.node ai ac al ar)) (⟨fi, false, fl, fs⟩ :: k)) (by (repeat (first | exact Sel.here | apply Sel.there)))).star
    obtain ⟨fm, of, nf, hf, S3⟩ := nd_open S2
    clear S2 S1
    have S3 : Sat H (pt fi.r (ndO fi fm (if fl then ai.r else fs.ref sr) (if fl then fs.ref sr else ai.r) (par sr k) false) :: tr g o sr fi.r fs :: cx g o sr fi.r (some (Fr.mx o ⟨fi, false, fl, fs⟩ (Tr.mx o (.node ai ac al ar)))) k :: pt ai.r (ndO ai am (al.ref sr) (ar.ref sr) fi.r ac) :: tr g o sr ai.r al :: tr g o sr ai.r ar :: pt tp (treO (rootR k fi.r) n sr) :: pt sr senO :: has g :: l) := S3
    refine col_at (b := fi.r) (n := 0) S3 rfl nf fun H1 S4 => ?_
    refine Step.go ?_
    refine iteB_f (by decide) ?_
    refine last H1 (back H1 ?_)
    have S5 : Sat H1 (cx g o sr ai.r (Tr.mx o (.node ai ac al ar)) (⟨fi, false, fl, fs⟩ :: k) :: pt ai.r (ndO ai am (al.ref sr) (ar.ref sr) fi.r ac) :: tr g o sr ai.r al :: tr g o sr ai.r ar :: pt tp (treO (rootR k fi.r) n sr) :: pt sr senO :: has g :: l) := S4.to (Ent.star (nd_close of nf hf))
    refine S5.to ?_
    iterate 7 (apply Ent.pick; (focus (repeat (first | exact Sel.here | apply Sel.there))))
    exact Ent.refl
end
end Go.Proofs.Ytobolifgehagfaa

set_option linter.unusedVariables false
set_option linter.unusedSimpArgs false
set_option linter.unnecessarySimpa false
namespace Go.Proofs.Ytobolifgehagfaa
open Go Go.Den Go.Proofs
section
variable {H : Heap} {l m : List HP} {g : PH} {o : Int} {sr b tp : Nat}
theorem l2_ok {ai Pi gi : It} {ac pc gc : Bool} {al ar B gs : Tr} {k : List Fr} {n : Int} {R : Ending → Heap → Prop}
    (S : Sat H (tr g o sr gi.r (.node Pi pc (.node ai ac al ar) B) :: cx g o sr Pi.r (Tr.mx o (.node Pi pc (.node ai ac al ar) B)) (⟨gi, gc, true, gs⟩ :: k) :: pt tp (treO (rootR k gi.r) n sr) :: pt sr senO :: has g :: l))
    (fin : ∀ H1, Sat H1 (tr g o sr sr ((plug k (.node Pi false (.node ai ac al ar) (.node gi true B gs))).setC false) :: pt tp (treO ((plug k (.node Pi false (.node ai ac al ar) (.node gi true B gs))).ref sr) n sr) :: pt sr senO :: has g :: l) → R (.returned (.tuple ⟨[]⟩)) H1) :
    F156.L2 (some (aA tp)) (some (aA ai.r)) H R := by
  have S1 : Sat H (tr g o sr (par sr k) (.node gi gc (.node Pi pc (.node ai ac al ar) B) gs) :: cx g o sr gi.r (Tr.mx o (.node gi gc (.node Pi pc (.node ai ac al ar) B) gs)) k :: pt tp (treO (rootR k gi.r) n sr) :: pt sr senO :: has g :: l) := S.to (zip_up ⟨gi, gc, true, gs⟩ k (.node Pi pc (.node ai ac al ar) B))
  obtain ⟨gm, og, ng, hg, S2⟩ := tr_open S1
  obtain ⟨Pm, oP, nP, hP, S3⟩ := tr_open (S2.bring (c := tr g o sr gi.r (.node Pi pc (.node ai ac al ar) B)) (by (repeat (first | exact Sel.here | apply Sel.there))))
  obtain ⟨am, oa, na, ha, S4⟩ := tr_open (S3.bring (c := tr g o sr Pi.r (.node ai ac al ar)) (by (repeat (first | exact Sel.here | apply Sel.there))))
  clear S S1 S2 S3
  have T1 : Sat H (pt ai.r (ndO ai am (al.ref sr) (ar.ref sr) Pi.r ac) :: tr g o sr ai.r al :: tr g o sr ai.r ar :: pt Pi.r (ndO Pi Pm ai.r (B.ref sr) gi.r pc) :: tr g o sr Pi.r B :: pt gi.r (ndO gi gm Pi.r (gs.ref sr) (par sr k) gc) :: tr g o sr gi.r gs :: cx g o sr gi.r (Tr.mx o (.node gi gc (.node Pi pc (.node ai ac al ar) B) gs)) k :: pt tp (treO (rootR k gi.r) n sr) :: pt sr senO :: has g :: l) := by
    refine S4.to ?_
    iterate 11 (apply Ent.pick; (focus (repeat (first | exact Sel.here | apply Sel.there))))
    exact Ent.refl
  clear S4
  refine F156.L2_step ?_
  unfold F156.L2n
  (repeat (first | (refine Step.go ?_; intros) | refine iteB_t (by decide) ?_ | refine iteB_f (by decide) ?_ | (refine Duo.mk (by first | omega | exact rfl | decide) ?_; intros) | (refine Duo.mk (Clo.mk (by kernel_rfl)) ?_; intros)))
  rename_i H1 S5
  have T2 : Sat H1 (tr g o sr (par sr k) (.node gi true (.node Pi false (.node ai ac al ar) B) gs) :: cx g o sr gi.r (Tr.mx o (.node gi true (.node Pi false (.node ai ac al ar) B) gs)) k :: pt tp (treO (rootR k gi.r) n sr) :: pt sr senO :: has g :: l) := by
    have U1 : Sat H1 (tr g o sr Pi.r (.node ai ac al ar) :: pt Pi.r (ndO Pi Pm ai.r (B.ref sr) gi.r false) :: tr g o sr Pi.r B :: pt gi.r (ndO gi gm Pi.r (gs.ref sr) (par sr k) true) :: tr g o sr gi.r gs :: cx g o sr gi.r (Tr.mx o (.node gi gc (.node Pi pc (.node ai ac al ar) B) gs)) k :: pt tp (treO (rootR k gi.r) n sr) :: pt sr senO :: has g :: l) := by
      refine S5.to (Ent.trans ?_ (tr_close oa na ha))
      iterate 11 (apply Ent.pick; (focus (repeat (first | exact Sel.here | apply Sel.there))))
      exact Ent.refl
    have U2 : Sat H1 (tr g o sr gi.r (.node Pi false (.node ai ac al ar) B) :: pt gi.r (ndO gi gm Pi.r (gs.ref sr) (par sr k) true) :: tr g o sr gi.r gs :: cx g o sr gi.r (Tr.mx o (.node gi gc (.node Pi pc (.node ai ac al ar) B) gs)) k :: pt tp (treO (rootR k gi.r) n sr) :: pt sr senO :: has g :: l) := by
      refine U1.to (Ent.trans ?_ (tr_close oP nP hP))
      iterate 8 (apply Ent.pick; (focus (repeat (first | exact Sel.here | apply Sel.there))))
      exact Ent.refl
    refine U2.to (Ent.trans ?_ (tr_close og ng hg))
    iterate 7 (apply Ent.pick; (focus (repeat (first | exact Sel.here | apply Sel.there))))
    exact Ent.refl
  clear S5 T1
  refine call_of (rotR_ok T2) ?_
  rintro _ H2 ⟨rfl, S6⟩
  (repeat (first | (refine Step.go ?_; intros) | refine iteB_t (by decide) ?_ | refine iteB_f (by decide) ?_ | (refine Duo.mk (by first | omega | exact rfl | decide) ?_; intros) | (refine Duo.mk (Clo.mk (by kernel_rfl)) ?_; intros)))
  exact exit_ok (k := ⟨Pi, false, true, (.node gi true B gs)⟩ :: k) rfl (S6.to (zip_down ⟨Pi, false, true, (.node gi true B gs)⟩ k (.node ai ac al ar))) fin
theorem l1_ok {ai Pi gi : It} {ac pc gc : Bool} {al ar B gs : Tr} {k : List Fr} {n : Int} {R : Ending → Heap → Prop}
    (S : Sat H (tr g o sr gi.r (.node Pi pc B (.node ai ac al ar)) :: cx g o sr Pi.r (Tr.mx o (.node Pi pc B (.node ai ac al ar))) (⟨gi, gc, false, gs⟩ :: k) :: pt tp (treO (rootR k gi.r) n sr) :: pt sr senO :: has g :: l))
    (fin : ∀ H1, Sat H1 (tr g o sr sr ((plug k (.node Pi false (.node gi true gs B) (.node ai ac al ar))).setC false) :: pt tp (treO ((plug k (.node Pi false (.node gi true gs B) (.node ai ac al ar))).ref sr) n sr) :: pt sr senO :: has g :: l) → R (.returned (.tuple ⟨[]⟩)) H1) :
    F156.L1 (some (aA tp)) (some (aA ai.r)) H R := by
  have S1 : Sat H (tr g o sr (par sr k) (.node gi gc gs (.node Pi pc B (.node ai ac al ar))) :: cx g o sr gi.r (Tr.mx o (.node gi gc gs (.node Pi pc B (.node ai ac al ar)))) k :: pt tp (treO (rootR k gi.r) n sr) :: pt sr senO :: has g :: l) := S.to (zip_up ⟨gi, gc, false, gs⟩ k (.node Pi pc B (.node ai ac al ar)))
  obtain ⟨gm, og, ng, hg, S2⟩ := tr_open S1
  obtain ⟨Pm, oP, nP, hP, S3⟩ := tr_open (S2.bring (c := tr g o sr gi.r (.node Pi pc B (.node ai ac al ar))) (by (repeat (first | exact Sel.here | apply Sel.there))))
  obtain ⟨am, oa, na, ha, S4⟩ := tr_open (S3.bring (c := tr g o sr Pi.r (.node ai ac al ar)) (by (repeat (first | exact Sel.here | apply Sel.there))))
  clear S S1 S2 S3
  have T1 : Sat H (pt ai.r (ndO ai am (al.ref sr) (ar.ref sr) Pi.r ac) :: tr g o sr ai.r al :: tr g o sr ai.r ar :: pt Pi.r (ndO Pi Pm (B.ref sr) ai.r gi.r pc) :: tr g o sr Pi.r B :: pt gi.r (ndO gi gm (gs.ref sr) Pi.r (par sr k) gc) :: tr g o sr gi.r gs :: cx g o sr gi.r (Tr.mx o (.node gi gc gs (.node Pi pc B (.node ai ac al ar)))) k :: pt tp (treO (rootR k gi.r) n sr) :: pt sr senO :: has g :: l) := by
    refine S4.to ?_
    iterate 11 (apply Ent.pick; (focus (repeat (first | exact Sel.here | apply Sel.there))))
    exact Ent.refl
  clear S4
  refine F156.L1_step ?_
  unfold F156.L1n
  (repeat (first | (refine Step.go ?_; intros) | refine iteB_t (by decide) ?_ | refine iteB_f (by decide) ?_ | (refine Duo.mk (by first | omega | exact rfl | decide) ?_; intros) | (refine Duo.mk (Clo.mk (by kernel_rfl)) ?_; intros)))
  rename_i H1 S5
  have T2 : Sat H1 (tr g o sr (par sr k) (.node gi true gs (.node Pi false B (.node ai ac al ar))) :: cx g o sr gi.r (Tr.mx o (.node gi true gs (.node Pi false B (.node ai ac al ar)))) k :: pt tp (treO (rootR k gi.r) n sr) :: pt sr senO :: has g :: l) := by
    have U1 : Sat H1 (tr g o sr Pi.r (.node ai ac al ar) :: pt Pi.r (ndO Pi Pm (B.ref sr) ai.r gi.r false) :: tr g o sr Pi.r B :: pt gi.r (ndO gi gm (gs.ref sr) Pi.r (par sr k) true) :: tr g o sr gi.r gs :: cx g o sr gi.r (Tr.mx o (.node gi gc gs (.node Pi pc B (.node ai ac al ar)))) k :: pt tp (treO (rootR k gi.r) n sr) :: pt sr senO :: has g :: l) := by
      refine S5.to (Ent.trans ?_ (tr_close oa na ha))
      iterate 11 (apply Ent.pick; (focus (repeat (first | exact Sel.here | apply Sel.there))))
      exact Ent.refl
    have U2 : Sat H1 (tr g o sr gi.r (.node Pi false B (.node ai ac al ar)) :: pt gi.r (ndO gi gm (gs.ref sr) Pi.r (par sr k) true) :: tr g o sr gi.r gs :: cx g o sr gi.r (Tr.mx o (.node gi gc gs (.node Pi pc B (.node ai ac al ar)))) k :: pt tp (treO (rootR k gi.r) n sr) :: pt sr senO :: has g :: l) := by
      refine U1.to (Ent.trans ?_ (tr_close oP nP hP))
      iterate 8 (apply Ent.pick; (focus (repeat (first | exact Sel.here | apply Sel.there))))
      exact Ent.refl
    refine U2.to (Ent.trans ?_ (tr_close og ng hg))
    iterate 7 (apply Ent.pick; (focus (repeat (first | exact Sel.here | apply Sel.there))))
    exact Ent.refl
  clear S5 T1
  refine call_of (rotL_ok T2) ?_
  rintro _ H2 ⟨rfl, S6⟩
  (repeat (first | (refine Step.go ?_; intros) | refine iteB_t (by decide) ?_ | refine iteB_f (by decide) ?_ | (refine Duo.mk (by first | omega | exact rfl | decide) ?_; intros) | (refine Duo.mk (Clo.mk (by kernel_rfl)) ?_; intros)))
  exact exit_ok (k := ⟨Pi, false, false, (.node gi true gs B)⟩ :: k) rfl (S6.to (zip_down ⟨Pi, false, false, (.node gi true gs B)⟩ k (.node ai ac al ar))) fin
theorem colT {t : Tr} {p : Nat} {r : List HP} {Q : List PanicEntry → Heap → Prop} {K : Value → Heap → Prop} (S : Sat H l) (s : Sel (tr g o sr p t) l r) [A2 : At sr senO l] (k : ∀ H1, Sat H1 l → K (.int .i64 (colI t.red)) H1) : callD Try.prog 152 [pA (t.ref sr), pA sr] H Q K := by
  cases t with
  | nil => exact col_sr S k
  | node it c u v =>
    obtain ⟨m, h1, h2, h3, S2⟩ := tr_open (S.bring s)
    refine gives_i (v := .int .i64 (colI c)) S ?_ (fun H1 _ S1 => k H1 S1)
    refine F152.calls ?_
    unfold F152.go
    refine pq_ne h2 (S2.at_ (r := it.r) (o := ndO it m (u.ref sr) (v.ref sr) p c) (by simp)) (A2.get S) ?_
    refine iteB_f rfl ?_
    refine nilD_i ?_
    refine ⟨colI c, hcell_of (S2.at_ (r := it.r) (o := ndO it m (u.ref sr) (v.ref sr) p c) (by simp)) rfl, ?_⟩
    exact ⟨rfl, ExtH.refl H⟩
theorem pq_refS {ca : List Value} {T : TypeId} {p : Nat} {t : Tr} {r1 r2 r3 : List HP} {K : Bool → Prop} (S : Sat H l) (s1 : Sel (pt b (.cells ⟨ca⟩ T)) l r1) (s2 : Sel (tr g o sr p t) r1 r2) (s3 : Sel (pt sr senO) r2 r3) (hb : b ≠ sr) (k : K false) : pqD H (some (aA b)) (some (aA (t.ref sr))) K :=
  pq_ref (l := []) (S.to (Ent.pick s1 (Ent.pick s2 (Ent.pick s3 Ent.nil)))) hb k
theorem step_Lo {zi fi gi : It} {gc : Bool} {zl zr fs gs : Tr} {k : List Fr} {n : Int} {R : Ending → Heap → Prop}
    (S : Sat H (tr g o sr fi.r (.node zi true zl zr) :: cx g o sr zi.r (Tr.mx o (.node zi true zl zr)) (⟨fi, true, true, fs⟩ :: ⟨gi, gc, true, gs⟩ :: k) :: pt tp (treO (rootR k gi.r) n sr) :: pt sr senO :: has g :: l))
    (rec : ∀ ui ul ur H1, gs = (.node ui true ul ur) → Sat H1 (tr g o sr (par sr k) (.node gi true (.node fi false (.node zi true zl zr) fs) (.node ui false ul ur)) :: cx g o sr gi.r (Tr.mx o (.node gi true (.node fi false (.node zi true zl zr) fs) (.node ui false ul ur))) k :: pt tp (treO (rootR k gi.r) n sr) :: pt sr senO :: has g :: l) → F156.L0 (some (aA tp)) (some (aA gi.r)) H1 R)
    (fin : ∀ H1, gs.red = false → Sat H1 (tr g o sr sr ((plug k (turnI ⟨gi, gc, true, gs⟩ ⟨fi, true, true, fs⟩ (.node zi true zl zr))).setC false) :: pt tp (treO ((plug k (turnI ⟨gi, gc, true, gs⟩ ⟨fi, true, true, fs⟩ (.node zi true zl zr))).ref sr) n sr) :: pt sr senO :: has g :: l) → R (.returned (.tuple ⟨[]⟩)) H1) :
    F156.L0 (some (aA tp)) (some (aA zi.r)) H R := by
  have S1 : Sat H (tr g o sr (par sr k) (.node gi gc (.node fi true (.node zi true zl zr) fs) gs) :: cx g o sr gi.r (Tr.mx o (.node gi gc (.node fi true (.node zi true zl zr) fs) gs)) k :: pt tp (treO (rootR k gi.r) n sr) :: pt sr senO :: has g :: l) := (S.to (zip_up ⟨fi, true, true, fs⟩ (⟨gi, gc, true, gs⟩ :: k) (.node zi true zl zr))).to (zip_up ⟨gi, gc, true, gs⟩ k (.node fi true (.node zi true zl zr) fs))
  obtain ⟨gm, og, ng, hg, S2⟩ := tr_open S1
  obtain ⟨fm, of, nf, hf, S3⟩ := tr_open (S2.bring (c := tr g o sr gi.r (.node fi true (.node zi true zl zr) fs)) (by (repeat (first | exact Sel.here | apply Sel.there))))
  obtain ⟨zm, oz, nz, hz, S4⟩ := tr_open (S3.bring (c := tr g o sr fi.r (.node zi true zl zr)) (by (repeat (first | exact Sel.here | apply Sel.there))))
  clear S S1 S2 S3
  have T1 : Sat H (pt zi.r (ndO zi zm (zl.ref sr) (zr.ref sr) fi.r true) :: tr g o sr zi.r zl :: tr g o sr zi.r zr :: pt fi.r (ndO fi fm zi.r (fs.ref sr) gi.r true) :: tr g o sr fi.r fs :: pt gi.r (ndO gi gm fi.r (gs.ref sr) (par sr k) gc) :: tr g o sr gi.r gs :: cx g o sr gi.r (Tr.mx o (.node gi gc (.node fi true (.node zi true zl zr) fs) gs)) k :: pt tp (treO (rootR k gi.r) n sr) :: pt sr senO :: has g :: l) := by
    refine S4.to ?_
    iterate 11 (apply Ent.pick; (focus (repeat (first | exact Sel.here | apply Sel.there))))
    exact Ent.refl
  clear S4
  have zipped : ∀ H, Sat H (pt zi.r (ndO zi zm (zl.ref sr) (zr.ref sr) fi.r true) :: tr g o sr zi.r zl :: tr g o sr zi.r zr :: pt fi.r (ndO fi fm zi.r (fs.ref sr) gi.r true) :: tr g o sr fi.r fs :: pt gi.r (ndO gi gm fi.r (gs.ref sr) (par sr k) gc) :: tr g o sr gi.r gs :: cx g o sr gi.r (Tr.mx o (.node gi gc (.node fi true (.node zi true zl zr) fs) gs)) k :: pt tp (treO (rootR k gi.r) n sr) :: pt sr senO :: has g :: l) → Sat H (tr g o sr gi.r (.node fi true (.node zi true zl zr) fs) :: cx g o sr fi.r (Tr.mx o (.node fi true (.node zi true zl zr) fs)) (⟨gi, gc, true, gs⟩ :: k) :: pt tp (treO (rootR k gi.r) n sr) :: pt sr senO :: has g :: l) := by
    intro H S
    have U1 : Sat H (tr g o sr fi.r (.node zi true zl zr) :: pt fi.r (ndO fi fm zi.r (fs.ref sr) gi.r true) :: tr g o sr fi.r fs :: pt gi.r (ndO gi gm fi.r (gs.ref sr) (par sr k) gc) :: tr g o sr gi.r gs :: cx g o sr gi.r (Tr.mx o (.node gi gc (.node fi true (.node zi true zl zr) fs) gs)) k :: pt tp (treO (rootR k gi.r) n sr) :: pt sr senO :: has g :: l) := S.to (tr_close oz nz hz)
    have U2 : Sat H (tr g o sr gi.r (.node fi true (.node zi true zl zr) fs) :: pt gi.r (ndO gi gm fi.r (gs.ref sr) (par sr k) gc) :: tr g o sr gi.r gs :: cx g o sr gi.r (Tr.mx o (.node gi gc (.node fi true (.node zi true zl zr) fs) gs)) k :: pt tp (treO (rootR k gi.r) n sr) :: pt sr senO :: has g :: l) := by
      refine U1.to (Ent.trans ?_ (tr_close of nf hf))
      iterate 8 (apply Ent.pick; (focus (repeat (first | exact Sel.here | apply Sel.there))))
      exact Ent.refl
    have U3 : Sat H (tr g o sr (par sr k) (.node gi gc (.node fi true (.node zi true zl zr) fs) gs) :: cx g o sr gi.r (Tr.mx o (.node gi gc (.node fi true (.node zi true zl zr) fs) gs)) k :: pt tp (treO (rootR k gi.r) n sr) :: pt sr senO :: has g :: l) := by
      refine U2.to (Ent.trans ?_ (tr_close og ng hg))
      iterate 7 (apply Ent.pick; (focus (repeat (first | exact Sel.here | apply Sel.there))))
      exact Ent.refl
    exact U3.to (zip_down ⟨gi, gc, true, gs⟩ k (.node fi true (.node zi true zl zr) fs))
  refine F156.L0_step ?_
  unfold F156.L0n
  (repeat (first | (refine Step.go ?_; intros) | refine iteB_t (by decide) ?_ | refine iteB_f (by decide) ?_ | (refine Duo.mk (by first | omega | exact rfl | decide) ?_; intros) | (refine Duo.mk (Clo.mk (by kernel_rfl)) ?_; intros)))
  refine col_at (b := fi.r) (n := 1) T1 rfl nf fun H1 T2 => ?_
  refine Step.go ?_
  refine iteB_t rfl ?_
  (repeat (first | (refine Step.go ?_; intros) | refine iteB_t (by decide) ?_ | refine iteB_f (by decide) ?_ | (refine Duo.mk (by first | omega | exact rfl | decide) ?_; intros) | (refine Duo.mk (Clo.mk (by kernel_rfl)) ?_; intros)))
  refine pq_same ?_
  (repeat (first | (refine Step.go ?_; intros) | refine iteB_t (by decide) ?_ | refine iteB_f (by decide) ?_ | (refine Duo.mk (by first | omega | exact rfl | decide) ?_; intros) | (refine Duo.mk (Clo.mk (by kernel_rfl)) ?_; intros)))
  refine colT (t := gs) (p := gi.r) T2 (by (repeat (first | exact Sel.here | apply Sel.there))) fun H2 T3 => ?_
  refine Step.go ?_
  cases gs with
  | nil =>
    have hu : Tr.red .nil = false := rfl
    refine iteB_f rfl ?_
    (repeat (first | (refine Step.go ?_; intros) | refine iteB_t (by decide) ?_ | refine iteB_f (by decide) ?_ | (refine Duo.mk (by first | omega | exact rfl | decide) ?_; intros) | (refine Duo.mk (Clo.mk (by kernel_rfl)) ?_; intros)))
    refine pq_refS (t := fs) (p := fi.r) T3 (by (repeat (first | exact Sel.here | apply Sel.there))) (by (repeat (first | exact Sel.here | apply Sel.there))) (by (repeat (first | exact Sel.here | apply Sel.there))) nz ?_
    (repeat (first | (refine Step.go ?_; intros) | refine iteB_t (by decide) ?_ | refine iteB_f (by decide) ?_ | (refine Duo.mk (by first | omega | exact rfl | decide) ?_; intros) | (refine Duo.mk (Clo.mk (by kernel_rfl)) ?_; intros)))
    exact l2_ok (ai := zi) (ac := true) (al := zl) (ar := zr) (Pi := fi) (pc := true) (B := fs) (gi := gi) (gc := gc) (gs := .nil) (k := k) (n := n) (zipped _ T3) (fun H3 S9 => fin H3 hu (by exact S9))
  | node ui uc ul ur =>
    cases uc with
    | false =>
      have hu : Tr.red (.node ui false ul ur) = false := rfl
      refine iteB_f rfl ?_
      (repeat (first | (refine Step.go ?_; intros) | refine iteB_t (by decide) ?_ | refine iteB_f (by decide) ?_ | (refine Duo.mk (by first | omega | exact rfl | decide) ?_; intros) | (refine Duo.mk (Clo.mk (by kernel_rfl)) ?_; intros)))
      refine pq_refS (t := fs) (p := fi.r) T3 (by (repeat (first | exact Sel.here | apply Sel.there))) (by (repeat (first | exact Sel.here | apply Sel.there))) (by (repeat (first | exact Sel.here | apply Sel.there))) nz ?_
      (repeat (first | (refine Step.go ?_; intros) | refine iteB_t (by decide) ?_ | refine iteB_f (by decide) ?_ | (refine Duo.mk (by first | omega | exact rfl | decide) ?_; intros) | (refine Duo.mk (Clo.mk (by kernel_rfl)) ?_; intros)))
      exact l2_ok (ai := zi) (ac := true) (al := zl) (ar := zr) (Pi := fi) (pc := true) (B := fs) (gi := gi) (gc := gc) (gs := .node ui false ul ur) (k := k) (n := n) (zipped _ T3) (fun H3 S9 => fin H3 hu (by exact S9))
    | true =>
      refine iteB_t rfl ?_
      obtain ⟨um, ou, nu, hu, T4⟩ := tr_open (T3.bring (c := tr g o sr gi.r (.node ui true ul ur)) (by (repeat (first | exact Sel.here | apply Sel.there))))
      dsimp only [Tr.ref] at T4 ⊢
      clear T1 T2 T3
      (repeat (first | (refine Step.go ?_; intros) | refine iteB_t (by decide) ?_ | refine iteB_f (by decide) ?_ | (refine Duo.mk (by first | omega | exact rfl | decide) ?_; intros) | (refine Duo.mk (Clo.mk (by kernel_rfl)) ?_; intros)))
      rename_i H3 T5
      refine rec ui ul ur H3 rfl ?_
      have U0 : Sat H3 (tr g o sr fi.r (.node zi true zl zr) :: pt fi.r (ndO fi fm zi.r (fs.ref sr) gi.r false) :: tr g o sr fi.r fs :: pt gi.r (ndO gi gm fi.r ui.r (par sr k) true) :: pt ui.r (ndO ui um (ul.ref sr) (ur.ref sr) gi.r false) :: tr g o sr ui.r ul :: tr g o sr ui.r ur :: cx g o sr gi.r (Tr.mx o (.node gi gc (.node fi true (.node zi true zl zr) fs) (.node ui true ul ur))) k :: pt tp (treO (rootR k gi.r) n sr) :: pt sr senO :: has g :: l) := by
        refine T5.to (Ent.trans ?_ (tr_close oz nz hz))
        iterate 13 (apply Ent.pick; (focus (repeat (first | exact Sel.here | apply Sel.there))))
        exact Ent.refl
      have U1 : Sat H3 (tr g o sr gi.r (.node fi false (.node zi true zl zr) fs) :: pt gi.r (ndO gi gm fi.r ui.r (par sr k) true) :: pt ui.r (ndO ui um (ul.ref sr) (ur.ref sr) gi.r false) :: tr g o sr ui.r ul :: tr g o sr ui.r ur :: cx g o sr gi.r (Tr.mx o (.node gi gc (.node fi true (.node zi true zl zr) fs) (.node ui true ul ur))) k :: pt tp (treO (rootR k gi.r) n sr) :: pt sr senO :: has g :: l) := by
        refine U0.to (Ent.trans ?_ (tr_close of nf hf))
        iterate 10 (apply Ent.pick; (focus (repeat (first | exact Sel.here | apply Sel.there))))
        exact Ent.refl
      have U2 : Sat H3 (tr g o sr gi.r (.node ui false ul ur) :: tr g o sr gi.r (.node fi false (.node zi true zl zr) fs) :: pt gi.r (ndO gi gm fi.r ui.r (par sr k) true) :: cx g o sr gi.r (Tr.mx o (.node gi gc (.node fi true (.node zi true zl zr) fs) (.node ui true ul ur))) k :: pt tp (treO (rootR k gi.r) n sr) :: pt sr senO :: has g :: l) := by
        refine U1.to (Ent.trans ?_ (tr_close ou nu hu))
        iterate 8 (apply Ent.pick; (focus (repeat (first | exact Sel.here | apply Sel.there))))
        exact Ent.refl
      refine U2.to (Ent.trans ?_ (tr_close og ng hg))
      iterate 7 (apply Ent.pick; (focus (repeat (first | exact Sel.here | apply Sel.there))))
      exact Ent.refl
theorem step_Li {zi fi gi : It} {gc : Bool} {zl zr fs gs : Tr} {k : List Fr} {n : Int} {R : Ending → Heap → Prop}
    (S : Sat H (tr g o sr fi.r (.node zi true zl zr) :: cx g o sr zi.r (Tr.mx o (.node zi true zl zr)) (⟨fi, true, false, fs⟩ :: ⟨gi, gc, true, gs⟩ :: k) :: pt tp (treO (rootR k gi.r) n sr) :: pt sr senO :: has g :: l))
    (rec : ∀ ui ul ur H1, gs = (.node ui true ul ur) → Sat H1 (tr g o sr (par sr k) (.node gi true (.node fi false fs (.node zi true zl zr)) (.node ui false ul ur)) :: cx g o sr gi.r (Tr.mx o (.node gi true (.node fi false fs (.node zi true zl zr)) (.node ui false ul ur))) k :: pt tp (treO (rootR k gi.r) n sr) :: pt sr senO :: has g :: l) → F156.L0 (some (aA tp)) (some (aA gi.r)) H1 R)
    (fin : ∀ H1, gs.red = false → Sat H1 (tr g o sr sr ((plug k (turnI ⟨gi, gc, true, gs⟩ ⟨fi, true, false, fs⟩ (.node zi true zl zr))).setC false) :: pt tp (treO ((plug k (turnI ⟨gi, gc, true, gs⟩ ⟨fi, true, false, fs⟩ (.node zi true zl zr))).ref sr) n sr) :: pt sr senO :: has g :: l) → R (.returned (.tuple ⟨[]⟩)) H1) :
    F156.L0 (some (aA tp)) (some (aA zi.r)) H R := by
  have S1 : Sat H (tr g o sr (par sr k) (.node gi gc (.node fi true fs (.node zi true zl zr)) gs) :: cx g o sr gi.r (Tr.mx o (.node gi gc (.node fi true fs (.node zi true zl zr)) gs)) k :: pt tp (treO (rootR k gi.r) n sr) :: pt sr senO :: has g :: l) := (S.to (zip_up ⟨fi, true, false, fs⟩ (⟨gi, gc, true, gs⟩ :: k) (.node zi true zl zr))).to (zip_up ⟨gi, gc, true, gs⟩ k (.node fi true fs (.node zi true zl zr)))
  obtain ⟨gm, og, ng, hg, S2⟩ := tr_open S1
  obtain ⟨fm, of, nf, hf, S3⟩ := tr_open (S2.bring (c := tr g o sr gi.r (.node fi true fs (.node zi true zl zr))) (by (repeat (first | exact Sel.here | apply Sel.there))))
  obtain ⟨zm, oz, nz, hz, S4⟩ := tr_open (S3.bring (c := tr g o sr fi.r (.node zi true zl zr)) (by (repeat (first | exact Sel.here | apply Sel.there))))
  clear S S1 S2 S3
  have T1 : Sat H (pt zi.r (ndO zi zm (zl.ref sr) (zr.ref sr) fi.r true) :: tr g o sr zi.r zl :: tr g o sr zi.r zr :: pt fi.r (ndO fi fm (fs.ref sr) zi.r gi.r true) :: tr g o sr fi.r fs :: pt gi.r (ndO gi gm fi.r (gs.ref sr) (par sr k) gc) :: tr g o sr gi.r gs :: cx g o sr gi.r (Tr.mx o (.node gi gc (.node fi true fs (.node zi true zl zr)) gs)) k :: pt tp (treO (rootR k gi.r) n sr) :: pt sr senO :: has g :: l) := by
    refine S4.to ?_
    iterate 11 (apply Ent.pick; (focus (repeat (first | exact Sel.here | apply Sel.there))))
    exact Ent.refl
  clear S4
  have zipped : ∀ H, Sat H (pt zi.r (ndO zi zm (zl.ref sr) (zr.ref sr) fi.r true) :: tr g o sr zi.r zl :: tr g o sr zi.r zr :: pt fi.r (ndO fi fm (fs.ref sr) zi.r gi.r true) :: tr g o sr fi.r fs :: pt gi.r (ndO gi gm fi.r (gs.ref sr) (par sr k) gc) :: tr g o sr gi.r gs :: cx g o sr gi.r (Tr.mx o (.node gi gc (.node fi true fs (.node zi true zl zr)) gs)) k :: pt tp (treO (rootR k gi.r) n sr) :: pt sr senO :: has g :: l) → Sat H (tr g o sr gi.r (.node fi true fs (.node zi true zl zr)) :: cx g o sr fi.r (Tr.mx o (.node fi true fs (.node zi true zl zr))) (⟨gi, gc, true, gs⟩ :: k) :: pt tp (treO (rootR k gi.r) n sr) :: pt sr senO :: has g :: l) := by
    intro H S
    have U1 : Sat H (tr g o sr fi.r (.node zi true zl zr) :: pt fi.r (ndO fi fm (fs.ref sr) zi.r gi.r true) :: tr g o sr fi.r fs :: pt gi.r (ndO gi gm fi.r (gs.ref sr) (par sr k) gc) :: tr g o sr gi.r gs :: cx g o sr gi.r (Tr.mx o (.node gi gc (.node fi true fs (.node zi true zl zr)) gs)) k :: pt tp (treO (rootR k gi.r) n sr) :: pt sr senO :: has g :: l) := S.to (tr_close oz nz hz)
    have U2 : Sat H (tr g o sr gi.r (.node fi true fs (.node zi true zl zr)) :: pt gi.r (ndO gi gm fi.r (gs.ref sr) (par sr k) gc) :: tr g o sr gi.r gs :: cx g o sr gi.r (Tr.mx o (.node gi gc (.node fi true fs (.node zi true zl zr)) gs)) k :: pt tp (treO (rootR k gi.r) n sr) :: pt sr senO :: has g :: l) := by
      refine U1.to (Ent.trans ?_ (tr_close of nf hf))
      iterate 8 (apply Ent.pick; (focus (repeat (first | exact Sel.here | apply Sel.there))))
      exact Ent.refl
    have U3 : Sat H (tr g o sr (par sr k) (.node gi gc (.node fi true fs (.node zi true zl zr)) gs) :: cx g o sr gi.r (Tr.mx o (.node gi gc (.node fi true fs (.node zi true zl zr)) gs)) k :: pt tp (treO (rootR k gi.r) n sr) :: pt sr senO :: has g :: l) := by
      refine U2.to (Ent.trans ?_ (tr_close og ng hg))
      iterate 7 (apply Ent.pick; (focus (repeat (first | exact Sel.here | apply Sel.there))))
      exact Ent.refl
    exact U3.to (zip_down ⟨gi, gc, true, gs⟩ k (.node fi true fs (.node zi true zl zr)))
  refine F156.L0_step ?_
  unfold F156.L0n
  (repeat (first | (refine Step.go ?_; intros) | refine iteB_t (by decide) ?_ | refine iteB_f (by decide) ?_ | (refine Duo.mk (by first | omega | exact rfl | decide) ?_; intros) | (refine Duo.mk (Clo.mk (by kernel_rfl)) ?_; intros)))
  refine col_at (b := fi.r) (n := 1) T1 rfl nf fun H1 T2 => ?_
  refine Step.go ?_
  refine iteB_t rfl ?_
  (repeat (first | (refine Step.go ?_; intros) | refine iteB_t (by decide) ?_ | refine iteB_f (by decide) ?_ | (refine Duo.mk (by first | omega | exact rfl | decide) ?_; intros) | (refine Duo.mk (Clo.mk (by kernel_rfl)) ?_; intros)))
  refine pq_same ?_
  (repeat (first | (refine Step.go ?_; intros) | refine iteB_t (by decide) ?_ | refine iteB_f (by decide) ?_ | (refine Duo.mk (by first | omega | exact rfl | decide) ?_; intros) | (refine Duo.mk (Clo.mk (by kernel_rfl)) ?_; intros)))
  refine colT (t := gs) (p := gi.r) T2 (by (repeat (first | exact Sel.here | apply Sel.there))) fun H2 T3 => ?_
  refine Step.go ?_
  cases gs with
  | nil =>
    have hu : Tr.red .nil = false := rfl
    refine iteB_f rfl ?_
    (repeat (first | (refine Step.go ?_; intros) | refine iteB_t (by decide) ?_ | refine iteB_f (by decide) ?_ | (refine Duo.mk (by first | omega | exact rfl | decide) ?_; intros) | (refine Duo.mk (Clo.mk (by kernel_rfl)) ?_; intros)))
    refine pq_same ?_
    (repeat (first | (refine Step.go ?_; intros) | refine iteB_t (by decide) ?_ | refine iteB_f (by decide) ?_ | (refine Duo.mk (by first | omega | exact rfl | decide) ?_; intros) | (refine Duo.mk (Clo.mk (by kernel_rfl)) ?_; intros)))
    refine call_of (rotL_ok (k := ⟨gi, gc, true, .nil⟩ :: k) (zipped _ T3)) ?_
    rintro _ H3 ⟨rfl, S8⟩
    (repeat (first | (refine Step.go ?_; intros) | refine iteB_t (by decide) ?_ | refine iteB_f (by decide) ?_ | (refine Duo.mk (by first | omega | exact rfl | decide) ?_; intros) | (refine Duo.mk (Clo.mk (by kernel_rfl)) ?_; intros)))
    exact l2_ok (ai := fi) (ac := true) (Pi := zi) (pc := true) (B := zr) (gi := gi) (gc := gc) (gs := .nil) (k := k) (n := n) S8 (fun H4 S9 => fin H4 hu (by exact S9))
  | node ui uc ul ur =>
    cases uc with
    | false =>
      have hu : Tr.red (.node ui false ul ur) = false := rfl
      refine iteB_f rfl ?_
      (repeat (first | (refine Step.go ?_; intros) | refine iteB_t (by decide) ?_ | refine iteB_f (by decide) ?_ | (refine Duo.mk (by first | omega | exact rfl | decide) ?_; intros) | (refine Duo.mk (Clo.mk (by kernel_rfl)) ?_; intros)))
      refine pq_same ?_
      (repeat (first | (refine Step.go ?_; intros) | refine iteB_t (by decide) ?_ | refine iteB_f (by decide) ?_ | (refine Duo.mk (by first | omega | exact rfl | decide) ?_; intros) | (refine Duo.mk (Clo.mk (by kernel_rfl)) ?_; intros)))
      refine call_of (rotL_ok (k := ⟨gi, gc, true, .node ui false ul ur⟩ :: k) (zipped _ T3)) ?_
      rintro _ H3 ⟨rfl, S8⟩
      (repeat (first | (refine Step.go ?_; intros) | refine iteB_t (by decide) ?_ | refine iteB_f (by decide) ?_ | (refine Duo.mk (by first | omega | exact rfl | decide) ?_; intros) | (refine Duo.mk (Clo.mk (by kernel_rfl)) ?_; intros)))
      exact l2_ok (ai := fi) (ac := true) (Pi := zi) (pc := true) (B := zr) (gi := gi) (gc := gc) (gs := .node ui false ul ur) (k := k) (n := n) S8 (fun H4 S9 => fin H4 hu (by exact S9))
    | true =>
      refine iteB_t rfl ?_
      obtain ⟨um, ou, nu, hu, T4⟩ := tr_open (T3.bring (c := tr g o sr gi.r (.node ui true ul ur)) (by (repeat (first | exact Sel.here | apply Sel.there))))
      dsimp only [Tr.ref] at T4 ⊢
      clear T1 T2 T3
      (repeat (first | (refine Step.go ?_; intros) | refine iteB_t (by decide) ?_ | refine iteB_f (by decide) ?_ | (refine Duo.mk (by first | omega | exact rfl | decide) ?_; intros) | (refine Duo.mk (Clo.mk (by kernel_rfl)) ?_; intros)))
      rename_i H3 T5
      refine rec ui ul ur H3 rfl ?_
      have U0 : Sat H3 (tr g o sr fi.r (.node zi true zl zr) :: pt fi.r (ndO fi fm (fs.ref sr) zi.r gi.r false) :: tr g o sr fi.r fs :: pt gi.r (ndO gi gm fi.r ui.r (par sr k) true) :: pt ui.r (ndO ui um (ul.ref sr) (ur.ref sr) gi.r false) :: tr g o sr ui.r ul :: tr g o sr ui.r ur :: cx g o sr gi.r (Tr.mx o (.node gi gc (.node fi true fs (.node zi true zl zr)) (.node ui true ul ur))) k :: pt tp (treO (rootR k gi.r) n sr) :: pt sr senO :: has g :: l) := by
        refine T5.to (Ent.trans ?_ (tr_close oz nz hz))
        iterate 13 (apply Ent.pick; (focus (repeat (first | exact Sel.here | apply Sel.there))))
        exact Ent.refl
      have U1 : Sat H3 (tr g o sr gi.r (.node fi false fs (.node zi true zl zr)) :: pt gi.r (ndO gi gm fi.r ui.r (par sr k) true) :: pt ui.r (ndO ui um (ul.ref sr) (ur.ref sr) gi.r false) :: tr g o sr ui.r ul :: tr g o sr ui.r ur :: cx g o sr gi.r (Tr.mx o (.node gi gc (.node fi true fs (.node zi true zl zr)) (.node ui true ul ur))) k :: pt tp (treO (rootR k gi.r) n sr) :: pt sr senO :: has g :: l) := by
        refine U0.to (Ent.trans ?_ (tr_close of nf hf))
        iterate 10 (apply Ent.pick; (focus (repeat (first | exact Sel.here | apply Sel.there))))
        exact Ent.refl
      have U2 : Sat H3 (tr g o sr gi.r (.node ui false ul ur) :: tr g o sr gi.r (.node fi false fs (.node zi true zl zr)) :: pt gi.r (ndO gi gm fi.r ui.r (par sr k) true) :: cx g o sr gi.r (Tr.mx o (.node gi gc (.node fi true fs (.node zi true zl zr)) (.node ui true ul ur))) k :: pt tp (treO (rootR k gi.r) n sr) :: pt sr senO :: has g :: l) := by
        refine U1.to (Ent.trans ?_ (tr_close ou nu hu))
        iterate 8 (apply Ent.pick; (focus (repeat (first | exact Sel.here | apply Sel.there))))
        exact Ent.refl
      refine U2.to (Ent.trans ?_ (tr_close og ng hg))
      iterate 7 (apply Ent.pick; (focus (repeat (first | exact Sel.here | apply Sel.there))))
      exact Ent.refl
theorem step_Ro {zi fi gi : It} {gc : Bool} {zl zr fs gs : Tr} {k : List Fr} {n : Int} {R : Ending → Heap → Prop}
    (S : Sat H (tr g o sr fi.r (.node zi true zl zr) :: cx g o sr zi.r (Tr.mx o (.node zi true zl zr)) (⟨fi, true, false, fs⟩ :: ⟨gi, gc, false, gs⟩ :: k) :: pt tp (treO (rootR k gi.r) n sr) :: pt sr senO :: has g :: l))
    (rec : ∀ ui ul ur H1, gs = (.node ui true ul ur) → Sat H1 (tr g o sr (par sr k) (.node gi true (.node ui false ul ur) (.node fi false fs (.node zi true zl zr))) :: cx g o sr gi.r (Tr.mx o (.node gi true (.node ui false ul ur) (.node fi false fs (.node zi true zl zr)))) k :: pt tp (treO (rootR k gi.r) n sr) :: pt sr senO :: has g :: l) → F156.L0 (some (aA tp)) (some (aA gi.r)) H1 R)
    (fin : ∀ H1, gs.red = false → Sat H1 (tr g o sr sr ((plug k (turnI ⟨gi, gc, false, gs⟩ ⟨fi, true, false, fs⟩ (.node zi true zl zr))).setC false) :: pt tp (treO ((plug k (turnI ⟨gi, gc, false, gs⟩ ⟨fi, true, false, fs⟩ (.node zi true zl zr))).ref sr) n sr) :: pt sr senO :: has g :: l) → R (.returned (.tuple ⟨[]⟩)) H1) :
    F156.L0 (some (aA tp)) (some (aA zi.r)) H R := by
  have S1 : Sat H (tr g o sr (par sr k) (.node gi gc gs (.node fi true fs (.node zi true zl zr))) :: cx g o sr gi.r (Tr.mx o (.node gi gc gs (.node fi true fs (.node zi true zl zr)))) k :: pt tp (treO (rootR k gi.r) n sr) :: pt sr senO :: has g :: l) := (S.to (zip_up ⟨fi, true, false, fs⟩ (⟨gi, gc, false, gs⟩ :: k) (.node zi true zl zr))).to (zip_up ⟨gi, gc, false, gs⟩ k (.node fi true fs (.node zi true zl zr)))
  obtain ⟨gm, og, ng, hg, S2⟩ := tr_open S1
  obtain ⟨fm, of, nf, hf, S3⟩ := tr_open (S2.bring (c := tr g o sr gi.r (.node fi true fs (.node zi true zl zr))) (by (repeat (first | exact Sel.here | apply Sel.there))))
  obtain ⟨zm, oz, nz, hz, S4⟩ := tr_open (S3.bring (c := tr g o sr fi.r (.node zi true zl zr)) (by (repeat (first | exact Sel.here | apply Sel.there))))
  clear S S1 S2 S3
  have T1 : Sat H (pt zi.r (ndO zi zm (zl.ref sr) (zr.ref sr) fi.r true) :: tr g o sr zi.r zl :: tr g o sr zi.r zr :: pt fi.r (ndO fi fm (fs.ref sr) zi.r gi.r true) :: tr g o sr fi.r fs :: pt gi.r (ndO gi gm (gs.ref sr) fi.r (par sr k) gc) :: tr g o sr gi.r gs :: cx g o sr gi.r (Tr.mx o (.node gi gc gs (.node fi true fs (.node zi true zl zr)))) k :: pt tp (treO (rootR k gi.r) n sr) :: pt sr senO :: has g :: l) := by
    refine S4.to ?_
    iterate 11 (apply Ent.pick; (focus (repeat (first | exact Sel.here | apply Sel.there))))
    exact Ent.refl
  clear S4
  have zipped : ∀ H, Sat H (pt zi.r (ndO zi zm (zl.ref sr) (zr.ref sr) fi.r true) :: tr g o sr zi.r zl :: tr g o sr zi.r zr :: pt fi.r (ndO fi fm (fs.ref sr) zi.r gi.r true) :: tr g o sr fi.r fs :: pt gi.r (ndO gi gm (gs.ref sr) fi.r (par sr k) gc) :: tr g o sr gi.r gs :: cx g o sr gi.r (Tr.mx o (.node gi gc gs (.node fi true fs (.node zi true zl zr)))) k :: pt tp (treO (rootR k gi.r) n sr) :: pt sr senO :: has g :: l) → Sat H (tr g o sr gi.r (.node fi true fs (.node zi true zl zr)) :: cx g o sr fi.r (Tr.mx o (.node fi true fs (.node zi true zl zr))) (⟨gi, gc, false, gs⟩ :: k) :: pt tp (treO (rootR k gi.r) n sr) :: pt sr senO :: has g :: l) := by
    intro H S
    have U1 : Sat H (tr g o sr fi.r (.node zi true zl zr) :: pt fi.r (ndO fi fm (fs.ref sr) zi.r gi.r true) :: tr g o sr fi.r fs :: pt gi.r (ndO gi gm (gs.ref sr) fi.r (par sr k) gc) :: tr g o sr gi.r gs :: cx g o sr gi.r (Tr.mx o (.node gi gc gs (.node fi true fs (.node zi true zl zr)))) k :: pt tp (treO (rootR k gi.r) n sr) :: pt sr senO :: has g :: l) := S.to (tr_close oz nz hz)
    have U2 : Sat H (tr g o sr gi.r (.node fi true fs (.node zi true zl zr)) :: pt gi.r (ndO gi gm (gs.ref sr) fi.r (par sr k) gc) :: tr g o sr gi.r gs :: cx g o sr gi.r (Tr.mx o (.node gi gc gs (.node fi true fs (.node zi true zl zr)))) k :: pt tp (treO (rootR k gi.r) n sr) :: pt sr senO :: has g :: l) := by
      refine U1.to (Ent.trans ?_ (tr_close of nf hf))
      iterate 8 (apply Ent.pick; (focus (repeat (first | exact Sel.here | apply Sel.there))))
      exact Ent.refl
    have U3 : Sat H (tr g o sr (par sr k) (.node gi gc gs (.node fi true fs (.node zi true zl zr))) :: cx g o sr gi.r (Tr.mx o (.node gi gc gs (.node fi true fs (.node zi true zl zr)))) k :: pt tp (treO (rootR k gi.r) n sr) :: pt sr senO :: has g :: l) := by
      refine U2.to (Ent.trans ?_ (tr_close og ng hg))
      iterate 7 (apply Ent.pick; (focus (repeat (first | exact Sel.here | apply Sel.there))))
      exact Ent.refl
    exact U3.to (zip_down ⟨gi, gc, false, gs⟩ k (.node fi true fs (.node zi true zl zr)))
  refine F156.L0_step ?_
  unfold F156.L0n
  (repeat (first | (refine Step.go ?_; intros) | refine iteB_t (by decide) ?_ | refine iteB_f (by decide) ?_ | (refine Duo.mk (by first | omega | exact rfl | decide) ?_; intros) | (refine Duo.mk (Clo.mk (by kernel_rfl)) ?_; intros)))
  refine col_at (b := fi.r) (n := 1) T1 rfl nf fun H1 T2 => ?_
  refine Step.go ?_
  refine iteB_t rfl ?_
  (repeat (first | (refine Step.go ?_; intros) | refine iteB_t (by decide) ?_ | refine iteB_f (by decide) ?_ | (refine Duo.mk (by first | omega | exact rfl | decide) ?_; intros) | (refine Duo.mk (Clo.mk (by kernel_rfl)) ?_; intros)))
  refine pq_refS (t := gs) (p := gi.r) T2 (by (repeat (first | exact Sel.here | apply Sel.there))) (by (repeat (first | exact Sel.here | apply Sel.there))) (by (repeat (first | exact Sel.here | apply Sel.there))) nf ?_
  (repeat (first | (refine Step.go ?_; intros) | refine iteB_t (by decide) ?_ | refine iteB_f (by decide) ?_ | (refine Duo.mk (by first | omega | exact rfl | decide) ?_; intros) | (refine Duo.mk (Clo.mk (by kernel_rfl)) ?_; intros)))
  refine colT (t := gs) (p := gi.r) T2 (by (repeat (first | exact Sel.here | apply Sel.there))) fun H2 T3 => ?_
  refine Step.go ?_
  cases gs with
  | nil =>
    have hu : Tr.red .nil = false := rfl
    refine iteB_f rfl ?_
    (repeat (first | (refine Step.go ?_; intros) | refine iteB_t (by decide) ?_ | refine iteB_f (by decide) ?_ | (refine Duo.mk (by first | omega | exact rfl | decide) ?_; intros) | (refine Duo.mk (Clo.mk (by kernel_rfl)) ?_; intros)))
    refine pq_refS (t := fs) (p := fi.r) T3 (by (repeat (first | exact Sel.here | apply Sel.there))) (by (repeat (first | exact Sel.here | apply Sel.there))) (by (repeat (first | exact Sel.here | apply Sel.there))) nz ?_
    (repeat (first | (refine Step.go ?_; intros) | refine iteB_t (by decide) ?_ | refine iteB_f (by decide) ?_ | (refine Duo.mk (by first | omega | exact rfl | decide) ?_; intros) | (refine Duo.mk (Clo.mk (by kernel_rfl)) ?_; intros)))
    exact l1_ok (ai := zi) (ac := true) (al := zl) (ar := zr) (Pi := fi) (pc := true) (B := fs) (gi := gi) (gc := gc) (gs := .nil) (k := k) (n := n) (zipped _ T3) (fun H3 S9 => fin H3 hu (by exact S9))
  | node ui uc ul ur =>
    cases uc with
    | false =>
      have hu : Tr.red (.node ui false ul ur) = false := rfl
      refine iteB_f rfl ?_
      (repeat (first | (refine Step.go ?_; intros) | refine iteB_t (by decide) ?_ | refine iteB_f (by decide) ?_ | (refine Duo.mk (by first | omega | exact rfl | decide) ?_; intros) | (refine Duo.mk (Clo.mk (by kernel_rfl)) ?_; intros)))
      refine pq_refS (t := fs) (p := fi.r) T3 (by (repeat (first | exact Sel.here | apply Sel.there))) (by (repeat (first | exact Sel.here | apply Sel.there))) (by (repeat (first | exact Sel.here | apply Sel.there))) nz ?_
      (repeat (first | (refine Step.go ?_; intros) | refine iteB_t (by decide) ?_ | refine iteB_f (by decide) ?_ | (refine Duo.mk (by first | omega | exact rfl | decide) ?_; intros) | (refine Duo.mk (Clo.mk (by kernel_rfl)) ?_; intros)))
      exact l1_ok (ai := zi) (ac := true) (al := zl) (ar := zr) (Pi := fi) (pc := true) (B := fs) (gi := gi) (gc := gc) (gs := .node ui false ul ur) (k := k) (n := n) (zipped _ T3) (fun H3 S9 => fin H3 hu (by exact S9))
    | true =>
      refine iteB_t rfl ?_
      obtain ⟨um, ou, nu, hu, T4⟩ := tr_open (T3.bring (c := tr g o sr gi.r (.node ui true ul ur)) (by (repeat (first | exact Sel.here | apply Sel.there))))
      dsimp only [Tr.ref] at T4 ⊢
      clear T1 T2 T3
      (repeat (first | (refine Step.go ?_; intros) | refine iteB_t (by decide) ?_ | refine iteB_f (by decide) ?_ | (refine Duo.mk (by first | omega | exact rfl | decide) ?_; intros) | (refine Duo.mk (Clo.mk (by kernel_rfl)) ?_; intros)))
      rename_i H3 T5
      refine rec ui ul ur H3 rfl ?_
      have U0 : Sat H3 (tr g o sr fi.r (.node zi true zl zr) :: pt fi.r (ndO fi fm (fs.ref sr) zi.r gi.r false) :: tr g o sr fi.r fs :: pt gi.r (ndO gi gm ui.r fi.r (par sr k) true) :: pt ui.r (ndO ui um (ul.ref sr) (ur.ref sr) gi.r false) :: tr g o sr ui.r ul :: tr g o sr ui.r ur :: cx g o sr gi.r (Tr.mx o (.node gi gc (.node ui true ul ur) (.node fi true fs (.node zi true zl zr)))) k :: pt tp (treO (rootR k gi.r) n sr) :: pt sr senO :: has g :: l) := by
        refine T5.to (Ent.trans ?_ (tr_close oz nz hz))
        iterate 13 (apply Ent.pick; (focus (repeat (first | exact Sel.here | apply Sel.there))))
        exact Ent.refl
      have U1 : Sat H3 (tr g o sr gi.r (.node fi false fs (.node zi true zl zr)) :: pt gi.r (ndO gi gm ui.r fi.r (par sr k) true) :: pt ui.r (ndO ui um (ul.ref sr) (ur.ref sr) gi.r false) :: tr g o sr ui.r ul :: tr g o sr ui.r ur :: cx g o sr gi.r (Tr.mx o (.node gi gc (.node ui true ul ur) (.node fi true fs (.node zi true zl zr)))) k :: pt tp (treO (rootR k gi.r) n sr) :: pt sr senO :: has g :: l) := by
        refine U0.to (Ent.trans ?_ (tr_close of nf hf))
        iterate 10 (apply Ent.pick; (focus (repeat (first | exact Sel.here | apply Sel.there))))
        exact Ent.refl
      have U2 : Sat H3 (tr g o sr gi.r (.node ui false ul ur) :: tr g o sr gi.r (.node fi false fs (.node zi true zl zr)) :: pt gi.r (ndO gi gm ui.r fi.r (par sr k) true) :: cx g o sr gi.r (Tr.mx o (.node gi gc (.node ui true ul ur) (.node fi true fs (.node zi true zl zr)))) k :: pt tp (treO (rootR k gi.r) n sr) :: pt sr senO :: has g :: l) := by
        refine U1.to (Ent.trans ?_ (tr_close ou nu hu))
        iterate 8 (apply Ent.pick; (focus (repeat (first | exact Sel.here | apply Sel.there))))
        exact Ent.refl
      refine U2.to (Ent.trans ?_ (tr_close og ng hg))
      iterate 7 (apply Ent.pick; (focus (repeat (first | exact Sel.here | apply Sel.there))))
      exact Ent.refl
theorem step_Ri {zi fi gi : It} {gc : Bool} {zl zr fs gs : Tr} {k : List Fr} {n : Int} {R : Ending → Heap → Prop}
    (S : Sat H (tr g o sr fi.r (.node zi true zl zr) :: cx g o sr zi.r (Tr.mx o (.node zi true zl zr)) (⟨fi, true, true, fs⟩ :: ⟨gi, gc, false, gs⟩ :: k) :: pt tp (treO (rootR k gi.r) n sr) :: pt sr senO :: has g :: l))
    (rec : ∀ ui ul ur H1, gs = (.node ui true ul ur) → Sat H1 (tr g o sr (par sr k) (.node gi true (.node ui false ul ur) (.node fi false (.node zi true zl zr) fs)) :: cx g o sr gi.r (Tr.mx o (.node gi true (.node ui false ul ur) (.node fi false (.node zi true zl zr) fs))) k :: pt tp (treO (rootR k gi.r) n sr) :: pt sr senO :: has g :: l) → F156.L0 (some (aA tp)) (some (aA gi.r)) H1 R)
    (fin : ∀ H1, gs.red = false → Sat H1 (tr g o sr sr ((plug k (turnI ⟨gi, gc, false, gs⟩ ⟨fi, true, true, fs⟩ (.node zi true zl zr))).setC false) :: pt tp (treO ((plug k (turnI ⟨gi, gc, false, gs⟩ ⟨fi, true, true, fs⟩ (.node zi true zl zr))).ref sr) n sr) :: pt sr senO :: has g :: l) → R (.returned (.tuple ⟨[]⟩)) H1) :
    F156.L0 (some (aA tp)) (some (aA zi.r)) H R := by
  have S1 : Sat H (tr g o sr (par sr k) (.node gi gc gs (.node fi true (.node zi true zl zr) fs)) :: cx g o sr gi.r (Tr.mx o (.node gi gc gs (.node fi true (.node zi true zl zr) fs))) k :: pt tp (treO (rootR k gi.r) n sr) :: pt sr senO :: has g :: l) := (S.to (zip_up ⟨fi, true, true, fs⟩ (⟨gi, gc, false, gs⟩ :: k) (.node zi true zl zr))).to (zip_up ⟨gi, gc, false, gs⟩ k (.node fi true (.node zi true zl zr) fs))
  obtain ⟨gm, og, ng, hg, S2⟩ := tr_open S1
  obtain ⟨fm, of, nf, hf, S3⟩ := tr_open (S2.bring (c := tr g o sr gi.r (.node fi true (.node zi true zl zr) fs)) (by (repeat (first | exact Sel.here | apply Sel.there))))
  obtain ⟨zm, oz, nz, hz, S4⟩ := tr_open (S3.bring (c := tr g o sr fi.r (.node zi true zl zr)) (by (repeat (first | exact Sel.here | apply Sel.there))))
  clear S S1 S2 S3
  have T1 : Sat H (pt zi.r (ndO zi zm (zl.ref sr) (zr.ref sr) fi.r true) :: tr g o sr zi.r zl :: tr g o sr zi.r zr :: pt fi.r (ndO fi fm zi.r (fs.ref sr) gi.r true) :: tr g o sr fi.r fs :: pt gi.r (ndO gi gm (gs.ref sr) fi.r (par sr k) gc) :: tr g o sr gi.r gs :: cx g o sr gi.r (Tr.mx o (.node gi gc gs (.node fi true (.node zi true zl zr) fs))) k :: pt tp (treO (rootR k gi.r) n sr) :: pt sr senO :: has g :: l) := by
    refine S4.to ?_
    iterate 11 (apply Ent.pick; (focus (repeat (first | exact Sel.here | apply Sel.there))))
    exact Ent.refl
  clear S4
  have zipped : ∀ H, Sat H (pt zi.r (ndO zi zm (zl.ref sr) (zr.ref sr) fi.r true) :: tr g o sr zi.r zl :: tr g o sr zi.r zr :: pt fi.r (ndO fi fm zi.r (fs.ref sr) gi.r true) :: tr g o sr fi.r fs :: pt gi.r (ndO gi gm (gs.ref sr) fi.r (par sr k) gc) :: tr g o sr gi.r gs :: cx g o sr gi.r (Tr.mx o (.node gi gc gs (.node fi true (.node zi true zl zr) fs))) k :: pt tp (treO (rootR k gi.r) n sr) :: pt sr senO :: has g :: l) → Sat H (tr g o sr gi.r (.node fi true (.node zi true zl zr) fs) :: cx g o sr fi.r (Tr.mx o (.node fi true (.node zi true zl zr) fs)) (⟨gi, gc, false, gs⟩ :: k) :: pt tp (treO (rootR k gi.r) n sr) :: pt sr senO :: has g :: l) := by
    intro H S
    have U1 : Sat H (tr g o sr fi.r (.node zi true zl zr) :: pt fi.r (ndO fi fm zi.r (fs.ref sr) gi.r true) :: tr g o sr fi.r fs :: pt gi.r (ndO gi gm (gs.ref sr) fi.r (par sr k) gc) :: tr g o sr gi.r gs :: cx g o sr gi.r (Tr.mx o (.node gi gc gs (.node fi true (.node zi true zl zr) fs))) k :: pt tp (treO (rootR k gi.r) n sr) :: pt sr senO :: has g :: l) := S.to (tr_close oz nz hz)
    have U2 : Sat H (tr g o sr gi.r (.node fi true (.node zi true zl zr) fs) :: pt gi.r (ndO gi gm (gs.ref sr) fi.r (par sr k) gc) :: tr g o sr gi.r gs :: cx g o sr gi.r (Tr.mx o (.node gi gc gs (.node fi true (.node zi true zl zr) fs))) k :: pt tp (treO (rootR k gi.r) n sr) :: pt sr senO :: has g :: l) := by
      refine U1.to (Ent.trans ?_ (tr_close of nf hf))
      iterate 8 (apply Ent.pick; (focus (repeat (first | exact Sel.here | apply Sel.there))))
      exact Ent.refl
    have U3 : Sat H (tr g o sr (par sr k) (.node gi gc gs (.node fi true (.node zi true zl zr) fs)) :: cx g o sr gi.r (Tr.mx o (.node gi gc gs (.node fi true (.node zi true zl zr) fs))) k :: pt tp (treO (rootR k gi.r) n sr) :: pt sr senO :: has g :: l) := by
      refine U2.to (Ent.trans ?_ (tr_close og ng hg))
      iterate 7 (apply Ent.pick; (focus (repeat (first | exact Sel.here | apply Sel.there))))
      exact Ent.refl
    exact U3.to (zip_down ⟨gi, gc, false, gs⟩ k (.node fi true (.node zi true zl zr) fs))
  refine F156.L0_step ?_
  unfold F156.L0n
  (repeat (first | (refine Step.go ?_; intros) | refine iteB_t (by decide) ?_ | refine iteB_f (by decide) ?_ | (refine Duo.mk (by first | omega | exact rfl | decide) ?_; intros) | (refine Duo.mk (Clo.mk (by kernel_rfl)) ?_; intros)))
  refine col_at (b := fi.r) (n := 1) T1 rfl nf fun H1 T2 => ?_
  refine Step.go ?_
  refine iteB_t rfl ?_
  (repeat (first | (refine Step.go ?_; intros) | refine iteB_t (by decide) ?_ | refine iteB_f (by decide) ?_ | (refine Duo.mk (by first | omega | exact rfl | decide) ?_; intros) | (refine Duo.mk (Clo.mk (by kernel_rfl)) ?_; intros)))
  refine pq_refS (t := gs) (p := gi.r) T2 (by (repeat (first | exact Sel.here | apply Sel.there))) (by (repeat (first | exact Sel.here | apply Sel.there))) (by (repeat (first | exact Sel.here | apply Sel.there))) nf ?_
  (repeat (first | (refine Step.go ?_; intros) | refine iteB_t (by decide) ?_ | refine iteB_f (by decide) ?_ | (refine Duo.mk (by first | omega | exact rfl | decide) ?_; intros) | (refine Duo.mk (Clo.mk (by kernel_rfl)) ?_; intros)))
  refine colT (t := gs) (p := gi.r) T2 (by (repeat (first | exact Sel.here | apply Sel.there))) fun H2 T3 => ?_
  refine Step.go ?_
  cases gs with
  | nil =>
    have hu : Tr.red .nil = false := rfl
    refine iteB_f rfl ?_
    (repeat (first | (refine Step.go ?_; intros) | refine iteB_t (by decide) ?_ | refine iteB_f (by decide) ?_ | (refine Duo.mk (by first | omega | exact rfl | decide) ?_; intros) | (refine Duo.mk (Clo.mk (by kernel_rfl)) ?_; intros)))
    refine pq_same ?_
    (repeat (first | (refine Step.go ?_; intros) | refine iteB_t (by decide) ?_ | refine iteB_f (by decide) ?_ | (refine Duo.mk (by first | omega | exact rfl | decide) ?_; intros) | (refine Duo.mk (Clo.mk (by kernel_rfl)) ?_; intros)))
    refine call_of (rotR_ok (k := ⟨gi, gc, false, .nil⟩ :: k) (zipped _ T3)) ?_
    rintro _ H3 ⟨rfl, S8⟩
    (repeat (first | (refine Step.go ?_; intros) | refine iteB_t (by decide) ?_ | refine iteB_f (by decide) ?_ | (refine Duo.mk (by first | omega | exact rfl | decide) ?_; intros) | (refine Duo.mk (Clo.mk (by kernel_rfl)) ?_; intros)))
    exact l1_ok (ai := fi) (ac := true) (Pi := zi) (pc := true) (B := zl) (gi := gi) (gc := gc) (gs := .nil) (k := k) (n := n) S8 (fun H4 S9 => fin H4 hu (by exact S9))
  | node ui uc ul ur =>
    cases uc with
    | false =>
      have hu : Tr.red (.node ui false ul ur) = false := rfl
      refine iteB_f rfl ?_
      (repeat (first | (refine Step.go ?_; intros) | refine iteB_t (by decide) ?_ | refine iteB_f (by decide) ?_ | (refine Duo.mk (by first | omega | exact rfl | decide) ?_; intros) | (refine Duo.mk (Clo.mk (by kernel_rfl)) ?_; intros)))
      refine pq_same ?_
      (repeat (first | (refine Step.go ?_; intros) | refine iteB_t (by decide) ?_ | refine iteB_f (by decide) ?_ | (refine Duo.mk (by first | omega | exact rfl | decide) ?_; intros) | (refine Duo.mk (Clo.mk (by kernel_rfl)) ?_; intros)))
      refine call_of (rotR_ok (k := ⟨gi, gc, false, .node ui false ul ur⟩ :: k) (zipped _ T3)) ?_
      rintro _ H3 ⟨rfl, S8⟩
      (repeat (first | (refine Step.go ?_; intros) | refine iteB_t (by decide) ?_ | refine iteB_f (by decide) ?_ | (refine Duo.mk (by first | omega | exact rfl | decide) ?_; intros) | (refine Duo.mk (Clo.mk (by kernel_rfl)) ?_; intros)))
      exact l1_ok (ai := fi) (ac := true) (Pi := zi) (pc := true) (B := zl) (gi := gi) (gc := gc) (gs := .node ui false ul ur) (k := k) (n := n) S8 (fun H4 S9 => fin H4 hu (by exact S9))
    | true =>
      refine iteB_t rfl ?_
      obtain ⟨um, ou, nu, hu, T4⟩ := tr_open (T3.bring (c := tr g o sr gi.r (.node ui true ul ur)) (by (repeat (first | exact Sel.here | apply Sel.there))))
      dsimp only [Tr.ref] at T4 ⊢
      clear T1 T2 T3
      (repeat (first | (refine Step.go ?_; intros) | refine iteB_t (by decide) ?_ | refine iteB_f (by decide) ?_ | (refine Duo.mk (by first | omega | exact rfl | decide) ?_; intros) | (refine Duo.mk (Clo.mk (by kernel_rfl)) ?_; intros)))
      rename_i H3 T5
      refine rec ui ul ur H3 rfl ?_
      have U0 : Sat H3 (tr g o sr fi.r (.node zi true zl zr) :: pt fi.r (ndO fi fm zi.r (fs.ref sr) gi.r false) :: tr g o sr fi.r fs :: pt gi.r (ndO gi gm ui.r fi.r (par sr k) true) :: pt ui.r (ndO ui um (ul.ref sr) (ur.ref sr) gi.r false) :: tr g o sr ui.r ul :: tr g o sr ui.r ur :: cx g o sr gi.r (Tr.mx o (.node gi gc (.node ui true ul ur) (.node fi true (.node zi true zl zr) fs))) k :: pt tp (treO (rootR k gi.r) n sr) :: pt sr senO :: has g :: l) := by
        refine T5.to (Ent.trans ?_ (tr_close oz nz hz))
        iterate 13 (apply Ent.pick; (focus (repeat (first | exact Sel.here | apply Sel.there))))
        exact Ent.refl
      have U1 : Sat H3 (tr g o sr gi.r (.node fi false (.node zi true zl zr) fs) :: pt gi.r (ndO gi gm ui.r fi.r (par sr k) true) :: pt ui.r (ndO ui um (ul.ref sr) (ur.ref sr) gi.r false) :: tr g o sr ui.r ul :: tr g o sr ui.r ur :: cx g o sr gi.r (Tr.mx o (.node gi gc (.node ui true ul ur) (.node fi true (.node zi true zl zr) fs))) k :: pt tp (treO (rootR k gi.r) n sr) :: pt sr senO :: has g :: l) := by
        refine U0.to (Ent.trans ?_ (tr_close of nf hf))
        iterate 10 (apply Ent.pick; (focus (repeat (first | exact Sel.here | apply Sel.there))))
        exact Ent.refl
      have U2 : Sat H3 (tr g o sr gi.r (.node ui false ul ur) :: tr g o sr gi.r (.node fi false (.node zi true zl zr) fs) :: pt gi.r (ndO gi gm ui.r fi.r (par sr k) true) :: cx g o sr gi.r (Tr.mx o (.node gi gc (.node ui true ul ur) (.node fi true (.node zi true zl zr) fs))) k :: pt tp (treO (rootR k gi.r) n sr) :: pt sr senO :: has g :: l) := by
        refine U1.to (Ent.trans ?_ (tr_close ou nu hu))
        iterate 8 (apply Ent.pick; (focus (repeat (first | exact Sel.here | apply Sel.there))))
        exact Ent.refl
      refine U2.to (Ent.trans ?_ (tr_close og ng hg))
      iterate 7 (apply Ent.pick; (focus (repeat (first | exact Sel.here | apply Sel.there))))
      exact Ent.refl
theorem fix_loop : ∀ (N : Nat) (k : List Fr) (zi : It) (zl zr : Tr) (n : Int) (H : Heap) (R : Ending → Heap → Prop), k.length ≤ N → rootB k →
    Sat H (tr g o sr (par sr k) (.node zi true zl zr) :: cx g o sr zi.r (Tr.mx o (.node zi true zl zr)) k :: pt tp (treO (rootR k zi.r) n sr) :: pt sr senO :: has g :: l) →
    (∀ H1, Sat H1 (tr g o sr sr ((fixI k (.node zi true zl zr)).setC false) :: pt tp (treO ((fixI k (.node zi true zl zr)).ref sr) n sr) :: pt sr senO :: has g :: l) → R (.returned (.tuple ⟨[]⟩)) H1) →
    F156.L0 (some (aA tp)) (some (aA zi.r)) H R := by
  intro N
  induction N with
  | zero =>
    intro k zi zl zr n H R hk hr S fin
    have : k = [] := List.eq_nil_of_length_eq_zero (by omega)
    subst this
    exact exit_ok rfl S fin
  | succ N ih =>
    intro k zi zl zr n H R hk hr S fin
    match k, hk, hr, S, fin with
    | [], _, _, S, fin => exact exit_ok rfl S fin
    | [f], _, hr, S, fin => exact exit_ok (k := [f]) hr S fin
    | ⟨fi, fc, fl, fs⟩ :: ⟨gi, gc, gl, gs⟩ :: k, hk, hr, S, fin =>
      cases fc with
      | false =>
        refine exit_ok rfl S ?_
        have e : fixI (⟨fi, false, fl, fs⟩ :: ⟨gi, gc, gl, gs⟩ :: k) (.node zi true zl zr) = plug (⟨fi, false, fl, fs⟩ :: ⟨gi, gc, gl, gs⟩ :: k) (.node zi true zl zr) := by
          unfold fixI; rw [if_neg (by simp)]
        rw [e] at fin
        exact fin
      | true =>
        have hr2 := rootB_tail2 (rootB_tail2 hr)
        have e1 : gs.red = false → fixI (⟨fi, true, fl, fs⟩ :: ⟨gi, gc, gl, gs⟩ :: k) (.node zi true zl zr) = plug k (turnI ⟨gi, gc, gl, gs⟩ ⟨fi, true, fl, fs⟩ (.node zi true zl zr)) := by
          intro h; unfold fixI; rw [if_pos rfl, if_neg (by simp [h])]
        have e2 : gs.red = true → fixI (⟨fi, true, fl, fs⟩ :: ⟨gi, gc, gl, gs⟩ :: k) (.node zi true zl zr) = fixI k (Fr.fill ⟨gi, true, gl, gs.setC false⟩ (Fr.fill ⟨fi, false, fl, fs⟩ (.node zi true zl zr))) := by
          intro h; rw [fixI]; rw [if_pos rfl, if_pos h]
        cases gl <;> cases fl
        · refine step_Ro S (fun ui ul ur H1 h S1 => ?_) (fun H1 h S1 => fin H1 (by rw [e1 h]; exact S1))
          subst h
          rw [e2 rfl] at fin
          exact ih k gi _ _ n H1 R (by simp at hk; omega) hr2 S1 fin
        · refine step_Ri S (fun ui ul ur H1 h S1 => ?_) (fun H1 h S1 => fin H1 (by rw [e1 h]; exact S1))
          subst h
          rw [e2 rfl] at fin
          exact ih k gi _ _ n H1 R (by simp at hk; omega) hr2 S1 fin
        · refine step_Li S (fun ui ul ur H1 h S1 => ?_) (fun H1 h S1 => fin H1 (by rw [e1 h]; exact S1))
          subst h
          rw [e2 rfl] at fin
          exact ih k gi _ _ n H1 R (by simp at hk; omega) hr2 S1 fin
        · refine step_Lo S (fun ui ul ur H1 h S1 => ?_) (fun H1 h S1 => fin H1 (by rw [e1 h]; exact S1))
          subst h
          rw [e2 rfl] at fin
          exact ih k gi _ _ n H1 R (by simp at hk; omega) hr2 S1 fin
end
end Go.Proofs.Ytobolifgehagfaa

set_option linter.unusedVariables false
set_option linter.unusedSimpArgs false
set_option linter.unnecessarySimpa false
namespace Go.Proofs.Ytobolifgehagfaa
open Go Go.Den Go.Proofs
/-! Putting in. -/
section
variable {H : Heap} {l m : List HP} {g : PH} {o : Int} {sr b tp : Nat}
theorem IsG.mk {i : IV} {x : EN} (h : IsG g o i x) (S : Sat H l) [G : HasG l g] : ∃ t v, i = .mk t v := (h H (G.sub S)).mk
theorem create_ok {i j v : IV} {root : Nat} {n : Int} (S : Sat H (pt tp (treO root n sr) :: l)) :
    CallsH Try.prog 155 ⟨[pA tp, .agg ⟨[i.v, j.v]⟩, v.v]⟩ H (fun e H1 => ∃ r, e = .returned (pA r) ∧ Sat H1 (pt r (.cells ⟨[i.v, j.v, v.v, j.v, pA sr, pA sr, pA sr, .int .i64 1]⟩ 135) :: pt tp (treO root n sr) :: l)) := by
  refine F155.calls (ivl_0 := i) (ivl_1 := j) (val := v) ?_
  unfold F155.go
  (repeat (first | (refine Step.go ?_; intros) | refine iteB_t (by decide) ?_ | refine iteB_f (by decide) ?_ | (refine Duo.mk (by first | omega | exact rfl | decide) ?_; intros) | (refine Duo.mk (Clo.mk (by kernel_rfl)) ?_; intros)))
  rename_i r0 H1 S1 r H2 S2
  refine ⟨r, rfl, S2.to ?_⟩
  iterate 2 (apply Ent.pick; (focus (repeat (first | exact Sel.here | apply Sel.there))))
  exact Ent.drop Ent.refl
theorem ins_last {z : It} {k : List Fr} {n : Int} {R : Ending → Heap → Prop} {c : Bool} (hn : -1000000000 ≤ n ∧ n ≤ 1000000000) (hr : rootB k)
    (S : Sat H (tr g o sr (par sr k) (.node z c .nil .nil) :: cx g o sr z.r (Tr.mx o (.node z true .nil .nil)) k :: pt tp (treO (rootR k z.r) n sr) :: pt sr senO :: has g :: l))
    (fin : ∀ H1, Sat H1 (tr g o sr sr ((fixI k (.node z true .nil .nil)).setC false) :: pt tp (treO ((fixI k (.node z true .nil .nil)).ref sr) (n + 1) sr) :: pt sr senO :: has g :: l) → R (.returned (.tuple ⟨[]⟩)) H1) :
    F142.L2 (some (aA tp)) (some (aA z.r)) H R := by
  refine F142.L2_step ?_
  unfold F142.L2n
  obtain ⟨zm, oz, nz, hz, S1⟩ := tr_open S
  clear S
  (repeat (first | (refine Step.go ?_; intros) | refine iteB_t (by decide) ?_ | refine iteB_f (by decide) ?_ | (refine Duo.mk (by first | omega | exact rfl | decide) ?_; intros) | (refine Duo.mk (Clo.mk (by kernel_rfl)) ?_; intros)))
  rename_i H1 S2
  have T1 : Sat H1 (tr g o sr (par sr k) (.node z true .nil .nil) :: cx g o sr z.r (Tr.mx o (.node z true .nil .nil)) k :: pt tp (treO (rootR k z.r) n sr) :: pt sr senO :: has g :: l) := S2.to (tr_close (c := true) oz nz hz)
  clear S1 S2
  refine call_of (S := fun e H1 => e = .returned (.tuple ⟨[]⟩) ∧ Sat H1 (tr g o sr sr ((fixI k (.node z true .nil .nil)).setC false) :: pt tp (treO ((fixI k (.node z true .nil .nil)).ref sr) n sr) :: pt sr senO :: has g :: l)) (F156.calls (fix_loop _ k z .nil .nil n H1 _ (Nat.le_refl _) hr T1 fun H2 S2 => ⟨rfl, S2⟩)) ?_
  rintro _ H2 ⟨rfl, S3⟩
  (repeat (first | (refine Step.go ?_; intros) | refine iteB_t (by decide) ?_ | refine iteB_f (by decide) ?_ | (refine Duo.mk (by first | omega | exact rfl | decide) ?_; intros) | (refine Duo.mk (Clo.mk (by kernel_rfl)) ?_; intros)))
  rename_i H3 S4
  rw [wr (by omega) (by omega)] at S4
  exact fin H3 S4
/-- A new node alone. -/
theorem mkz {z : It} {p : Nat} (hO : OkI g o z) (hz : z.r ≠ sr) : Ent (pt z.r (ndO z z.j sr sr p true) :: l) (tr g o sr p (.node z true .nil .nil) :: l) := by
  refine Ent.trans (Ent.cons (t := tr g o sr z.r .nil :: tr g o sr z.r .nil :: l) ?_) (tr_close (t := .nil) (u := .nil) hO hz hO.2.isM)
  exact Ent.trans tr_mknil tr_mknil
theorem ins_loop {z : It} {n : Int} {R : Ending → Heap → Prop} (hO : OkI g o z) (hz : z.r ≠ sr) (hn : -1000000000 ≤ n ∧ n ≤ 1000000000) : ∀ (t : Tr) (k : List Fr) (H : Heap), (∀ f k', k = f :: k' → f.left = goL o z.B z.E f.it) → rootB (path o z.B z.E t k) →
    Sat H (tr g o sr (par sr k) t :: cx g o sr (t.ref sr) (t.mx o) k :: pt z.r (ndO z z.j sr sr sr true) :: pt tp (treO (rootR k (t.ref sr)) n sr) :: pt sr senO :: has g :: l) →
    (∀ H1, Sat H1 (tr g o sr sr ((fixI (path o z.B z.E t k) (.node z true .nil .nil)).setC false) :: pt tp (treO ((fixI (path o z.B z.E t k) (.node z true .nil .nil)).ref sr) (n + 1) sr) :: pt sr senO :: has g :: l) → R (.returned (.tuple ⟨[]⟩)) H1) →
    F142.L0 (some (aA tp)) (some (aA (par sr k))) (some (aA z.r)) (some (aA (t.ref sr))) H R := by
  intro t
  induction t with
  | nil =>
    intro k H hk hr S fin
    refine F142.L0_step ?_
    unfold F142.L0n
    dsimp only [Tr.ref]
    have S1 := S.to (m := cx g o sr sr none k :: pt z.r (ndO z z.j sr sr sr true) :: pt tp (treO (rootR k sr) n sr) :: pt sr senO :: has g :: l) tr_nil
    clear S
    (repeat (first | (refine Step.go ?_; intros) | refine iteB_t (by decide) ?_ | refine iteB_f (by decide) ?_ | (refine Duo.mk (by first | omega | exact rfl | decide) ?_; intros) | (refine Duo.mk (Clo.mk (by kernel_rfl)) ?_; intros)))
    refine pq_same ?_
    (repeat (first | (refine Step.go ?_; intros) | refine iteB_t (by decide) ?_ | refine iteB_f (by decide) ?_ | (refine Duo.mk (by first | omega | exact rfl | decide) ?_; intros) | (refine Duo.mk (Clo.mk (by kernel_rfl)) ?_; intros)))
    rename_i H1 S2
    clear S1
    cases k with
    | nil =>
      refine pq_same ?_
      (repeat (first | (refine Step.go ?_; intros) | refine iteB_t (by decide) ?_ | refine iteB_f (by decide) ?_ | (refine Duo.mk (by first | omega | exact rfl | decide) ?_; intros) | (refine Duo.mk (Clo.mk (by kernel_rfl)) ?_; intros)))
      rename_i H2 S3
      clear S2
      have T1 : Sat H2 (tr g o sr sr (.node z true .nil .nil) :: cx g o sr z.r (some z.E) [] :: pt tp (treO z.r n sr) :: pt sr senO :: has g :: l) := by
        refine S3.to (Ent.trans ?_ (mkz hO hz))
        iterate 5 (apply Ent.pick; (focus (repeat (first | exact Sel.here | apply Sel.there))))
        exact Ent.refl
      exact ins_last (k := []) hn hr T1 fin
    | cons f k =>
    obtain ⟨fi, fc, fl, fs⟩ := f
    have hfl : fl = goL o z.B z.E fi := hk _ _ rfl
    obtain ⟨fm, of, nf, hf, S3⟩ := nd_open (S2.bring (c := cx g o sr sr none (⟨fi, fc, fl, fs⟩ :: k)) (by (repeat (first | exact Sel.here | apply Sel.there)))).star
    clear S2
    have put_true : goL o z.B z.E fi = true → ∀ H, Sat H (pt fi.r (ndO fi fm z.r (fs.ref sr) (par sr k) fc) :: tr g o sr fi.r fs :: cx g o sr fi.r (some (Fr.mx o ⟨fi, fc, fl, fs⟩ none)) k :: pt z.r (ndO z z.j sr sr fi.r true) :: pt tp (treO (rootR k fi.r) n sr) :: pt sr senO :: has g :: l) →
        F142.L1 (some (aA tp)) (some (aA fi.r)) (some (aA z.r)) H R := by
      intro hg H S
      obtain rfl : fl = true := hfl.trans hg
      refine F142.L1_step ?_
      unfold F142.L1n
      (repeat (first | (refine Step.go ?_; intros) | refine iteB_t (by decide) ?_ | refine iteB_f (by decide) ?_ | (refine Duo.mk (by first | omega | exact rfl | decide) ?_; intros) | (refine Duo.mk (Clo.mk (by kernel_rfl)) ?_; intros)))
      have T1 : Sat H (pt fi.r (ndO fi fm z.r (fs.ref sr) (par sr k) fc) :: cx g o sr fi.r (some (Fr.mx o ⟨fi, fc, true, fs⟩ none)) k :: pt sr senO :: has g :: pt z.r (ndO z z.j sr sr fi.r true) :: tr g o sr fi.r fs :: pt tp (treO (rootR k fi.r) n sr) :: l) := by
        refine S.to ?_
        iterate 7 (apply Ent.pick; (focus (repeat (first | exact Sel.here | apply Sel.there))))
        exact Ent.refl
      clear S
      refine updD (k := k) (it := fi) (c := fc) (m := fm) (x := z.r) (y := fs.ref sr) (mx := some z.E) (my := fs.mx o) T1 of nf hf ?_ ?_ ?_
      · exact Kid.here rfl hO.2.isM hz
      · exact (kid_tr fs).there
      intro m' H2 h2 S2
      (repeat (first | (refine Step.go ?_; intros) | refine iteB_t (by decide) ?_ | refine iteB_f (by decide) ?_ | (refine Duo.mk (by first | omega | exact rfl | decide) ?_; intros) | (refine Duo.mk (Clo.mk (by kernel_rfl)) ?_; intros)))
      have T2 : Sat H2 (cx g o sr z.r (some z.E) (⟨fi, fc, true, fs⟩ :: k) :: pt z.r (ndO z z.j sr sr fi.r true) :: pt tp (treO (rootR k fi.r) n sr) :: pt sr senO :: has g :: l) := by
        refine S2.to (Ent.star (Ent.trans ?_ (nd_close of nf h2)))
        iterate 7 (apply Ent.pick; (focus (repeat (first | exact Sel.here | apply Sel.there))))
        exact Ent.refl
      clear S2 T1
      have T3 : Sat H2 (tr g o sr fi.r (.node z true .nil .nil) :: cx g o sr z.r (some z.E) (⟨fi, fc, true, fs⟩ :: k) :: pt tp (treO (rootR k fi.r) n sr) :: pt sr senO :: has g :: l) := by
        refine T2.to (Ent.trans ?_ (mkz hO hz))
        iterate 5 (apply Ent.pick; (focus (repeat (first | exact Sel.here | apply Sel.there))))
        exact Ent.refl
      exact ins_last (k := ⟨fi, fc, true, fs⟩ :: k) hn hr T3 fin
    have put_false : goL o z.B z.E fi = false → ∀ H, Sat H (pt fi.r (ndO fi fm (fs.ref sr) z.r (par sr k) fc) :: tr g o sr fi.r fs :: cx g o sr fi.r (some (Fr.mx o ⟨fi, fc, fl, fs⟩ none)) k :: pt z.r (ndO z z.j sr sr fi.r true) :: pt tp (treO (rootR k fi.r) n sr) :: pt sr senO :: has g :: l) →
        F142.L1 (some (aA tp)) (some (aA fi.r)) (some (aA z.r)) H R := by
      intro hg H S
      obtain rfl : fl = false := hfl.trans hg
      refine F142.L1_step ?_
      unfold F142.L1n
      (repeat (first | (refine Step.go ?_; intros) | refine iteB_t (by decide) ?_ | refine iteB_f (by decide) ?_ | (refine Duo.mk (by first | omega | exact rfl | decide) ?_; intros) | (refine Duo.mk (Clo.mk (by kernel_rfl)) ?_; intros)))
      have T1 : Sat H (pt fi.r (ndO fi fm (fs.ref sr) z.r (par sr k) fc) :: cx g o sr fi.r (some (Fr.mx o ⟨fi, fc, false, fs⟩ none)) k :: pt sr senO :: has g :: pt z.r (ndO z z.j sr sr fi.r true) :: tr g o sr fi.r fs :: pt tp (treO (rootR k fi.r) n sr) :: l) := by
        refine S.to ?_
        iterate 7 (apply Ent.pick; (focus (repeat (first | exact Sel.here | apply Sel.there))))
        exact Ent.refl
      clear S
      refine updD (k := k) (it := fi) (c := fc) (m := fm) (x := fs.ref sr) (y := z.r) (mx := fs.mx o) (my := some z.E) T1 of nf hf ?_ ?_ ?_
      · exact (kid_tr fs).there
      · exact Kid.here rfl hO.2.isM hz
      intro m' H2 h2 S2
      (repeat (first | (refine Step.go ?_; intros) | refine iteB_t (by decide) ?_ | refine iteB_f (by decide) ?_ | (refine Duo.mk (by first | omega | exact rfl | decide) ?_; intros) | (refine Duo.mk (Clo.mk (by kernel_rfl)) ?_; intros)))
      have T2 : Sat H2 (cx g o sr z.r (some z.E) (⟨fi, fc, false, fs⟩ :: k) :: pt z.r (ndO z z.j sr sr fi.r true) :: pt tp (treO (rootR k fi.r) n sr) :: pt sr senO :: has g :: l) := by
        refine S2.to (Ent.star (Ent.trans ?_ (nd_close of nf h2)))
        iterate 7 (apply Ent.pick; (focus (repeat (first | exact Sel.here | apply Sel.there))))
        exact Ent.refl
      clear S2 T1
      have T3 : Sat H2 (tr g o sr fi.r (.node z true .nil .nil) :: cx g o sr z.r (some z.E) (⟨fi, fc, false, fs⟩ :: k) :: pt tp (treO (rootR k fi.r) n sr) :: pt sr senO :: has g :: l) := by
        refine T2.to (Ent.trans ?_ (mkz hO hz))
        iterate 5 (apply Ent.pick; (focus (repeat (first | exact Sel.here | apply Sel.there))))
        exact Ent.refl
      exact ins_last (k := ⟨fi, fc, false, fs⟩ :: k) hn hr T3 fin
    have T0 : Sat H1 (pt fi.r (ndO fi fm (if fl then sr else fs.ref sr) (if fl then fs.ref sr else sr) (par sr k) fc) :: tr g o sr fi.r fs :: cx g o sr fi.r (some (Fr.mx o ⟨fi, fc, fl, fs⟩ none)) k :: pt z.r (ndO z z.j sr sr fi.r true) :: pt tp (treO (rootR k fi.r) n sr) :: pt sr senO :: has g :: l) := S3
    clear S3
    dsimp only [par]
    refine pq_ne nf T0.obj T0.obj ?_
    (repeat (first | (refine Step.go ?_; intros) | refine iteB_t (by decide) ?_ | refine iteB_f (by decide) ?_ | (refine Duo.mk (by first | omega | exact rfl | decide) ?_; intros) | (refine Duo.mk (Clo.mk (by kernel_rfl)) ?_; intros)))
    refine nilV_of (hO.1.mk T0) ?_
    (repeat (first | (refine Step.go ?_; intros) | refine iteB_t (by decide) ?_ | refine iteB_f (by decide) ?_ | (refine Duo.mk (by first | omega | exact rfl | decide) ?_; intros) | (refine Duo.mk (Clo.mk (by kernel_rfl)) ?_; intros)))
    refine cmpG T0 hO.1 of.1 fun H2 S4 => ?_
    clear T0
    (repeat (first | (refine Step.go ?_; intros) | refine iteB_t (by decide) ?_ | refine iteB_f (by decide) ?_ | (refine Duo.mk (by first | omega | exact rfl | decide) ?_; intros) | (refine Duo.mk (Clo.mk (by kernel_rfl)) ?_; intros)))
    rw [cmpE_neg, cmpE_zero]
    have toL : goL o z.B z.E fi = true → ∀ H, Sat H (pt fi.r (ndO fi fm (if fl then sr else fs.ref sr) (if fl then fs.ref sr else sr) (par sr k) fc) :: tr g o sr fi.r fs :: cx g o sr fi.r (some (Fr.mx o ⟨fi, fc, fl, fs⟩ none)) k :: pt z.r (ndO z z.j sr sr fi.r true) :: pt tp (treO (rootR k fi.r) n sr) :: pt sr senO :: has g :: l) → st1 H (Addr.add (aA fi.r) 4) (pA z.r) fun H6 => F142.L1 (some (aA tp)) (some (aA fi.r)) (some (aA z.r)) H6 R := by
      intro hg H S
      have e : fl = true := hfl.trans hg
      subst e
      (repeat (first | (refine Step.go ?_; intros) | refine iteB_t (by decide) ?_ | refine iteB_f (by decide) ?_ | (refine Duo.mk (by first | omega | exact rfl | decide) ?_; intros) | (refine Duo.mk (Clo.mk (by kernel_rfl)) ?_; intros)))
      rename_i H6 S6
      exact put_true hg H6 S6
    have toR : goL o z.B z.E fi = false → ∀ H, Sat H (pt fi.r (ndO fi fm (if fl then sr else fs.ref sr) (if fl then fs.ref sr else sr) (par sr k) fc) :: tr g o sr fi.r fs :: cx g o sr fi.r (some (Fr.mx o ⟨fi, fc, fl, fs⟩ none)) k :: pt z.r (ndO z z.j sr sr fi.r true) :: pt tp (treO (rootR k fi.r) n sr) :: pt sr senO :: has g :: l) → st1 H (Addr.add (aA fi.r) 5) (pA z.r) fun H6 => F142.L1 (some (aA tp)) (some (aA fi.r)) (some (aA z.r)) H6 R := by
      intro hg H S
      have e : fl = false := hfl.trans hg
      subst e
      (repeat (first | (refine Step.go ?_; intros) | refine iteB_t (by decide) ?_ | refine iteB_f (by decide) ?_ | (refine Duo.mk (by first | omega | exact rfl | decide) ?_; intros) | (refine Duo.mk (Clo.mk (by kernel_rfl)) ?_; intros)))
      rename_i H6 S6
      exact put_false hg H6 S6
    refine iteB_i (fun h => ?_) (fun h => ?_)
    · refine nilD_i ?_
      exact toL (by unfold goL; rw [h]; rfl) H2 S4
    refine iteB_i (fun h2 => ?_) (fun h2 => ?_)
    · rw [h] at h2
      have h3 : ltE o fi.B z.B = false := by simpa using h2
      (repeat (first | (refine Step.go ?_; intros) | refine iteB_t (by decide) ?_ | refine iteB_f (by decide) ?_ | (refine Duo.mk (by first | omega | exact rfl | decide) ?_; intros) | (refine Duo.mk (Clo.mk (by kernel_rfl)) ?_; intros)))
      refine nilV_of (hO.2.mk S4) ?_
      (repeat (first | (refine Step.go ?_; intros) | refine iteB_t (by decide) ?_ | refine iteB_f (by decide) ?_ | (refine Duo.mk (by first | omega | exact rfl | decide) ?_; intros) | (refine Duo.mk (Clo.mk (by kernel_rfl)) ?_; intros)))
      refine cmpG S4 hO.2 of.2 fun H3 S5 => ?_
      refine Step.go ?_
      rw [cmpE_neg]
      refine iteB_i (fun h4 => ?_) (fun h4 => ?_)
      · refine nilD_i ?_
        exact toL (by unfold goL; rw [h, h3, h4]; rfl) H3 S5
      · refine nilD_i ?_
        exact toR (by unfold goL; rw [h, h3, h4]; rfl) H3 S5
    · rw [h] at h2
      have h3 : ltE o fi.B z.B = true := by simpa using h2
      refine nilD_i ?_
      exact toR (by unfold goL; rw [h, h3]; rfl) H2 S4
  | node it c t1 t2 ih1 ih2 =>
    intro k H hk hr S fin
    have key : ∀ (H : Heap) (f : Fr) (t : Tr), f.fill t = .node it c t1 t2 → Sat H (tr g o sr (par sr k) (.node it c t1 t2) :: cx g o sr it.r (Tr.mx o (.node it c t1 t2)) k :: pt z.r (ndO z z.j sr sr sr true) :: pt tp (treO (rootR k it.r) n sr) :: pt sr senO :: has g :: l) →
        Sat H (tr g o sr it.r t :: cx g o sr (t.ref sr) (t.mx o) (f :: k) :: pt z.r (ndO z z.j sr sr sr true) :: pt tp (treO (rootR (f :: k) (t.ref sr)) n sr) :: pt sr senO :: has g :: l) := by
      intro H f t e S
      have hf : f.it = it := by
        unfold Fr.fill at e
        split at e <;> (cases e; rfl)
      have S1 := (zip_down (l := pt z.r (ndO z z.j sr sr sr true) :: pt tp (treO (rootR k it.r) n sr) :: pt sr senO :: has g :: l) (g := g) (o := o) (sr := sr) f k t)
      rw [e, hf] at S1
      have S2 := S.to S1
      show Sat H (tr g o sr it.r t :: cx g o sr (t.ref sr) (t.mx o) (f :: k) :: pt z.r (ndO z z.j sr sr sr true) :: pt tp (treO (rootR k f.it.r) n sr) :: pt sr senO :: has g :: l)
      rw [hf]
      exact S2
    have goLeft : goL o z.B z.E it = true → ∀ H, Sat H (tr g o sr (par sr k) (.node it c t1 t2) :: cx g o sr it.r (Tr.mx o (.node it c t1 t2)) k :: pt z.r (ndO z z.j sr sr sr true) :: pt tp (treO (rootR k it.r) n sr) :: pt sr senO :: has g :: l) →
        F142.L0 (some (aA tp)) (some (aA it.r)) (some (aA z.r)) (some (aA (t1.ref sr))) H R := by
      intro hg H S
      have hp : path o z.B z.E (.node it c t1 t2) k = path o z.B z.E t1 (⟨it, c, true, t2⟩ :: k) := by rw [path, if_pos hg]
      rw [hp] at hr fin
      exact ih1 (⟨it, c, true, t2⟩ :: k) H (fun f k' e => by cases e; exact hg.symm) hr (key H ⟨it, c, true, t2⟩ t1 rfl S) fin
    have goRight : goL o z.B z.E it = false → ∀ H, Sat H (tr g o sr (par sr k) (.node it c t1 t2) :: cx g o sr it.r (Tr.mx o (.node it c t1 t2)) k :: pt z.r (ndO z z.j sr sr sr true) :: pt tp (treO (rootR k it.r) n sr) :: pt sr senO :: has g :: l) →
        F142.L0 (some (aA tp)) (some (aA it.r)) (some (aA z.r)) (some (aA (t2.ref sr))) H R := by
      intro hg H S
      have hp : path o z.B z.E (.node it c t1 t2) k = path o z.B z.E t2 (⟨it, c, false, t1⟩ :: k) := by rw [path, if_neg (by rw [hg]; simp)]
      rw [hp] at hr fin
      exact ih2 (⟨it, c, false, t1⟩ :: k) H (fun f k' e => by cases e; exact hg.symm) hr (key H ⟨it, c, false, t1⟩ t2 rfl S) fin
    refine F142.L0_step ?_
    unfold F142.L0n
    dsimp only [Tr.ref]
    obtain ⟨im, oi, ni, hi, S1⟩ := tr_open S
    clear S
    have shut : ∀ H, Sat H (pt it.r (ndO it im (t1.ref sr) (t2.ref sr) (par sr k) c) :: tr g o sr it.r t1 :: tr g o sr it.r t2 :: cx g o sr it.r (Tr.mx o (.node it c t1 t2)) k :: pt z.r (ndO z z.j sr sr sr true) :: pt tp (treO (rootR k it.r) n sr) :: pt sr senO :: has g :: l) → _ := fun H S => S.to (tr_close oi ni hi)
    have S1 : Sat H (pt it.r (ndO it im (t1.ref sr) (t2.ref sr) (par sr k) c) :: tr g o sr it.r t1 :: tr g o sr it.r t2 :: cx g o sr it.r (Tr.mx o (.node it c t1 t2)) k :: pt z.r (ndO z z.j sr sr sr true) :: pt tp (treO (rootR k it.r) n sr) :: pt sr senO :: has g :: l) := S1
    (repeat (first | (refine Step.go ?_; intros) | refine iteB_t (by decide) ?_ | refine iteB_f (by decide) ?_ | (refine Duo.mk (by first | omega | exact rfl | decide) ?_; intros) | (refine Duo.mk (Clo.mk (by kernel_rfl)) ?_; intros)))
    refine pq_ne ni S1.obj S1.obj ?_
    (repeat (first | (refine Step.go ?_; intros) | refine iteB_t (by decide) ?_ | refine iteB_f (by decide) ?_ | (refine Duo.mk (by first | omega | exact rfl | decide) ?_; intros) | (refine Duo.mk (Clo.mk (by kernel_rfl)) ?_; intros)))
    refine nilV_of (hO.1.mk S1) ?_
    (repeat (first | (refine Step.go ?_; intros) | refine iteB_t (by decide) ?_ | refine iteB_f (by decide) ?_ | (refine Duo.mk (by first | omega | exact rfl | decide) ?_; intros) | (refine Duo.mk (Clo.mk (by kernel_rfl)) ?_; intros)))
    refine cmpG S1 hO.1 oi.1 fun H1 S2 => ?_
    (repeat (first | (refine Step.go ?_; intros) | refine iteB_t (by decide) ?_ | refine iteB_f (by decide) ?_ | (refine Duo.mk (by first | omega | exact rfl | decide) ?_; intros) | (refine Duo.mk (Clo.mk (by kernel_rfl)) ?_; intros)))
    rw [cmpE_neg, cmpE_zero]
    refine iteB_i (fun h => ?_) (fun h => ?_)
    · (repeat (first | (refine Step.go ?_; intros) | refine iteB_t (by decide) ?_ | refine iteB_f (by decide) ?_ | (refine Duo.mk (by first | omega | exact rfl | decide) ?_; intros) | (refine Duo.mk (Clo.mk (by kernel_rfl)) ?_; intros)))
      exact goLeft (by unfold goL; rw [h]; rfl) H1 (shut H1 S2)
    refine iteB_i (fun h2 => ?_) (fun h2 => ?_)
    · rw [h] at h2
      have h3 : ltE o it.B z.B = false := by simpa using h2
      (repeat (first | (refine Step.go ?_; intros) | refine iteB_t (by decide) ?_ | refine iteB_f (by decide) ?_ | (refine Duo.mk (by first | omega | exact rfl | decide) ?_; intros) | (refine Duo.mk (Clo.mk (by kernel_rfl)) ?_; intros)))
      refine nilV_of (hO.2.mk S2) ?_
      (repeat (first | (refine Step.go ?_; intros) | refine iteB_t (by decide) ?_ | refine iteB_f (by decide) ?_ | (refine Duo.mk (by first | omega | exact rfl | decide) ?_; intros) | (refine Duo.mk (Clo.mk (by kernel_rfl)) ?_; intros)))
      refine cmpG S2 hO.2 oi.2 fun H2 S3 => ?_
      (repeat (first | (refine Step.go ?_; intros) | refine iteB_t (by decide) ?_ | refine iteB_f (by decide) ?_ | (refine Duo.mk (by first | omega | exact rfl | decide) ?_; intros) | (refine Duo.mk (Clo.mk (by kernel_rfl)) ?_; intros)))
      rw [cmpE_neg]
      refine iteB_i (fun h4 => ?_) (fun h4 => ?_)
      · (repeat (first | (refine Step.go ?_; intros) | refine iteB_t (by decide) ?_ | refine iteB_f (by decide) ?_ | (refine Duo.mk (by first | omega | exact rfl | decide) ?_; intros) | (refine Duo.mk (Clo.mk (by kernel_rfl)) ?_; intros)))
        exact goLeft (by unfold goL; rw [h, h3, h4]; rfl) H2 (shut H2 S3)
      · (repeat (first | (refine Step.go ?_; intros) | refine iteB_t (by decide) ?_ | refine iteB_f (by decide) ?_ | (refine Duo.mk (by first | omega | exact rfl | decide) ?_; intros) | (refine Duo.mk (Clo.mk (by kernel_rfl)) ?_; intros)))
        exact goRight (by unfold goL; rw [h, h3, h4]; rfl) H2 (shut H2 S3)
    · rw [h] at h2
      have h3 : ltE o it.B z.B = true := by simpa using h2
      (repeat (first | (refine Step.go ?_; intros) | refine iteB_t (by decide) ?_ | refine iteB_f (by decide) ?_ | (refine Duo.mk (by first | omega | exact rfl | decide) ?_; intros) | (refine Duo.mk (Clo.mk (by kernel_rfl)) ?_; intros)))
      exact goRight (by unfold goL; rw [h, h3]; rfl) H1 (shut H1 S2)
end
end Go.Proofs.Ytobolifgehagfaa
