/- What functions of this seat do, each proved by a walk; no condition. -/
import Derived.Test.YtjdaencapbjmdaaSB
import Derived.Test.YtjdaencapbjmdaaDen4
set_option linter.unusedVariables false
set_option linter.unusedSimpArgs false
set_option linter.unnecessarySimpa false
namespace Go.Proofs.Ytjdaencapbjmdaa
open Go Go.Den Go.Proofs
theorem wr {i : Int} (h0 : -9223372036854775808 ≤ i) (h1 : i < 9223372036854775808) : IntKind.wrap .i64 i = i := wr64 h0 h1
/-! Ends of intervals. -/
theorem bl_cmp : ∀ (a b : List UInt8), (Lib.compareBytes a b < 0 ↔ Op.bytesLess a b = true) ∧ (Lib.compareBytes a b = 0 ↔ a = b)
  | [], [] => by simp [Lib.compareBytes, Op.bytesLess]
  | [], _ :: _ => by simp [Lib.compareBytes, Op.bytesLess]
  | _ :: _, [] => by simp [Lib.compareBytes, Op.bytesLess]
  | x :: a, y :: b => by
    obtain ⟨h1, h2⟩ := bl_cmp a b
    unfold Lib.compareBytes Op.bytesLess
    rcases Nat.lt_trichotomy x.toNat y.toNat with h | h | h
    · have hlt : x < y := h
      rw [if_pos hlt]
      have hne : x ≠ y := by intro e; subst e; omega
      simp [hlt, hne]
    · have he : x = y := UInt8.toNat.inj h
      subst he
      simp only [UInt8.lt_irrefl, if_false, decide_false, Bool.false_or, BEq.rfl, Bool.true_and, List.cons.injEq, true_and]
      exact ⟨h1, h2⟩
    · have hgt : y < x := h
      have hn : ¬ x < y := by intro hh; have : x.toNat < y.toNat := hh; omega
      have hne : x ≠ y := by intro e; subst e; omega
      rw [if_neg hn, if_pos hgt]
      simp [hn, hne]
theorem bl_flip : ∀ (a b : List UInt8), Op.bytesLess b a = (!Op.bytesLess a b && !(a == b))
  | [], [] => by simp [Op.bytesLess]
  | [], _ :: _ => by simp [Op.bytesLess]
  | _ :: _, [] => by simp [Op.bytesLess]
  | x :: a, y :: b => by
    have ih := bl_flip a b
    unfold Op.bytesLess
    rcases Nat.lt_trichotomy x.toNat y.toNat with h | h | h
    · have hlt : x < y := h
      have hn : ¬ y < x := by intro hh; have : y.toNat < x.toNat := hh; omega
      have hne : ¬ x = y := by intro e; subst e; omega
      have hne' : ¬ y = x := fun e => hne e.symm
      simp [hlt, hn, hne, hne']
    · have he : x = y := UInt8.toNat.inj h
      subst he
      simp [UInt8.lt_irrefl, ih]
    · have hgt : y < x := h
      have hn : ¬ x < y := by intro hh; have : x.toNat < y.toNat := hh; omega
      have hne : ¬ x = y := by intro e; subst e; omega
      simp [hn, hgt, hne]
theorem ltS_cmp (a b : ByteArray) : decide (Lib.compareBytes a.data.toList b.data.toList < 0) = ltS a b := by
  unfold ltS
  rw [ByteArray.toList_eq, ByteArray.toList_eq, Bool.eq_iff_iff, decide_eq_true_iff]
  exact (bl_cmp _ _).1
theorem ltS_flip (a b : ByteArray) : (!(ltS a b || eqS a b)) = ltS b a := by
  unfold ltS eqS
  rw [bl_flip a.toList b.toList, Bool.not_or]
theorem ltS_asymm {a b : ByteArray} (h : ltS a b = true) : ltS b a = false := by
  have := ltS_flip b a
  rw [h] at this
  cases hb : ltS b a with
  | false => rfl
  | true => rw [hb] at this; simp at this

theorem bl_trans : ∀ (a b c : List UInt8), Op.bytesLess a b = true → Op.bytesLess c b = false → Op.bytesLess a c = true
  | [], [], _, h, _ => by simp [Op.bytesLess] at h
  | [], _ :: _, [], _, h => by simp [Op.bytesLess] at h
  | [], _ :: _, _ :: _, _, _ => by simp [Op.bytesLess]
  | _ :: _, [], _, h, _ => by simp [Op.bytesLess] at h
  | _ :: _, _ :: _, [], _, h => by simp [Op.bytesLess] at h
  | x :: a, y :: b, z :: c, h1, h2 => by
    unfold Op.bytesLess at h1 h2 ⊢
    simp only [Bool.or_eq_true, Bool.and_eq_true, decide_eq_true_eq, beq_iff_eq, Bool.or_eq_false_iff, decide_eq_false_iff_not, Bool.and_eq_false_iff, beq_eq_false_iff_ne] at h1 h2 ⊢
    obtain ⟨h2, h3⟩ := h2
    have l : ∀ u v : UInt8, u < v ↔ u.toNat < v.toNat := fun u v => Iff.rfl
    rw [l] at h1 h2 ⊢
    rcases h1 with h1 | ⟨rfl, h1⟩
    · left; omega
    · by_cases hz : x.toNat < z.toNat
      · exact .inl hz
      · have e : x = z := UInt8.toNat.inj (by omega)
        subst e
        right
        refine ⟨rfl, bl_trans a b c h1 ?_⟩
        rcases h3 with h3 | h3
        · exact absurd rfl h3
        · cases hb : Op.bytesLess c b with
          | false => rfl
          | true => rw [hb] at h3; simp at h3
theorem ltS_trans {a b c : ByteArray} (h1 : ltS a b = true) (h2 : ltS c b = false) : ltS a c = true := bl_trans _ _ _ h1 h2
theorem eqS_nil (a : ByteArray) : eqS a (ByteArray.mk #[]) = decide (a.size = 0) := by
  unfold eqS
  rw [ByteArray.toList_eq, ByteArray.toList_eq, Bool.eq_iff_iff, decide_eq_true_iff, beq_iff_eq]
  obtain ⟨⟨l⟩⟩ := a
  show l = [] ↔ l.length = 0
  rw [List.length_eq_zero_iff]
theorem ltS_nil (a : ByteArray) (h : a.size = 0) (b : ByteArray) : ltS b a = false := by
  unfold ltS
  rw [ByteArray.toList_eq, ByteArray.toList_eq]
  obtain ⟨⟨l⟩⟩ := a
  have : l = [] := List.length_eq_zero_iff.1 h
  subst this
  show Op.bytesLess b.data.toList [] = false
  cases b.data.toList <;> rfl
abbrev EN := ByteArray × Int
/-- One end stands ahead of another one, by an order. -/
def ltE (o : Int) (x y : EN) : Bool := if o = 3 then decide (x.2 < y.2) else if o ≠ 0 ∧ ¬ (x.1.size = 0 ↔ y.1.size = 0) then decide (y.1.size = 0) else ltS x.1 y.1
def cmpE (o : Int) (x y : EN) : Int := if ltE o x y then -1 else if ltE o y x then 1 else 0
theorem ltE_asymm {o : Int} {x y : EN} (h : ltE o x y = true) : ltE o y x = false := by
  unfold ltE at h ⊢
  by_cases h3 : o = 3
  · rw [if_pos h3] at h ⊢
    have := of_decide_eq_true h
    exact decide_eq_false (by omega)
  · rw [if_neg h3] at h ⊢
    by_cases hm : o ≠ 0 ∧ ¬ (x.1.size = 0 ↔ y.1.size = 0)
    · rw [if_pos hm] at h
      rw [if_pos ⟨hm.1, fun e => hm.2 e.symm⟩]
      have h := of_decide_eq_true h
      refine decide_eq_false (fun e => hm.2 ⟨fun _ => h, fun _ => e⟩)
    · rw [if_neg hm] at h
      rw [if_neg (fun e => hm ⟨e.1, fun e2 => e.2 e2.symm⟩)]
      exact ltS_asymm h
theorem ltE_trans {o : Int} {x y z : EN} (h1 : ltE o x y = true) (h2 : ltE o z y = false) : ltE o x z = true := by
  unfold ltE at h1 h2 ⊢
  by_cases h3 : o = 3
  · rw [if_pos h3] at h1 h2 ⊢
    have := of_decide_eq_true h1
    have := of_decide_eq_false h2
    exact decide_eq_true (by omega)
  · rw [if_neg h3] at h1 h2 ⊢
    by_cases h0 : o = 0
    · have e : ∀ u v : EN, ¬ (o ≠ 0 ∧ ¬ (u.1.size = 0 ↔ v.1.size = 0)) := fun u v h => h.1 h0
      rw [if_neg (e _ _)] at h1 h2 ⊢
      exact ltS_trans h1 h2
    · have e : ∀ u v : EN, (o ≠ 0 ∧ ¬ (u.1.size = 0 ↔ v.1.size = 0)) ↔ ¬ (u.1.size = 0 ↔ v.1.size = 0) := fun u v => ⟨fun h => h.2, fun h => ⟨h0, h⟩⟩
      simp only [e] at h1 h2 ⊢
      by_cases hx : x.1.size = 0
      · by_cases hy : y.1.size = 0
        · rw [if_neg (by simp [hx, hy])] at h1
          rw [ltS_nil _ hy] at h1; cases h1
        · rw [if_pos (by simp [hx, hy])] at h1
          exact absurd (of_decide_eq_true h1) hy
      · by_cases hz : z.1.size = 0
        · rw [if_pos (by simp [hx, hz])]
          exact decide_eq_true hz
        · rw [if_neg (by simp [hx, hz])]
          by_cases hy : y.1.size = 0
          · rw [if_pos (by simp [hz, hy])] at h2
            exact absurd hy (of_decide_eq_false h2)
          · rw [if_neg (by simp [hx, hy])] at h1
            rw [if_neg (by simp [hz, hy])] at h2
            exact ltS_trans h1 h2
section
variable {H : Heap}
theorem ends_ok (o : Int) (s t : ByteArray) (a b : Int) : CallsH Try.prog 16 ⟨[.int .i64 o, .string s, .string t, .int .i64 a, .int .i64 b]⟩ H (Gives (.int .i64 (cmpE o (s, a) (t, b))) H) := by
  have l1 : ∀ less more, less = ltE o (s, a) (t, b) → more = ltE o (t, b) (s, a) → F16.L1 less more H (Gives (.int .i64 (cmpE o (s, a) (t, b))) H) := by
    rintro less more rfl rfl
    refine F16.L1_step ?_
    unfold F16.L1n
    unfold cmpE
    refine iteB_i (fun h => ?_) (fun h => ?_)
    · rw [if_pos h]; exact ⟨rfl, ExtH.refl H⟩
    · rw [if_neg (by rw [h]; simp)]
      refine iteB_i (fun h => ?_) (fun h => ?_)
      · rw [if_pos h]; exact ⟨rfl, ExtH.refl H⟩
      · rw [if_neg (by rw [h]; simp)]; exact ⟨rfl, ExtH.refl H⟩
  refine F16.calls ?_
  unfold F16.go
  refine iteB_i (fun h => ?_) (fun h => ?_)
  · have h := eq_of_beq h
    refine l1 _ _ ?_ ?_
    · unfold ltE; rw [if_pos h]
    · unfold ltE; rw [if_pos h]
  have h : ¬ o = 3 := by simpa using h
  refine iteB_i (fun h0 => ?_) (fun h0 => ?_)
  · have h0 : ¬ o = 0 := by simpa using h0
    rw [eqS_nil, eqS_nil]
    refine iteB_i (fun hm => ?_) (fun hm => ?_)
    · have hm : ¬ (s.size = 0 ↔ t.size = 0) := by
        intro e
        have hd : decide (s.size = 0) = decide (t.size = 0) := by rw [Bool.eq_iff_iff, decide_eq_true_iff, decide_eq_true_iff]; exact e
        rw [hd] at hm
        simp at hm
      refine F16.L0_step ?_
      unfold F16.L0n
      rw [eqS_nil, eqS_nil]
      refine l1 _ _ ?_ ?_
      · unfold ltE; rw [if_neg h, if_pos ⟨h0, hm⟩]
      · unfold ltE; rw [if_neg h, if_pos ⟨h0, fun e => hm e.symm⟩]
    · have hm : (s.size = 0 ↔ t.size = 0) := by simpa using hm
      refine l1 _ _ ?_ ?_
      · unfold ltE; rw [if_neg h, if_neg (fun e => e.2 hm)]
      · unfold ltE; rw [if_neg h, if_neg (fun e => e.2 hm.symm)]; exact ltS_flip s t
  · have h0 : o = 0 := by simpa using h0
    refine l1 _ _ ?_ ?_
    · unfold ltE; rw [if_neg h, if_neg (fun e => e.1 h0)]
    · unfold ltE; rw [if_neg h, if_neg (fun e => e.1 h0)]; exact ltS_flip s t
/-! Spans. -/
structure SP where
  b : ByteArray
  e : ByteArray
  p : Bool
  f : Int
  t : Int
abbrev SP.cells (s : SP) : List Value := [.string s.b, .string s.e, .bool s.p, .int .i64 s.f, .int .i64 s.t]
def SP.end_ (s : SP) : ByteArray := if s.p then s.b ++ ⟨#[0]⟩ else s.e
def SP.B (s : SP) : EN := (s.b, s.f)
def SP.E (s : SP) : EN := (s.end_, s.t)
def plainS (s : SP) : SP := ⟨s.b, s.end_, false, s.f, s.t⟩
def Sz (s : SP) : Prop := s.b.size ≤ 2147483647 ∧ s.e.size ≤ 2147483647
theorem cat_size (a : ByteArray) : (a ++ (⟨#[0]⟩ : ByteArray)).size = a.size + 1 := by rw [ByteArray.size_append]; rfl
theorem plain_ok {b e : ByteArray} {p : Bool} {f t : Int} (hb : b.size ≤ 2147483647) : CallsH Try.prog 15 ⟨[.agg ⟨[.string b, .string e, .bool p, .int .i64 f, .int .i64 t]⟩]⟩ H (Gives (.agg ⟨(plainS ⟨b, e, p, f, t⟩).cells⟩) H) := by
  have S := Sat.start H
  refine F15.calls ?_
  unfold F15.go
  unfold plainS SP.end_
  (repeat (first | (refine Step.go ?_; intros) | refine iteB_t (by decide) ?_ | refine iteB_f (by decide) ?_ | (refine Duo.mk (by first | omega | exact rfl | decide) ?_; intros) | (refine Duo.mk (Clo.mk (by kernel_rfl)) ?_; intros)))
  refine iteB_i (fun h => ?_) (fun h => ?_)
  · subst h
    (repeat (first | (refine Step.go ?_; intros) | refine iteB_t (by decide) ?_ | refine iteB_f (by decide) ?_ | (refine Duo.mk (by first | omega | exact rfl | decide) ?_; intros) | (refine Duo.mk (Clo.mk (by kernel_rfl)) ?_; intros)))
    refine ⟨by show ((b.size + 1 : Nat) : Int) ≤ 9223372036854775807; omega, ?_⟩
    (repeat (first | (refine Step.go ?_; intros) | refine iteB_t (by decide) ?_ | refine iteB_f (by decide) ?_ | (refine Duo.mk (by first | omega | exact rfl | decide) ?_; intros) | (refine Duo.mk (Clo.mk (by kernel_rfl)) ?_; intros)))
    exact ⟨rfl, Sat.grown⟩
  · subst h
    (repeat (first | (refine Step.go ?_; intros) | refine iteB_t (by decide) ?_ | refine iteB_f (by decide) ?_ | (refine Duo.mk (by first | omega | exact rfl | decide) ?_; intros) | (refine Duo.mk (Clo.mk (by kernel_rfl)) ?_; intros)))
    exact ⟨rfl, Sat.grown⟩
theorem proper_ok {o : Int} (s : SP) (hs : Sz s) : CallsH Try.prog 17 ⟨[.int .i64 o, .agg ⟨s.cells⟩]⟩ H (Gives (.bool (ltE o s.B s.E)) H) := by
  have S := Sat.start H
  refine F17.calls ?_
  unfold F17.go
  (repeat (first | (refine Step.go ?_; intros) | refine iteB_t (by decide) ?_ | refine iteB_f (by decide) ?_ | (refine Duo.mk (by first | omega | exact rfl | decide) ?_; intros) | (refine Duo.mk (Clo.mk (by kernel_rfl)) ?_; intros)))
  rename_i r H1 S1
  refine gives_i S1 (plain_ok hs.1) ?_
  intro H2 E2 S2
  (repeat (first | (refine Step.go ?_; intros) | refine iteB_t (by decide) ?_ | refine iteB_f (by decide) ?_ | (refine Duo.mk (by first | omega | exact rfl | decide) ?_; intros) | (refine Duo.mk (Clo.mk (by kernel_rfl)) ?_; intros)))
  rename_i r2 H3 S3
  refine gives_i (by assumption) (ends_ok o s.b s.end_ s.f s.t) ?_
  intro H4 E4 S4
  (repeat (first | (refine Step.go ?_; intros) | refine iteB_t (by decide) ?_ | refine iteB_f (by decide) ?_ | (refine Duo.mk (by first | omega | exact rfl | decide) ?_; intros) | (refine Duo.mk (Clo.mk (by kernel_rfl)) ?_; intros)))
  refine ⟨?_, Sat.grown⟩
  unfold cmpE
  show Ending.returned (.bool (decide ((if ltE o s.B s.E = true then (-1 : Int) else if ltE o s.E s.B = true then 1 else 0) < 0))) = _
  cases h : ltE o s.B s.E with
  | true => simp
  | false => simp only [Bool.false_eq_true, if_false]; split <;> simp
end
end Go.Proofs.Ytjdaencapbjmdaa
