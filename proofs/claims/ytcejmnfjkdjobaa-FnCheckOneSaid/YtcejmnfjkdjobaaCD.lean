/- What functions of this seat do, each proved by a walk; no condition. -/
import Derived.Test.YtcejmnfjkdjobaaCC
set_option linter.unusedVariables false
set_option linter.unusedSimpArgs false
set_option linter.unnecessarySimpa false
namespace Go.Proofs.Ytcejmnfjkdjobaa
open Go Go.Den Go.Proofs
/-! Orders. -/
theorem bl_cmp : ∀ (a b : List UInt8), (Lib.compareBytes a b < 0 ↔ Op.bytesLess a b = true) ∧ (Lib.compareBytes a b = 0 ↔ a = b)
  | [], [] => by simp [Lib.compareBytes, Op.bytesLess]
  | [], _ :: _ => by simp [Lib.compareBytes, Op.bytesLess]
  | _ :: _, [] => by simp [Lib.compareBytes, Op.bytesLess]
  | x :: a, y :: b => by
    obtain ⟨h1, h2⟩ := bl_cmp a b
    unfold Lib.compareBytes Op.bytesLess
    rcases Nat.lt_trichotomy x.toNat y.toNat with h | h | h
    · have hlt : x < y := h
      rw [if_pos hlt]
      have hne : x ≠ y := by intro e; subst e; omega
      simp [hlt, hne]
    · have he : x = y := UInt8.toNat.inj h
      subst he
      simp only [UInt8.lt_irrefl, if_false, decide_false, Bool.false_or, BEq.rfl, Bool.true_and, List.cons.injEq, true_and]
      exact ⟨h1, h2⟩
    · have hgt : y < x := h
      have hn : ¬ x < y := by intro hh; have : x.toNat < y.toNat := hh; omega
      have hne : x ≠ y := by intro e; subst e; omega
      rw [if_neg hn, if_pos hgt]
      simp [hn, hne]
theorem bl_flip : ∀ (a b : List UInt8), Op.bytesLess b a = (!Op.bytesLess a b && !(a == b))
  | [], [] => by simp [Op.bytesLess]
  | [], _ :: _ => by simp [Op.bytesLess]
  | _ :: _, [] => by simp [Op.bytesLess]
  | x :: a, y :: b => by
    have ih := bl_flip a b
    unfold Op.bytesLess
    rcases Nat.lt_trichotomy x.toNat y.toNat with h | h | h
    · have hlt : x < y := h
      have hn : ¬ y < x := by intro hh; have : y.toNat < x.toNat := hh; omega
      have hne : ¬ x = y := by intro e; subst e; omega
      have hne' : ¬ y = x := fun e => hne e.symm
      simp [hlt, hn, hne, hne']
    · have he : x = y := UInt8.toNat.inj h
      subst he
      simp [UInt8.lt_irrefl, ih]
    · have hgt : y < x := h
      have hn : ¬ x < y := by intro hh; have : x.toNat < y.toNat := hh; omega
      have hne : ¬ x = y := by intro e; subst e; omega
      simp [hn, hgt, hne]
theorem ltS_cmp (a b : ByteArray) : decide (Lib.compareBytes a.data.toList b.data.toList < 0) = ltS a b := by
  unfold ltS
  rw [ByteArray.toList_eq, ByteArray.toList_eq, Bool.eq_iff_iff, decide_eq_true_iff]
  exact (bl_cmp _ _).1
theorem ltS_flip (a b : ByteArray) : (!(ltS a b || eqS a b)) = ltS b a := by
  unfold ltS eqS
  rw [bl_flip a.toList b.toList, Bool.not_or]
def numO (a b : Int) : Int := if a < b then -1 else if a > b then 1 else 0
def txtO (a b : ByteArray) : Int := if ltS a b then -1 else if ltS b a then 1 else 0
def ordK (a b : KV) (t : Int) : Int := if t = 1 then numO a.ver b.ver else if t = 2 then numO a.cr b.cr else if t = 3 then numO a.md b.md else if t = 4 then txtO a.val b.val else txtO a.key b.key
/-- Whether the first one stands ahead, by a target. -/
def ahead (t : Int) (a b : KV) : Bool := if t = 1 then decide (a.ver < b.ver) else if t = 2 then decide (a.cr < b.cr) else if t = 3 then decide (a.md < b.md) else if t = 4 then ltS a.val b.val else ltS a.key b.key
theorem ltS_asymm {a b : ByteArray} (h : ltS a b = true) : ltS b a = false := by
  have := ltS_flip b a
  rw [h] at this
  cases hb : ltS b a with
  | false => rfl
  | true => rw [hb] at this; simp at this
theorem ord_neg {t : Int} {a b : KV} : decide (ordK a b t < 0) = ahead t a b := by
  unfold ordK ahead numO txtO
  by_cases h1 : t = 1
  · simp only [h1, if_true]; split <;> (try split) <;> simp_all
  by_cases h2 : t = 2
  · simp only [h1, h2, if_true, if_false]; simp; split <;> (try split) <;> simp_all
  by_cases h3 : t = 3
  · simp only [h1, h2, h3, if_true, if_false]; simp; split <;> (try split) <;> simp_all
  by_cases h4 : t = 4
  · simp only [h1, h2, h3, h4, if_true, if_false]; simp; split <;> (try split) <;> simp_all
  · simp only [h1, h2, h3, h4, if_false]; split <;> (try split) <;> simp_all
theorem ord_pos {t : Int} {a b : KV} : decide (0 < ordK a b t) = ahead t b a := by
  unfold ordK ahead numO txtO
  by_cases h1 : t = 1
  · simp only [h1, if_true]; split <;> (try split) <;> simp_all <;> omega
  by_cases h2 : t = 2
  · simp only [h1, h2, if_true, if_false]; simp; split <;> (try split) <;> simp_all <;> omega
  by_cases h3 : t = 3
  · simp only [h1, h2, h3, if_true, if_false]; simp; split <;> (try split) <;> simp_all <;> omega
  by_cases h4 : t = 4
  · simp only [h1, h2, h3, h4, if_true, if_false]; simp
    split
    · rename_i h; simp [ltS_asymm h]
    · split <;> simp_all
  · simp only [h1, h2, h3, h4, if_false]
    split
    · rename_i h; simp [ltS_asymm h]
    · split <;> simp_all
/-- One is put in, from behind. -/
def sink {α : Type} (lt : α → α → Bool) (x : α) : List α → List α → List α
  | [], B => x :: B
  | y :: R, B => if lt x y then sink lt x R (y :: B) else R.reverse ++ y :: x :: B
def isort {α : Type} (lt : α → α → Bool) : List α → List α → List α
  | S, [] => S
  | S, x :: r => isort lt (sink lt x S.reverse []) r
theorem sink_len {α : Type} {lt : α → α → Bool} {x : α} : ∀ {R B : List α}, (sink lt x R B).length = R.length + B.length + 1
  | [], B => by simp [sink]
  | y :: R, B => by
    unfold sink
    split
    · rw [sink_len]; simp; omega
    · simp; omega
theorem sink_mem {α : Type} {lt : α → α → Bool} {x z : α} : ∀ {R B : List α}, z ∈ sink lt x R B → z = x ∨ z ∈ R ∨ z ∈ B
  | [], B, h => by simp [sink] at h; rcases h with h | h; exact .inl h; exact .inr (.inr h)
  | y :: R, B, h => by
    unfold sink at h
    split at h
    · rcases sink_mem h with h | h | h
      · exact .inl h
      · exact .inr (.inl (List.mem_cons_of_mem _ h))
      · rcases List.mem_cons.1 h with rfl | h
        · exact .inr (.inl (List.mem_cons_self ..))
        · exact .inr (.inr h)
    · simp at h
      rcases h with h | rfl | rfl | h
      · exact .inr (.inl (List.mem_cons_of_mem _ h))
      · exact .inr (.inl (List.mem_cons_self ..))
      · exact .inl rfl
      · exact .inr (.inr h)
theorem sink_map {α β : Type} {f : α → β} {lt : α → α → Bool} {lu : β → β → Bool} (h : ∀ a b, lt a b = lu (f a) (f b)) {x : α} : ∀ {R B : List α}, (sink lt x R B).map f = sink lu (f x) (R.map f) (B.map f)
  | [], B => by simp [sink]
  | y :: R, B => by
    unfold sink
    simp only [List.map_cons]
    rw [← h]
    split
    · rw [sink_map h]; rfl
    · simp
theorem isort_map {α β : Type} {f : α → β} {lt : α → α → Bool} {lu : β → β → Bool} (h : ∀ a b, lt a b = lu (f a) (f b)) : ∀ {X S : List α}, (isort lt S X).map f = isort lu (S.map f) (X.map f)
  | [], S => rfl
  | x :: X, S => by
    unfold isort
    rw [isort_map h, sink_map h]
    simp only [List.map_cons, List.map_reverse, List.map_nil]
theorem isort_id {α : Type} {lt : α → α → Bool} : ∀ {X S : List α}, ((S ++ X).Pairwise fun a b => lt b a = false) → isort lt S X = S ++ X
  | [], S, _ => by simp [isort]
  | x :: X, S, h => by
    unfold isort
    have e : sink lt x S.reverse [] = S ++ [x] := by
      rcases List.eq_nil_or_concat S with rfl | ⟨S0, y, rfl⟩
      · rfl
      · rw [List.concat_eq_append] at *
        rw [List.reverse_append]
        simp only [List.reverse_cons, List.reverse_nil, List.nil_append, List.cons_append]
        unfold sink
        have : lt x y = false := by
          rw [List.pairwise_append] at h
          exact h.2.2 y (by simp) x (by simp)
        rw [this]
        simp
    rw [e, isort_id (by simpa using h)]
    simp
end Go.Proofs.Ytcejmnfjkdjobaa
