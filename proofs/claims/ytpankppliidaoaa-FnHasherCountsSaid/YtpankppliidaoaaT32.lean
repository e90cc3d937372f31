/- What functions of this seat do, each proved by a walk; no condition. -/
import Derived.Test.YtpankppliidaoaaT4
import Derived.Test.YtpankppliidaoaaDenF
import Derived.Test.YtpankppliidaoaaDenG
set_option linter.unusedVariables false
set_option linter.unusedSimpArgs false
namespace Go.Proofs.Ytpankppliidaoaa
open Go Go.Den Go.Proofs
/-! Rows as bytes. -/
def u8v (xs : List Int) : List Value := xs.map fun n => .int .u8 n
/-- A number as the store writes it, seven bits at a time. -/
def vint : Nat → Int → List Int
  | 0, _ => []
  | f + 1, n => if n ≥ 128 then orZ .u8 (IntKind.wrap .u8 n) 128 :: vint f (shrZ .u64 n 7) else [IntKind.wrap .u8 n]
theorem vint_len : ∀ (f : Nat) (n : Int), (vint f n).length ≤ f := by
  intro f
  induction f with
  | zero => intro n; simp [vint]
  | succ f ih =>
    intro n
    unfold vint
    split
    · simp only [List.length_cons]; have := ih (shrZ .u64 n 7); omega
    · simp
theorem shr7 {n : Int} (h : 0 ≤ n) : shrZ .u64 n (7 : Int) = n / 128 := by
  show n.fdiv (2 ^ (min (7 : Int).toNat 64)) = _
  have : (2 : Int) ^ (min (7 : Int).toNat 64) = 128 := by decide
  rw [this, Int.fdiv_eq_ediv_of_nonneg _ (by omega)]
section
variable {F : Heap} {S : Nat → Prop} {b : List Bk}
theorem u8v_cell {xs : List Int} {v : Value} (h : v ∈ u8v xs) : isCell v = true := by
  simp [u8v] at h; obtain ⟨a, _, rfl⟩ := h; rfl
/-- What a writer of bytes gives: more bytes. -/
def More (F : Heap) (S : Nat → Prop) (b : List Bk) (xs : List Int) : Ending → Heap → Prop := fun e H1 => ∃ q' qc', e = .returned (.slice q' xs.length qc') ∧ Grow F S H1 b 5 1 q' xs.length qc' (u8v xs)
/-- One byte at the end. -/
theorem one_byte {H : Heap} {q : Option Addr} {qc : Nat} {xs : List Int} {x : Int} {K : Option Addr → Nat → Nat → Heap → Prop} (g : Grow F S H b 5 1 q xs.length qc (u8v xs)) (hl : xs.length ≤ 1000000)
    (k : ∀ q' qc' H1, Grow F S H1 b 5 1 q' (xs ++ [x]).length qc' (u8v (xs ++ [x])) → K q' (xs ++ [x]).length qc' H1) :
    newD H (.cells ⟨[.int .u8 x]⟩ 5) fun r H1 => apD H1 1 1 [.int .u8 0] 5 q xs.length qc (some ⟨r, 0, none⟩) 1 K := by
  refine g.new ?_
  intro r H1 hr E g1
  have hb := (g1.st.own 0 _ _ rfl).2
  refine ⟨[.int .u8 x], rfl, fun j v hj => ⟨_, rfl, ?_⟩, ?_⟩
  · rw [add_mk, Nat.zero_add]; exact hcell_of hb hj
  refine Grow.app g1 rfl (by decide) (by omega) rfl (by decide) (by intro v hv; simp at hv; subst hv; rfl) ?_
  intro q' qc' H2 g2 _
  have := k q' qc' H2 (by simpa [u8v] using g2.tail)
  simpa using this
theorem varint_loop : ∀ (f : Nat) (n : Int) (xs : List Int) (H : Heap) (q : Option Addr) (qc : Nat), 0 ≤ n → n < 128 ^ f → 0 < f → f ≤ 10 → xs.length + f ≤ 900000 → Grow F S H b 5 1 q xs.length qc (u8v xs) →
    F103.L0 q xs.length qc n H (More F S b (xs ++ vint f n)) := by
  intro f
  induction f with
  | zero => intro n xs H q qc _ _ h; omega
  | succ f ih =>
    intro n xs H q qc h0 h1 _ h10 hl g
    refine F103.L0_step ?_
    unfold F103.L0n vint
    refine iteB_i (fun hc => ?_) (fun hc => ?_)
    · have hc' : n ≥ 128 := by simpa using hc
      rw [if_pos hc']
      refine one_byte g (by omega) ?_
      intro q' qc' H1 g1
      refine ⟨by omega, ?_⟩
      rw [shr7 h0]
      have hf : 0 < f := by
        rcases Nat.eq_zero_or_pos f with h | h
        · subst h; simp at h1; omega
        · exact h
      have hn : n / 128 < 128 ^ f := by
        have : (128 : Int) ^ (f + 1) = 128 ^ f * 128 := Int.pow_succ ..
        omega
      have := ih (n / 128) (xs ++ [orZ .u8 (IntKind.wrap .u8 n) 128]) H1 q' qc' (by omega) hn hf (by omega) (by simp; omega) g1
      simpa using this
    · have hc' : ¬ n ≥ 128 := by simpa using hc
      rw [if_neg hc']
      refine one_byte g (by omega) ?_
      intro q' qc' H1 g1
      exact ⟨q', qc', rfl, g1⟩
theorem varint_ok (n : Int) (xs : List Int) (H : Heap) (q : Option Addr) (qc : Nat) (h0 : 0 ≤ n) (h1 : n < 18446744073709551616) (hl : xs.length ≤ 800000) (g : Grow F S H b 5 1 q xs.length qc (u8v xs)) :
    CallsH Try.prog 103 ⟨[.slice q xs.length qc, .int .u64 n]⟩ H (More F S b (xs ++ vint 10 n)) := by
  refine F103.calls ?_
  unfold F103.go
  exact varint_loop 10 n xs H q qc h0 (by have : (128 : Int) ^ 10 = 1180591620717411303424 := by decide
                                          omega) (by omega) (by omega) (by omega) g
theorem fieldInt_range (k : Int) : 0 ≤ IntKind.wrap .u64 k ∧ IntKind.wrap .u64 k < 18446744073709551616 := by
  show 0 ≤ (if (false && decide (k % 18446744073709551616 ≥ 9223372036854775808)) = true then k % 18446744073709551616 - 18446744073709551616 else k % 18446744073709551616) ∧ (if (false && decide (k % 18446744073709551616 ≥ 9223372036854775808)) = true then k % 18446744073709551616 - 18446744073709551616 else k % 18446744073709551616) < 18446744073709551616
  simp; omega
/-- A number's field: nothing, if it is 0. -/
def intField (k n : Int) : List Int := if n == 0 then [] else vint 10 (shlZ .u64 (IntKind.wrap .u64 k) 3) ++ vint 10 (IntKind.wrap .u64 n)
theorem intField_len (k n : Int) : (intField k n).length ≤ 20 := by
  unfold intField
  split
  · simp
  · have := vint_len 10 (shlZ .u64 (IntKind.wrap .u64 k) 3); have := vint_len 10 (IntKind.wrap .u64 n); simp only [List.length_append]; omega
theorem putInt_ok (k n : Int) (xs : List Int) (H : Heap) (q : Option Addr) (qc : Nat) (hl : xs.length ≤ 700000) (g : Grow F S H b 5 1 q xs.length qc (u8v xs)) :
    CallsH Try.prog 102 ⟨[.slice q xs.length qc, .int .i64 k, .int .i64 n]⟩ H (More F S b (xs ++ intField k n)) := by
  refine F102.calls ?_
  unfold F102.go
  refine iteB_i (fun hc => ?_) (fun hc => ?_)
  · unfold intField
    rw [if_pos hc, List.append_nil]
    exact ⟨q, qc, rfl, g⟩
  · unfold intField
    rw [if_neg (by rw [hc]; simp)]
    refine ⟨by decide, ?_⟩
    have r1 := fieldInt_range (IntKind.wrap .u64 k * 2 ^ (min (3 : Int).toNat 64))
    refine callD_i (varint_ok (shlZ .u64 (IntKind.wrap .u64 k) 3) xs H q qc r1.1 r1.2 (by omega) g) ?_
    rintro e H1 ⟨q1, qc1, rfl, g1⟩
    refine tSl_i ?_
    have := vint_len 10 (shlZ .u64 (IntKind.wrap .u64 k) 3)
    have r2 := fieldInt_range n
    refine callD_i (varint_ok (IntKind.wrap .u64 n) _ H1 q1 qc1 r2.1 r2.2 (by simp only [List.length_append]; omega) g1) ?_
    rintro e H2 ⟨q2, qc2, rfl, g2⟩
    refine tSl_i ⟨q2, qc2, by rw [List.append_assoc], by rw [← List.append_assoc]; exact g2⟩
end
end Go.Proofs.Ytpankppliidaoaa
