/- What functions of this seat do, each proved by a walk; no condition. -/
import Derived.Test.YtpankppliidaoaaT6
set_option linter.unusedVariables false
namespace Go.Proofs.Ytpankppliidaoaa
open Go Go.Den Go.Proofs

theorem wrapu64_id {i : Int} (h0 : 0 ≤ i) (h1 : i < 18446744073709551616) : IntKind.wrap .u64 i = i := by
  show (if (false && decide (i % 18446744073709551616 ≥ 9223372036854775808)) = true then i % 18446744073709551616 - 18446744073709551616 else i % 18446744073709551616) = i
  simp; omega
theorem wrapu8_eq (i : Int) : IntKind.wrap .u8 i = i % 256 := by
  show (if (false && decide (i % 256 ≥ 128)) = true then i % 256 - 256 else i % 256) = i % 256
  simp
theorem orZ_add {a b : Int} (h0 : 0 ≤ a) (h1 : a % 256 = 0) (h2 : 0 ≤ b) (h3 : b < 256) (h4 : a + b < 18446744073709551616) : orZ .u64 a b = a + b := by
  obtain ⟨a, rfl⟩ := Int.eq_ofNat_of_zero_le h0
  obtain ⟨b, rfl⟩ := Int.eq_ofNat_of_zero_le h2
  unfold orZ
  have ha : (BitVec.ofInt (IntKind.bits .u64) (a : Int)).toNat = a := by
    show (BitVec.ofInt 64 (a : Int)).toNat = a
    rw [BitVec.toNat_ofInt]
    have : ((a : Int) % (2 ^ 64 : Nat)).toNat = a := by
      have : (a : Int) % ((2 ^ 64 : Nat) : Int) = a := Int.emod_eq_of_lt (by omega) (by omega)
      rw [this]; rfl
    exact this
  have hb : (BitVec.ofInt (IntKind.bits .u64) (b : Int)).toNat = b := by
    show (BitVec.ofInt 64 (b : Int)).toNat = b
    rw [BitVec.toNat_ofInt]
    have : ((b : Int) % (2 ^ 64 : Nat)).toNat = b := by
      have : (b : Int) % ((2 ^ 64 : Nat) : Int) = b := Int.emod_eq_of_lt (by omega) (by omega)
      rw [this]; rfl
    exact this
  rw [BitVec.toNat_or, ha, hb]
  obtain ⟨q, hq⟩ : ∃ q, a = 2 ^ 8 * q := ⟨a / 256, by omega⟩
  have := Nat.two_pow_add_eq_or_of_lt (i := 8) (b := b) (by omega) q
  rw [hq, ← this]
  rw [wrapu64_id (by omega) (by omega)]
  simp
theorem shl8 {a : Int} (h0 : 0 ≤ a) (h1 : a < 72057594037927936) : shlZ .u64 a (8 : Int) = a * 256 := by
  show IntKind.wrap .u64 (a * 2 ^ (min (8 : Int).toNat 64)) = a * 256
  have : (2 : Int) ^ (min (8 : Int).toNat 64) = 256 := by decide
  rw [this, wrapu64_id (by omega) (by omega)]
theorem bexp_eq (n : Int) : ∀ k, k < 8 → bexp n k = n / (2 ^ (8 * (7 - k)) : Nat) % 256 := by
  intro k hk
  have h : ∀ j : Nat, j ≤ 56 → shrZ .u64 n (j : Int) = n / ((2 ^ j : Nat) : Int) := by
    intro j hj
    show n.fdiv (2 ^ (min (j : Int).toNat 64)) = _
    rw [show min (j : Int).toNat 64 = j from by omega]
    rw [Int.fdiv_eq_ediv_of_nonneg _ (Int.pow_nonneg (by omega))]
    simp
  unfold bexp
  rw [wrapu8_eq]
  have e : IntKind.wrap .u64 ((8 : Int) * (IntKind.wrap .u64 (IntKind.wrap .i64 ((7 : Int) - (k : Int))))) = ((8 * (7 - k) : Nat) : Int) := by
    have a1 : IntKind.wrap .i64 ((7 : Int) - (k : Int)) = 7 - k := wrap64_small (by omega) (by omega)
    have a2 : IntKind.wrap .u64 ((7 : Int) - (k : Int)) = 7 - k := wrapu64_id (by omega) (by omega)
    rw [a1, a2, wrapu64_id (by omega) (by omega)]
    omega
  rw [e, h _ (by omega)]
theorem dec_step {v b : Int} (h0 : 0 ≤ v) (h1 : v < 72057594037927936) (h2 : 0 ≤ b) (h3 : b < 256) : orZ .u64 (shlZ .u64 v (8 : Int)) (IntKind.wrap .u64 b) = v * 256 + b := by
  rw [shl8 h0 h1, wrapu64_id h2 (by omega), orZ_add (by omega) (by omega) h2 h3 (by omega)]
def bytesL (n : Int) : List Int := (List.range 8).map (bexp n)
theorem be_u8s (n : Int) : be n = u8s (bytesL n) := by simp [be, u8s, bytesL]
theorem dec_bytes {n : Int} (h0 : 0 ≤ n) (h1 : n < 18446744073709551616) : dec (bytesL n) = n := by
  have key : ∀ k, k ≤ 8 → dec ((bytesL n).take k) = n / (2 ^ (8 * (8 - k)) : Nat) := by
    intro k
    induction k with
    | zero =>
      intro _
      have : n / ((2 ^ (8 * (8 - 0)) : Nat) : Int) = 0 := Int.ediv_eq_zero_of_lt h0 (by have : ((2 ^ (8 * (8 - 0)) : Nat) : Int) = 18446744073709551616 := by decide
                                                                                        omega)
      rw [this]
      rfl
    | succ k ih =>
      intro hk
      have hl : k < (bytesL n).length := by simp [bytesL]; omega
      rw [List.take_succ_eq_append_getElem hl]
      unfold dec at ih ⊢
      rw [List.foldl_append, ih (by omega)]
      have hb : (bytesL n)[k] = n / (2 ^ (8 * (7 - k)) : Nat) % 256 := by
        simp only [bytesL, List.getElem_map, List.getElem_range]
        exact bexp_eq n k (by omega)
      simp only [List.foldl_cons, List.foldl_nil]
      rw [hb]
      have hp : (2 ^ (8 * (8 - k)) : Nat) = 2 ^ (8 * (7 - k)) * 256 := by
        rw [show 8 * (8 - k) = 8 * (7 - k) + 8 from by omega, Nat.pow_add]
      have hq : n / ((2 ^ (8 * (8 - k)) : Nat) : Int) = n / ((2 ^ (8 * (7 - k)) : Nat) : Int) / 256 := by
        rw [hp, Int.natCast_mul, ← Int.ediv_ediv_of_nonneg (by omega)]
        rfl
      have hnn : 0 ≤ n / ((2 ^ (8 * (7 - k)) : Nat) : Int) := Int.ediv_nonneg h0 (by omega)
      have hlt : n / ((2 ^ (8 * (7 - k)) : Nat) : Int) ≤ n := Int.ediv_le_self _ h0
      rw [hq, show 8 * (8 - (k + 1)) = 8 * (7 - k) from by omega]
      generalize n / ((2 ^ (8 * (7 - k)) : Nat) : Int) = q at *
      rw [dec_step (by omega) (by omega) (by omega) (by omega)]
      omega
  have := key 8 (Nat.le_refl _)
  rw [List.take_of_length_le (by simp [bytesL])] at this
  rw [this]
  simp
end Go.Proofs.Ytpankppliidaoaa
