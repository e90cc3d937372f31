/- What functions of this seat do, each proved by a walk; no condition. -/
import Derived.Test.YtpankppliidaoaaT32
set_option linter.unusedVariables false
set_option linter.unusedSimpArgs false
namespace Go.Proofs.Ytpankppliidaoaa
open Go Go.Den Go.Proofs
theorem grow_any {F H : Heap} {S : Nat → Prop} {b : List Bk} {E : TypeId} {z : Nat} {p : Option Addr} {n c : Nat} {vs : List Value} (g : Grow F S H b E z p n c vs) {bytes m : Nat} {zs us : List Value} {K : Option Addr → Nat → Nat → Heap → Prop} (hz : zs.length = z) (hb : bytes ≠ 0) (hs : (2 * (n + m) + 768) * bytes ≤ 2 ^ 48) (hu : us.length = m * z) (hcell : ∀ v ∈ us, isCell v = true)
    (k : ∀ p' c' H1, Grow F S H1 b E z p' (n + m) c' (vs ++ us) → K p' (n + m) c' H1) : apV H z bytes zs E p n c m us K := by
  by_cases hm : 0 < m
  · exact g.app hz hb hs hu hm hcell (fun p' c' H1 g' _ => k p' c' H1 g')
  · obtain rfl : m = 0 := by omega
    have hus : us = [] := List.eq_nil_of_length_eq_zero (by simpa using hu)
    subst hus
    have hk := k p c H (by simpa using g)
    have hle : n ≤ c := by
      cases g with
      | nil L => exact Nat.le_refl _
      | mk L h1 h2 h3 => exact h3
    refine ⟨fun _ => ?_, fun h => by omega⟩
    cases p with
    | none => exact hk
    | some a => exact hk
theorem cellsAt_ext {H H1 : Heap} {p : Option Addr} {vs : List Value} (h : cellsAt H p vs) (e : ExtH H H1) : cellsAt H1 p vs := by
  intro j v hj
  obtain ⟨a, ha, hc⟩ := h j v hj
  exact ⟨a, ha, e.cell hc⟩
/-- A text's field. -/
def bytesField (k : Int) (ys : List Int) : List Int := vint 10 (orZ .u64 (shlZ .u64 (IntKind.wrap .u64 k) 3) 2) ++ vint 10 (IntKind.wrap .u64 (ys.length : Int)) ++ ys
theorem orZ_range (a c : Int) : 0 ≤ orZ .u64 a c ∧ orZ .u64 a c < 18446744073709551616 := by
  unfold orZ; exact fieldInt_range _
section
variable {F : Heap} {b : List Bk}
theorem putBytes_ok (k : Int) (ys xs : List Int) (H : Heap) (q v : Option Addr) (qc vc : Nat) (hl : xs.length ≤ 500000) (hy : ys.length ≤ 100000) (hv : cellsAt F v (u8v ys)) (g : Grow F Nn H b 5 1 q xs.length qc (u8v xs)) :
    CallsH Try.prog 101 ⟨[.slice q xs.length qc, .int .i64 k, .slice v ys.length vc]⟩ H (More F Nn b (xs ++ bytesField k ys)) := by
  refine F101.calls ?_
  unfold F101.go
  refine ⟨by decide, ?_⟩
  have r1 := orZ_range (shlZ .u64 (IntKind.wrap .u64 k) 3) 2
  refine callD_i (varint_ok _ xs H q qc r1.1 r1.2 (by omega) g) ?_
  rintro e H1 ⟨q1, qc1, rfl, g1⟩
  refine tSl_i ?_
  have l1 := vint_len 10 (orZ .u64 (shlZ .u64 (IntKind.wrap .u64 k) 3) 2)
  have r2 := fieldInt_range (ys.length : Int)
  refine callD_i (varint_ok (IntKind.wrap .u64 (ys.length : Int)) _ H1 q1 qc1 r2.1 r2.2 (by simp only [List.length_append]; omega) g1) ?_
  rintro e H2 ⟨q2, qc2, rfl, g2⟩
  refine tSl_i ?_
  have l2 := vint_len 10 (IntKind.wrap .u64 (ys.length : Int))
  refine ⟨u8v ys, by simp [u8v], cellsAt_ext hv g2.st.ext, ?_⟩
  refine grow_any g2 rfl (by decide) (by simp only [List.length_append]; omega) (by simp [u8v]) (fun v hv => u8v_cell hv) ?_
  intro q3 qc3 H3 g3
  have e1 : xs ++ vint 10 (orZ .u64 (shlZ .u64 (IntKind.wrap .u64 k) 3) 2) ++ vint 10 (IntKind.wrap .u64 (ys.length : Int)) ++ ys = xs ++ bytesField k ys := by simp [bytesField, List.append_assoc]
  have e2 : (xs ++ vint 10 (orZ .u64 (shlZ .u64 (IntKind.wrap .u64 k) 3) 2) ++ vint 10 (IntKind.wrap .u64 (ys.length : Int))).length + ys.length = (xs ++ bytesField k ys).length := by rw [← e1]; simp only [List.length_append]
  have e3 : u8v (xs ++ vint 10 (orZ .u64 (shlZ .u64 (IntKind.wrap .u64 k) 3) 2) ++ vint 10 (IntKind.wrap .u64 (ys.length : Int))) ++ u8v ys = u8v (xs ++ bytesField k ys) := by rw [← e1]; simp [u8v]
  rw [e2, e3] at g3
  rw [e2]
  exact ⟨q3, qc3, rfl, g3⟩
end
end Go.Proofs.Ytpankppliidaoaa
