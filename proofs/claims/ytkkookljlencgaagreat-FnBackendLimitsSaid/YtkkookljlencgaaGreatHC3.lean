/- What functions of this seat do, each proved by a walk; no condition. -/
import Derived.Test.YtkkookljlencgaaGreatHC
import Derived.KernelRfl
set_option linter.unusedVariables false
namespace Go.Proofs.YtkkookljlencgaaGreat
open Go Go.Den Go.Proofs
/-! ### 16 "pub-stadtholder/spec.told" -/
namespace G16
def an : Ann := { kinds := [(5004, .grow), (5010, .grow)], taus := [(5, [[0, 2, 6, 8, 1, 3, 7, 9, 4, 10, 5, 12, 11, 13, 14, 15], [0, 2, 6, 8, 1, 3, 7, 9, 4, 5, 12, 10, 11, 13, 14, 15], [0, 2, 6, 8, 1, 3, 7, 9, 10, 4, 5, 12, 11, 13, 14, 15], [0, 2, 6, 8, 1, 3, 7, 4, 5, 12, 9, 10, 11, 13, 14, 15], [0, 2, 6, 8, 1, 3, 9, 4, 10, 5, 7, 12, 11, 13, 14, 15], [0, 2, 6, 8, 1, 3, 9, 4, 5, 7, 12, 10, 11, 13, 14, 15], [0, 2, 6, 8, 1, 3, 9, 10, 4, 5, 7, 12, 11, 13, 14, 15], [0, 2, 6, 8, 1, 3, 4, 5, 7, 12, 9, 10, 11, 13, 14, 15]])], pairs := [(5, [(7, 5), (9, 5), (4, 10), (10, 5)])], lab := [(40000004, [2, 3, 9, 10, 11]), (40000007, [2, 3, 9, 10, 11])] }
noncomputable def body : Code := (Tryz.f16.body).getD .skip
theorem fn : Tryz.prog.funcs[16]? = some Tryz.f16 := by kernel_rfl
theorem ok : codeOk an 31 body = true := by kernel_rfl
noncomputable def L0t : List Item := [.code (sub [1, 1, 0, 1, 0, 0] body), .inLoop (sub [1, 1, 0, 1, 0, 0] body), .inBlock 0, .code (sub [1, 1, 1] body)]
def L0 (s2 : Nat) (a : Nat) (s9 : Option Addr) (s9n : Nat) (s9c : Nat) (s10 : Int) (s11 : Int) (H : Heap) (R : Ending → Heap → Prop) : Prop :=
  GoL Tryz.prog 16 31 L0t [2, 3, 9, 10, 11] [(.pointer (some ⟨s2, 0, none⟩)), (.pointer (some ⟨a, 0, none⟩)), (.slice s9 s9n s9c), (.int .i64 s10), (.int .i64 s11)] H R
noncomputable def L1t : List Item := [.code (sub [1, 1, 0, 1, 0, 0, 1, 1, 1] body), .inLoop (sub [1, 1, 0, 1, 0, 0] body), .inBlock 0, .code (sub [1, 1, 1] body)]
def L1 (s2 : Nat) (a : Nat) (s9 : Option Addr) (s9n : Nat) (s9c : Nat) (s10 : Int) (s11 : Int) (H : Heap) (R : Ending → Heap → Prop) : Prop :=
  GoL Tryz.prog 16 31 L1t [2, 3, 9, 10, 11] [(.pointer (some ⟨s2, 0, none⟩)), (.pointer (some ⟨a, 0, none⟩)), (.slice s9 s9n s9c), (.int .i64 s10), (.int .i64 s11)] H R
def L0n (s2 : Nat) (a : Nat) (s9 : Option Addr) (s9n : Nat) (s9c : Nat) (s10 : Int) (s11 : Int) (H : Heap) (R : Ending → Heap → Prop) : Prop :=
  iteB (decide (s11 < s10)) (
    idxD s9 s9n s11 fun a1 =>
    ldStr H (Addr.add a1 (Int.toNat s11 * 2)) fun s =>
    ldStr H (Addr.add (Addr.add a1 (Int.toNat s11 * 2)) 1) fun s1 =>
    newD H (.cells ⟨[(.string (ByteArray.mk #[])), (.string (ByteArray.mk #[]))]⟩ 94) fun r H1 =>
    st1 H1 ⟨r, 0, none⟩ (.string s) fun H2 =>
    st1 H2 ⟨r, 1, none⟩ (.string s1) fun H3 =>
    (
      ldSl H3 ⟨a, 2, none⟩ fun q qn qc =>
      ldStr H3 ⟨r, 0, none⟩ fun s3 =>
      ldSl H3 ⟨a, 3, none⟩ fun q1 q1n q1c =>
      ldStr H3 ⟨r, 1, none⟩ fun s4 =>
      newD H3 (.cells ⟨[(.string s3)]⟩ 9) fun r1 H4 =>
      newD H4 (.cells ⟨[(.string s4)]⟩ 9) fun r2 H5 =>
      apD H5 1 16 [(.string (ByteArray.mk #[]))] 9 q qn qc (some ⟨r1, 0, none⟩) 1 fun q2 q2n q2c H6 =>
      apD H6 1 16 [(.string (ByteArray.mk #[]))] 9 q1 q1n q1c (some ⟨r2, 0, none⟩) 1 fun q3 q3n q3c H7 =>
      st1 H7 ⟨a, 2, none⟩ (.slice q2 q2n q2c) fun H8 =>
      st1 H8 ⟨a, 3, none⟩ (.slice q3 q3n q3c) fun H9 =>
      L1 s2 a s9 s9n s9c s10 s11 H9 R) ∧
    (
      ldSl H3 ⟨a, 2, none⟩ fun q4 q4n q4c =>
      ldStr H3 ⟨r, 0, none⟩ fun s5 =>
      ldSl H3 ⟨a, 3, none⟩ fun q5 q5n q5c =>
      ldStr H3 ⟨r, 1, none⟩ fun s6 =>
      newD H3 (.cells ⟨[(.string s5)]⟩ 9) fun r3 H10 =>
      apD H10 1 16 [(.string (ByteArray.mk #[]))] 9 q4 q4n q4c (some ⟨r3, 0, none⟩) 1 fun q6 q6n q6c H11 =>
      newD H11 (.cells ⟨[(.string s6)]⟩ 9) fun r4 H12 =>
      apD H12 1 16 [(.string (ByteArray.mk #[]))] 9 q5 q5n q5c (some ⟨r4, 0, none⟩) 1 fun q7 q7n q7c H13 =>
      st1 H13 ⟨a, 2, none⟩ (.slice q6 q6n q6c) fun H14 =>
      st1 H14 ⟨a, 3, none⟩ (.slice q7 q7n q7c) fun H15 =>
      L1 s2 a s9 s9n s9c s10 s11 H15 R) ∧
    (
      ldSl H3 ⟨a, 2, none⟩ fun q8 q8n q8c =>
      ldStr H3 ⟨r, 0, none⟩ fun s7 =>
      ldSl H3 ⟨a, 3, none⟩ fun q9 q9n q9c =>
      ldStr H3 ⟨r, 1, none⟩ fun s8 =>
      newD H3 (.cells ⟨[(.string s8)]⟩ 9) fun r5 H16 =>
      newD H16 (.cells ⟨[(.string s7)]⟩ 9) fun r6 H17 =>
      apD H17 1 16 [(.string (ByteArray.mk #[]))] 9 q8 q8n q8c (some ⟨r6, 0, none⟩) 1 fun q10 q10n q10c H18 =>
      apD H18 1 16 [(.string (ByteArray.mk #[]))] 9 q9 q9n q9c (some ⟨r5, 0, none⟩) 1 fun q11 q11n q11c H19 =>
      st1 H19 ⟨a, 2, none⟩ (.slice q10 q10n q10c) fun H20 =>
      st1 H20 ⟨a, 3, none⟩ (.slice q11 q11n q11c) fun H21 =>
      L1 s2 a s9 s9n s9c s10 s11 H21 R) ∧
    (
      ldSl H3 ⟨a, 2, none⟩ fun q12 q12n q12c =>
      ldStr H3 ⟨r, 0, none⟩ fun s12 =>
      ldSl H3 ⟨a, 3, none⟩ fun q13 q13n q13c =>
      newD H3 (.cells ⟨[(.string s12)]⟩ 9) fun r7 H22 =>
      apD H22 1 16 [(.string (ByteArray.mk #[]))] 9 q12 q12n q12c (some ⟨r7, 0, none⟩) 1 fun q14 q14n q14c H23 =>
      ldStr H23 ⟨r, 1, none⟩ fun s13 =>
      newD H23 (.cells ⟨[(.string s13)]⟩ 9) fun r8 H24 =>
      apD H24 1 16 [(.string (ByteArray.mk #[]))] 9 q13 q13n q13c (some ⟨r8, 0, none⟩) 1 fun q15 q15n q15c H25 =>
      st1 H25 ⟨a, 2, none⟩ (.slice q14 q14n q14c) fun H26 =>
      st1 H26 ⟨a, 3, none⟩ (.slice q15 q15n q15c) fun H27 =>
      L1 s2 a s9 s9n s9c s10 s11 H27 R) ∧
    (
      ldSl H3 ⟨a, 2, none⟩ fun q16 q16n q16c =>
      ldStr H3 ⟨r, 0, none⟩ fun s14 =>
      ldStr H3 ⟨r, 1, none⟩ fun s15 =>
      newD H3 (.cells ⟨[(.string s14)]⟩ 9) fun r9 H28 =>
      newD H28 (.cells ⟨[(.string s15)]⟩ 9) fun r10 H29 =>
      apD H29 1 16 [(.string (ByteArray.mk #[]))] 9 q16 q16n q16c (some ⟨r9, 0, none⟩) 1 fun q17 q17n q17c H30 =>
      ldSl H30 ⟨a, 3, none⟩ fun q18 q18n q18c =>
      apD H30 1 16 [(.string (ByteArray.mk #[]))] 9 q18 q18n q18c (some ⟨r10, 0, none⟩) 1 fun q19 q19n q19c H31 =>
      st1 H31 ⟨a, 2, none⟩ (.slice q17 q17n q17c) fun H32 =>
      st1 H32 ⟨a, 3, none⟩ (.slice q19 q19n q19c) fun H33 =>
      L1 s2 a s9 s9n s9c s10 s11 H33 R) ∧
    (
      ldSl H3 ⟨a, 2, none⟩ fun q20 q20n q20c =>
      ldStr H3 ⟨r, 0, none⟩ fun s16 =>
      ldStr H3 ⟨r, 1, none⟩ fun s17 =>
      newD H3 (.cells ⟨[(.string s16)]⟩ 9) fun r11 H34 =>
      apD H34 1 16 [(.string (ByteArray.mk #[]))] 9 q20 q20n q20c (some ⟨r11, 0, none⟩) 1 fun q21 q21n q21c H35 =>
      ldSl H35 ⟨a, 3, none⟩ fun q22 q22n q22c =>
      newD H35 (.cells ⟨[(.string s17)]⟩ 9) fun r12 H36 =>
      apD H36 1 16 [(.string (ByteArray.mk #[]))] 9 q22 q22n q22c (some ⟨r12, 0, none⟩) 1 fun q23 q23n q23c H37 =>
      st1 H37 ⟨a, 2, none⟩ (.slice q21 q21n q21c) fun H38 =>
      st1 H38 ⟨a, 3, none⟩ (.slice q23 q23n q23c) fun H39 =>
      L1 s2 a s9 s9n s9c s10 s11 H39 R) ∧
    (
      ldSl H3 ⟨a, 2, none⟩ fun q24 q24n q24c =>
      ldStr H3 ⟨r, 0, none⟩ fun s18 =>
      ldStr H3 ⟨r, 1, none⟩ fun s19 =>
      newD H3 (.cells ⟨[(.string s19)]⟩ 9) fun r13 H40 =>
      newD H40 (.cells ⟨[(.string s18)]⟩ 9) fun r14 H41 =>
      apD H41 1 16 [(.string (ByteArray.mk #[]))] 9 q24 q24n q24c (some ⟨r14, 0, none⟩) 1 fun q25 q25n q25c H42 =>
      ldSl H42 ⟨a, 3, none⟩ fun q26 q26n q26c =>
      apD H42 1 16 [(.string (ByteArray.mk #[]))] 9 q26 q26n q26c (some ⟨r13, 0, none⟩) 1 fun q27 q27n q27c H43 =>
      st1 H43 ⟨a, 2, none⟩ (.slice q25 q25n q25c) fun H44 =>
      st1 H44 ⟨a, 3, none⟩ (.slice q27 q27n q27c) fun H45 =>
      L1 s2 a s9 s9n s9c s10 s11 H45 R) ∧
    (
      ldSl H3 ⟨a, 2, none⟩ fun q28 q28n q28c =>
      ldStr H3 ⟨r, 0, none⟩ fun s20 =>
      newD H3 (.cells ⟨[(.string s20)]⟩ 9) fun r15 H46 =>
      apD H46 1 16 [(.string (ByteArray.mk #[]))] 9 q28 q28n q28c (some ⟨r15, 0, none⟩) 1 fun q29 q29n q29c H47 =>
      ldSl H47 ⟨a, 3, none⟩ fun q30 q30n q30c =>
      ldStr H47 ⟨r, 1, none⟩ fun s21 =>
      newD H47 (.cells ⟨[(.string s21)]⟩ 9) fun r16 H48 =>
      apD H48 1 16 [(.string (ByteArray.mk #[]))] 9 q30 q30n q30c (some ⟨r16, 0, none⟩) 1 fun q31 q31n q31c H49 =>
      st1 H49 ⟨a, 2, none⟩ (.slice q29 q29n q29c) fun H50 =>
      st1 H50 ⟨a, 3, none⟩ (.slice q31 q31n q31c) fun H51 =>
      L1 s2 a s9 s9n s9c s10 s11 H51 R)) <|
  ldInt H ⟨a, 0, none⟩ .i64 fun n =>
  ldInt H ⟨a, 1, none⟩ .i64 fun n1 =>
  ldSl H ⟨a, 2, none⟩ fun q32 q32n q32c =>
  ldSl H ⟨a, 3, none⟩ fun q33 q33n q33c =>
  st1 H ⟨s2, 0, none⟩ (.int .i64 n) fun H52 =>
  st1 H52 ⟨s2, 1, none⟩ (.int .i64 n1) fun H53 =>
  st1 H53 ⟨s2, 2, none⟩ (.slice q32 q32n q32c) fun H54 =>
  st1 H54 ⟨s2, 3, none⟩ (.slice q33 q33n q33c) fun H55 =>
  ldInt H55 ⟨s2, 0, none⟩ .i64 fun n2 =>
  ldInt H55 ⟨s2, 1, none⟩ .i64 fun n3 =>
  ldSl H55 ⟨s2, 2, none⟩ fun q34 q34n q34c =>
  ldSl H55 ⟨s2, 3, none⟩ fun q35 q35n q35c =>
  R (.returned (.agg ⟨[(.int .i64 n2), (.int .i64 n3), (.slice q34 q34n q34c), (.slice q35 q35n q35c)]⟩)) H55
theorem L0_step {s2 : Nat} {a : Nat} {s9 : Option Addr} {s9n : Nat} {s9c : Nat} {s10 : Int} {s11 : Int} {H : Heap} {R : Ending → Heap → Prop} (h : L0n s2 a s9 s9n s9c s10 s11 H R) : L0 s2 a s9 s9n s9c s10 s11 H R :=
  goL_of_den (an := an) (fuel := 100000) (X := L0n s2 a s9 s9n s9c s10 s11 H R) mixed fn (by kernel_rfl) (fun ρ0 => by kernel_rfl) h
def L1n (s2 : Nat) (a : Nat) (s9 : Option Addr) (s9n : Nat) (s9c : Nat) (s10 : Int) (s11 : Int) (H : Heap) (R : Ending → Heap → Prop) : Prop :=
  L0 s2 a s9 s9n s9c s10 (IntKind.wrap .i64 (s11 + (1 : Int))) H R
theorem L1_step {s2 : Nat} {a : Nat} {s9 : Option Addr} {s9n : Nat} {s9c : Nat} {s10 : Int} {s11 : Int} {H : Heap} {R : Ending → Heap → Prop} (h : L1n s2 a s9 s9n s9c s10 s11 H R) : L1 s2 a s9 s9n s9c s10 s11 H R :=
  goL_of_den (an := an) (fuel := 100000) (X := L1n s2 a s9 s9n s9c s10 s11 H R) mixed fn (by kernel_rfl) (fun ρ0 => by kernel_rfl) h
def go (l : Option Addr) (ln : Nat) (lc : Nat) (H : Heap) (R : Ending → Heap → Prop) : Prop :=
  newD H (.cells ⟨[(.int .i64 (0 : Int)), (.int .i64 (0 : Int)), (.slice none 0 0), (.slice none 0 0)]⟩ 46) fun r H1 =>
  newD H1 (.cells ⟨[(.int .i64 (0 : Int)), (.int .i64 (0 : Int)), (.slice none 0 0), (.slice none 0 0)]⟩ 46) fun r1 H2 =>
  st1 H2 ⟨r1, 0, none⟩ (.int .i64 (0 : Int)) fun H3 =>
  st1 H3 ⟨r1, 1, none⟩ (.int .i64 ((ln : Nat) : Int)) fun H4 =>
  st1 H4 ⟨r1, 2, none⟩ (.slice none 0 0) fun H5 =>
  st1 H5 ⟨r1, 3, none⟩ (.slice none 0 0) fun H6 =>
  L0 r r1 l ln lc ((ln : Nat) : Int) (0 : Int) H6 R
theorem calls {l : Option Addr} {ln : Nat} {lc : Nat} {H : Heap} {R : Ending → Heap → Prop} (h : go l ln lc H R) : CallsH Tryz.prog 16 ⟨[(.slice l ln lc)]⟩ H R :=
  callsH_of_den (an := an) (fuel := 100000) (X := go l ln lc H R) (c := body) mixed fn (by kernel_rfl) (by kernel_rfl) (by kernel_rfl) ok (by kernel_rfl) h
end G16
end Go.Proofs.YtkkookljlencgaaGreat
