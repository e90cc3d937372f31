/- What functions of this seat do, each proved by a walk; no condition. -/
import Derived.Test.YtkkookljlencgaaGreatHC
import Derived.KernelRfl
set_option linter.unusedVariables false
namespace Go.Proofs.YtkkookljlencgaaGreat
open Go Go.Den Go.Proofs
/-! ### 3 "pub-stadtholder/laws.FnBackendLimits" -/
namespace F3
def an : Ann := { kinds := [(8014, .grow)], taus := [(8, [[0, 1, 2, 4, 5, 6, 7, 8, 9, 12, 3, 10, 11, 13, 14, 15]]), (23, [[0, 1, 2, 3, 4, 5, 6, 7, 8, 9, 11, 10, 12, 13, 14, 15, 16, 17]])], pairs := [], lab := [(10000007, [0, 1, 2, 7]), (40000017, [0, 2, 9, 11, 12, 13, 86, 87, 88]), (20000023, [2, 9, 11, 13]), (10000024, [9, 11, 13, 16])] }
noncomputable def body : Code := (Tryz.f3.body).getD .skip
theorem fn : Tryz.prog.funcs[3]? = some Tryz.f3 := by kernel_rfl
theorem ok : codeOk an 123 body = true := by kernel_rfl
noncomputable def L0t : List Item := [.code (sub [1, 1, 1, 1] body)]
def L0 (s0 : Option Addr) (s0n : Nat) (s0c : Nat) (s1 : Int) (s2 : Int) (s7 : Option Addr) (s7n : Nat) (s7c : Nat) (H : Heap) (R : Ending → Heap → Prop) : Prop :=
  GoL Tryz.prog 3 123 L0t [0, 1, 2, 7] [(.slice s0 s0n s0c), (.int .i64 s1), (.int .i64 s2), (.slice s7 s7n s7c)] H R
noncomputable def L1t : List Item := [.code (sub [1, 1, 1, 1, 1, 1, 1, 1, 1, 1, 1, 1, 0, 1, 0, 0] body), .inLoop (sub [1, 1, 1, 1, 1, 1, 1, 1, 1, 1, 1, 1, 0, 1, 0, 0] body), .inBlock 0, .code (sub [1, 1, 1, 1, 1, 1, 1, 1, 1, 1, 1, 1, 1] body)]
def L1 (s0 : Option Addr) (s0n : Nat) (s0c : Nat) (s2 : Int) (s9 : Option Addr) (s9n : Nat) (s9c : Nat) (s11 : Option Addr) (s11n : Nat) (s11c : Nat) (s12 : Nat) (s13 : Nat) (s86 : Option Addr) (s86n : Nat) (s86c : Nat) (s87 : Int) (s88 : Int) (H : Heap) (R : Ending → Heap → Prop) : Prop :=
  GoL Tryz.prog 3 123 L1t [0, 2, 9, 11, 12, 13, 86, 87, 88] [(.slice s0 s0n s0c), (.int .i64 s2), (.slice s9 s9n s9c), (.slice s11 s11n s11c), (.pointer (some ⟨s12, 0, none⟩)), (.pointer (some ⟨s13, 0, none⟩)), (.slice s86 s86n s86c), (.int .i64 s87), (.int .i64 s88)] H R
noncomputable def L2t : List Item := [.code (sub [1, 1, 1, 1, 1, 1, 1, 1, 1, 1, 1, 1, 1, 1, 0, 1, 0] body), .code (sub [1, 1, 1, 1, 1, 1, 1, 1, 1, 1, 1, 1, 1, 1, 1] body)]
def L2 (s2 : Int) (s9 : Option Addr) (s9n : Nat) (s9c : Nat) (s11 : Option Addr) (s11n : Nat) (s11c : Nat) (s13 : Nat) (H : Heap) (R : Ending → Heap → Prop) : Prop :=
  GoL Tryz.prog 3 123 L2t [2, 9, 11, 13] [(.int .i64 s2), (.slice s9 s9n s9c), (.slice s11 s11n s11c), (.pointer (some ⟨s13, 0, none⟩))] H R
noncomputable def L3t : List Item := [.code (sub [1, 1, 1, 1, 1, 1, 1, 1, 1, 1, 1, 1, 1, 1, 1] body)]
def L3 (s9 : Option Addr) (s9n : Nat) (s9c : Nat) (s11 : Option Addr) (s11n : Nat) (s11c : Nat) (s13 : Nat) (s16 : Int) (H : Heap) (R : Ending → Heap → Prop) : Prop :=
  GoL Tryz.prog 3 123 L3t [9, 11, 13, 16] [(.slice s9 s9n s9c), (.slice s11 s11n s11c), (.pointer (some ⟨s13, 0, none⟩)), (.int .i64 s16)] H R
def L0n (s0 : Option Addr) (s0n : Nat) (s0c : Nat) (s1 : Int) (s2 : Int) (s7 : Option Addr) (s7n : Nat) (s7c : Nat) (H : Heap) (R : Ending → Heap → Prop) : Prop :=
  newD H (.cells ⟨[]⟩ 29) fun r H1 =>
  bndD s1 s7c fun k =>
  apD H1 7 80 [(.int .i64 (0 : Int)), (.int .i64 (0 : Int)), (.int .i64 (0 : Int)), (.string (ByteArray.mk #[])), (.string (ByteArray.mk #[])), (.string (ByteArray.mk #[])), (.int .i64 (0 : Int))] 29 (some ⟨r, 0, none⟩) 0 0 (slP s7 0 s7c 7) k fun q qn qc H2 =>
  newD H2 (.cells ⟨[(.int .i64 (9 : Int)), (.int .i64 (0 : Int)), (.int .i64 (0 : Int)), (.string (ByteArray.mk #[])), (.string (ByteArray.mk #[])), (.string (ByteArray.mk #[])), (.int .i64 (0 : Int))]⟩ 29) fun r1 H3 =>
  apD H3 7 80 [(.int .i64 (0 : Int)), (.int .i64 (0 : Int)), (.int .i64 (0 : Int)), (.string (ByteArray.mk #[])), (.string (ByteArray.mk #[])), (.string (ByteArray.mk #[])), (.int .i64 (0 : Int))] 29 q qn qc (some ⟨r1, 0, none⟩) 1 fun q1 q1n q1c H4 =>
  bndD s1 s7n fun k1 =>
  apD H4 7 80 [(.int .i64 (0 : Int)), (.int .i64 (0 : Int)), (.int .i64 (0 : Int)), (.string (ByteArray.mk #[])), (.string (ByteArray.mk #[])), (.string (ByteArray.mk #[])), (.int .i64 (0 : Int))] 29 q1 q1n q1c (slP s7 k1 s7c 7) (s7n - k1) fun q2 q2n q2c H5 =>
  newD H5 (.cells ⟨[(.int .i64 (8 : Int)), (.int .i64 (0 : Int)), (.int .i64 (0 : Int)), (.string (ByteArray.mk #[])), (.string (ByteArray.mk #[])), (.string (ByteArray.mk #[])), (.int .i64 (0 : Int))]⟩ 29) fun r2 H6 =>
  apD H6 7 80 [(.int .i64 (0 : Int)), (.int .i64 (0 : Int)), (.int .i64 (0 : Int)), (.string (ByteArray.mk #[])), (.string (ByteArray.mk #[])), (.string (ByteArray.mk #[])), (.int .i64 (0 : Int))] 29 q2 q2n q2c (some ⟨r2, 0, none⟩) 1 fun q3 q3n q3c H7 =>
  idxD s0 s0n (0 : Int) fun a =>
  idxD s0 s0n (IntKind.wrap .i64 (((s0n : Nat) : Int) - (1 : Int))) fun a1 =>
  ldStr H7 (Addr.add a (Int.toNat (0 : Int) * 6)) fun s =>
  ldStr H7 (Addr.add a1 (Int.toNat (IntKind.wrap .i64 (((s0n : Nat) : Int) - (1 : Int))) * 6)) fun s3 =>
  catD s3 (ByteArray.mk #[0]) fun s4 =>
  newD H7 (.cells ⟨[(.int .i64 (0 : Int)), (.int .i64 (0 : Int)), (.int .i64 (0 : Int)), (.string (ByteArray.mk #[])), (.string (ByteArray.mk #[])), (.string (ByteArray.mk #[])), (.int .i64 (0 : Int))]⟩ 29) fun r3 H8 =>
  st1 H8 ⟨r3, 0, none⟩ (.int .i64 (5 : Int)) fun H9 =>
  st1 H9 ⟨r3, 1, none⟩ (.int .i64 (0 : Int)) fun H10 =>
  st1 H10 ⟨r3, 2, none⟩ (.int .i64 (0 : Int)) fun H11 =>
  st1 H11 ⟨r3, 3, none⟩ (.string s) fun H12 =>
  st1 H12 ⟨r3, 4, none⟩ (.string s4) fun H13 =>
  st1 H13 ⟨r3, 5, none⟩ (.string (ByteArray.mk #[])) fun H14 =>
  st1 H14 ⟨r3, 6, none⟩ (.int .i64 s2) fun H15 =>
  ldInt H15 ⟨r3, 0, none⟩ .i64 fun n =>
  ldInt H15 ⟨r3, 1, none⟩ .i64 fun n1 =>
  ldInt H15 ⟨r3, 2, none⟩ .i64 fun n2 =>
  ldStr H15 ⟨r3, 3, none⟩ fun s5 =>
  ldStr H15 ⟨r3, 4, none⟩ fun s6 =>
  ldStr H15 ⟨r3, 5, none⟩ fun s8 =>
  ldInt H15 ⟨r3, 6, none⟩ .i64 fun n3 =>
  newD H15 (.cells ⟨[(.int .i64 n), (.int .i64 n1), (.int .i64 n2), (.string s5), (.string s6), (.string s8), (.int .i64 n3)]⟩ 29) fun r4 H16 =>
  apD H16 7 80 [(.int .i64 (0 : Int)), (.int .i64 (0 : Int)), (.int .i64 (0 : Int)), (.string (ByteArray.mk #[])), (.string (ByteArray.mk #[])), (.string (ByteArray.mk #[])), (.int .i64 (0 : Int))] 29 q3 q3n q3c (some ⟨r4, 0, none⟩) 1 fun q4 q4n q4c H17 =>
  callD Tryz.prog 7 [(.int .i64 (10000 : Int)), (.slice q4 q4n q4c)] H17 (panK R) fun v H18 =>
  tSl v fun q5 q5n q5c =>
  iteB (((q5n : Nat) : Int) != ((q4n : Nat) : Int)) (
    R (.returned (.bool false)) H18) <|
  newD H18 (.cells ⟨[(.int .i64 (10000 : Int)), (.slice none 0 0), (.slice none 0 0), (.slice none 0 0), (.slice none 0 0), (.slice none 0 0), (.slice none 0 0), (.slice none 0 0), (.slice none 0 0), (.slice none 0 0), (.slice none 0 0), (.slice none 0 0), (.slice none 0 0), (.slice none 0 0), (.slice none 0 0), (.slice none 0 0), (.slice none 0 0), (.int .i64 (0 : Int)), (.bool false), (.slice none 0 0)]⟩ 43) fun r5 H19 =>
  newD H19 (.cells ⟨[(.int .i64 (0 : Int)), (.int .i64 (0 : Int)), (.slice none 0 0), (.slice none 0 0)]⟩ 46) fun r6 H20 =>
  L1 s0 s0n s0c s2 q4 q4n q4c q5 q5n q5c r5 r6 q4 q4n q4c ((q4n : Nat) : Int) (0 : Int) H20 R
theorem L0_step {s0 : Option Addr} {s0n : Nat} {s0c : Nat} {s1 : Int} {s2 : Int} {s7 : Option Addr} {s7n : Nat} {s7c : Nat} {H : Heap} {R : Ending → Heap → Prop} (h : L0n s0 s0n s0c s1 s2 s7 s7n s7c H R) : L0 s0 s0n s0c s1 s2 s7 s7n s7c H R :=
  goL_of_den (an := an) (fuel := 100000) (X := L0n s0 s0n s0c s1 s2 s7 s7n s7c H R) mixed fn (by kernel_rfl) (fun ρ0 => by kernel_rfl) h
def L1n (s0 : Option Addr) (s0n : Nat) (s0c : Nat) (s2 : Int) (s9 : Option Addr) (s9n : Nat) (s9c : Nat) (s11 : Option Addr) (s11n : Nat) (s11c : Nat) (s12 : Nat) (s13 : Nat) (s86 : Option Addr) (s86n : Nat) (s86c : Nat) (s87 : Int) (s88 : Int) (H : Heap) (R : Ending → Heap → Prop) : Prop :=
  iteB (decide (s88 < s87)) (
    idxD s86 s86n s88 fun a =>
    ldInt H (Addr.add a (Int.toNat s88 * 7)) .i64 fun n =>
    ldInt H (Addr.add (Addr.add a (Int.toNat s88 * 7)) 1) .i64 fun n1 =>
    ldInt H (Addr.add (Addr.add a (Int.toNat s88 * 7)) 2) .i64 fun n2 =>
    ldStr H (Addr.add (Addr.add a (Int.toNat s88 * 7)) 3) fun s =>
    ldStr H (Addr.add (Addr.add a (Int.toNat s88 * 7)) 4) fun s1 =>
    ldStr H (Addr.add (Addr.add a (Int.toNat s88 * 7)) 5) fun s3 =>
    ldInt H (Addr.add (Addr.add a (Int.toNat s88 * 7)) 6) .i64 fun n3 =>
    newD H (.cells ⟨[(.int .i64 (0 : Int)), (.int .i64 (0 : Int)), (.int .i64 (0 : Int)), (.string (ByteArray.mk #[])), (.string (ByteArray.mk #[])), (.string (ByteArray.mk #[])), (.int .i64 (0 : Int))]⟩ 29) fun r H1 =>
    st1 H1 ⟨r, 0, none⟩ (.int .i64 n) fun H2 =>
    st1 H2 ⟨r, 1, none⟩ (.int .i64 n1) fun H3 =>
    st1 H3 ⟨r, 2, none⟩ (.int .i64 n2) fun H4 =>
    st1 H4 ⟨r, 3, none⟩ (.string s) fun H5 =>
    st1 H5 ⟨r, 4, none⟩ (.string s1) fun H6 =>
    st1 H6 ⟨r, 5, none⟩ (.string s3) fun H7 =>
    st1 H7 ⟨r, 6, none⟩ (.int .i64 n3) fun H8 =>
    ldInt H8 ⟨r, 0, none⟩ .i64 fun n4 =>
    ldInt H8 ⟨r, 1, none⟩ .i64 fun n5 =>
    ldInt H8 ⟨r, 2, none⟩ .i64 fun n6 =>
    ldStr H8 ⟨r, 3, none⟩ fun s4 =>
    ldStr H8 ⟨r, 4, none⟩ fun s5 =>
    ldStr H8 ⟨r, 5, none⟩ fun s6 =>
    ldInt H8 ⟨r, 6, none⟩ .i64 fun n7 =>
    callD Tryz.prog 8 [(.pointer (some ⟨s12, 0, none⟩)), (.agg ⟨[(.int .i64 n4), (.int .i64 n5), (.int .i64 n6), (.string s4), (.string s5), (.string s6), (.int .i64 n7)]⟩)] H8 (panK R) fun v H9 =>
    tAgg v fun l =>
    tCons l fun c l1 =>
    tInt c .i64 fun n8 =>
    tCons l1 fun c1 l2 =>
    tInt c1 .i64 fun n9 =>
    tCons l2 fun c2 l3 =>
    tSl c2 fun q qn qc =>
    tCons l3 fun c3 l4 =>
    tSl c3 fun q1 q1n q1c =>
    tNil l4 <|
    st1 H9 ⟨s13, 0, none⟩ (.int .i64 n8) fun H10 =>
    st1 H10 ⟨s13, 1, none⟩ (.int .i64 n9) fun H11 =>
    st1 H11 ⟨s13, 2, none⟩ (.slice q qn qc) fun H12 =>
    st1 H12 ⟨s13, 3, none⟩ (.slice q1 q1n q1c) fun H13 =>
    L1 s0 s0n s0c s2 s9 s9n s9c s11 s11n s11c s12 s13 s86 s86n s86c s87 (IntKind.wrap .i64 (s88 + (1 : Int))) H13 R) <|
  iteB (decide (s2 > (0 : Int))) (
    iteB (decide (s2 < ((s0n : Nat) : Int))) (
      L2 s2 s9 s9n s9c s11 s11n s11c s13 H R) <|
    L3 s9 s9n s9c s11 s11n s11c s13 ((s0n : Nat) : Int) H R) <|
  L3 s9 s9n s9c s11 s11n s11c s13 ((s0n : Nat) : Int) H R
theorem L1_step {s0 : Option Addr} {s0n : Nat} {s0c : Nat} {s2 : Int} {s9 : Option Addr} {s9n : Nat} {s9c : Nat} {s11 : Option Addr} {s11n : Nat} {s11c : Nat} {s12 : Nat} {s13 : Nat} {s86 : Option Addr} {s86n : Nat} {s86c : Nat} {s87 : Int} {s88 : Int} {H : Heap} {R : Ending → Heap → Prop} (h : L1n s0 s0n s0c s2 s9 s9n s9c s11 s11n s11c s12 s13 s86 s86n s86c s87 s88 H R) : L1 s0 s0n s0c s2 s9 s9n s9c s11 s11n s11c s12 s13 s86 s86n s86c s87 s88 H R :=
  goL_of_den (an := an) (fuel := 100000) (X := L1n s0 s0n s0c s2 s9 s9n s9c s11 s11n s11c s12 s13 s86 s86n s86c s87 s88 H R) mixed fn (by kernel_rfl) (fun ρ0 => by kernel_rfl) h
def L2n (s2 : Int) (s9 : Option Addr) (s9n : Nat) (s9c : Nat) (s11 : Option Addr) (s11n : Nat) (s11c : Nat) (s13 : Nat) (H : Heap) (R : Ending → Heap → Prop) : Prop :=
  L3 s9 s9n s9c s11 s11n s11c s13 s2 H R
theorem L2_step {s2 : Int} {s9 : Option Addr} {s9n : Nat} {s9c : Nat} {s11 : Option Addr} {s11n : Nat} {s11c : Nat} {s13 : Nat} {H : Heap} {R : Ending → Heap → Prop} (h : L2n s2 s9 s9n s9c s11 s11n s11c s13 H R) : L2 s2 s9 s9n s9c s11 s11n s11c s13 H R :=
  goL_of_den (an := an) (fuel := 100000) (X := L2n s2 s9 s9n s9c s11 s11n s11c s13 H R) mixed fn (by kernel_rfl) (fun ρ0 => by kernel_rfl) h
def L3n (s9 : Option Addr) (s9n : Nat) (s9c : Nat) (s11 : Option Addr) (s11n : Nat) (s11c : Nat) (s13 : Nat) (s16 : Int) (H : Heap) (R : Ending → Heap → Prop) : Prop :=
  idxD s11 s11n (IntKind.wrap .i64 (((s9n : Nat) : Int) - (1 : Int))) fun a =>
  ldInt H (Addr.add a (Int.toNat (IntKind.wrap .i64 (((s9n : Nat) : Int) - (1 : Int))) * 4)) .i64 fun n =>
  ldInt H (Addr.add (Addr.add a (Int.toNat (IntKind.wrap .i64 (((s9n : Nat) : Int) - (1 : Int))) * 4)) 1) .i64 fun n1 =>
  ldSl H (Addr.add (Addr.add a (Int.toNat (IntKind.wrap .i64 (((s9n : Nat) : Int) - (1 : Int))) * 4)) 2) fun q qn qc =>
  ldSl H (Addr.add (Addr.add a (Int.toNat (IntKind.wrap .i64 (((s9n : Nat) : Int) - (1 : Int))) * 4)) 3) fun q1 q1n q1c =>
  ldInt H ⟨s13, 0, none⟩ .i64 fun n2 =>
  ldInt H ⟨s13, 1, none⟩ .i64 fun n3 =>
  ldSl H ⟨s13, 2, none⟩ fun q2 q2n q2c =>
  ldSl H ⟨s13, 3, none⟩ fun q3 q3n q3c =>
  callD Tryz.prog 9 [(.agg ⟨[(.int .i64 n), (.int .i64 n1), (.slice q qn qc), (.slice q1 q1n q1c)]⟩), (.agg ⟨[(.int .i64 n2), (.int .i64 n3), (.slice q2 q2n q2c), (.slice q3 q3n q3c)]⟩)] H (panK R) fun v H1 =>
  tBool v fun b =>
  iteB b (
    ldInt H1 ⟨s13, 1, none⟩ .i64 fun n4 =>
    iteB (n4 == s16) (
      callD Tryz.prog 6 [] H1 (panK R) fun v1 H2 =>
      tBool v1 fun b1 =>
      R (.returned (.bool b1)) H2) <|
    R (.returned (.bool false)) H1) <|
  R (.returned (.bool false)) H1
theorem L3_step {s9 : Option Addr} {s9n : Nat} {s9c : Nat} {s11 : Option Addr} {s11n : Nat} {s11c : Nat} {s13 : Nat} {s16 : Int} {H : Heap} {R : Ending → Heap → Prop} (h : L3n s9 s9n s9c s11 s11n s11c s13 s16 H R) : L3 s9 s9n s9c s11 s11n s11c s13 s16 H R :=
  goL_of_den (an := an) (fuel := 100000) (X := L3n s9 s9n s9c s11 s11n s11c s13 s16 H R) mixed fn (by kernel_rfl) (fun ρ0 => by kernel_rfl) h
def go (s0 : Option Addr) (s0n : Nat) (s0c : Nat) (s1 : Int) (s2 : Int) (H : Heap) (R : Ending → Heap → Prop) : Prop :=
  callD Tryz.prog 4 [(.slice s0 s0n s0c)] H (panK R) fun v H1 =>
  tBool v fun b =>
  iteB (!b) (
    R (.returned (.bool true)) H1) <|
  callD Tryz.prog 5 [(.slice s0 s0n s0c)] H1 (panK R) fun v1 H2 =>
  tTup v1 fun l =>
  tCons l fun c l1 =>
  tSl c fun q qn qc =>
  tCons l1 fun c1 l2 =>
  tBool c1 fun b1 =>
  tNil l2 <|
  iteB (!b1) (
    callD Tryz.prog 6 [] H2 (panK R) fun v2 H3 =>
    tBool v2 fun b2 =>
    R (.returned (.bool b2)) H3) <|
  iteB (((s0n : Nat) : Int) == (0 : Int)) (
    callD Tryz.prog 6 [] H2 (panK R) fun v3 H4 =>
    tBool v3 fun b3 =>
    R (.returned (.bool b3)) H4) <|
  iteB (decide (s1 < (0 : Int))) (
    callD Tryz.prog 6 [] H2 (panK R) fun v4 H5 =>
    tBool v4 fun b4 =>
    R (.returned (.bool b4)) H5) <|
  iteB (decide (s1 > ((s0n : Nat) : Int))) (
    callD Tryz.prog 6 [] H2 (panK R) fun v5 H6 =>
    tBool v5 fun b5 =>
    R (.returned (.bool b5)) H6) <|
  L0 s0 s0n s0c s1 s2 q qn qc H2 R
theorem calls {s0 : Option Addr} {s0n : Nat} {s0c : Nat} {s1 : Int} {s2 : Int} {H : Heap} {R : Ending → Heap → Prop} (h : go s0 s0n s0c s1 s2 H R) : CallsH Tryz.prog 3 ⟨[(.slice s0 s0n s0c), (.int .i64 s1), (.int .i64 s2)]⟩ H R :=
  callsH_of_den (an := an) (fuel := 100000) (X := go s0 s0n s0c s1 s2 H R) (c := body) mixed fn (by kernel_rfl) (by kernel_rfl) (by kernel_rfl) ok (by kernel_rfl) h
end F3
/-! ### 4 "pub-stadtholder/laws.zzFits13" -/
namespace F4
def an : Ann := { kinds := [], taus := [], pairs := [], lab := [(40000005, [8, 9, 10])] }
noncomputable def body : Code := (Tryz.f4.body).getD .skip
theorem fn : Tryz.prog.funcs[4]? = some Tryz.f4 := by kernel_rfl
theorem ok : codeOk an 18 body = true := by kernel_rfl
noncomputable def L0t : List Item := [.code (sub [1, 1, 0, 1, 0, 0] body), .inLoop (sub [1, 1, 0, 1, 0, 0] body), .inBlock 0, .code (sub [1, 1, 1] body)]
def L0 (s8 : Option Addr) (s8n : Nat) (s8c : Nat) (s9 : Int) (s10 : Int) (H : Heap) (R : Ending → Heap → Prop) : Prop :=
  GoL Tryz.prog 4 18 L0t [8, 9, 10] [(.slice s8 s8n s8c), (.int .i64 s9), (.int .i64 s10)] H R
def L0n (s8 : Option Addr) (s8n : Nat) (s8c : Nat) (s9 : Int) (s10 : Int) (H : Heap) (R : Ending → Heap → Prop) : Prop :=
  iteB (decide (s10 < s9)) (
    idxD s8 s8n s10 fun a =>
    ldStr H (Addr.add a (Int.toNat s10 * 6)) fun s =>
    ldStr H (Addr.add (Addr.add a (Int.toNat s10 * 6)) 1) fun s1 =>
    ldInt H (Addr.add (Addr.add a (Int.toNat s10 * 6)) 2) .i64 fun n =>
    ldInt H (Addr.add (Addr.add a (Int.toNat s10 * 6)) 3) .i64 fun n1 =>
    ldInt H (Addr.add (Addr.add a (Int.toNat s10 * 6)) 4) .i64 fun n2 =>
    ldInt H (Addr.add (Addr.add a (Int.toNat s10 * 6)) 5) .i64 fun n3 =>
    newD H (.cells ⟨[(.string (ByteArray.mk #[])), (.string (ByteArray.mk #[])), (.int .i64 (0 : Int)), (.int .i64 (0 : Int)), (.int .i64 (0 : Int)), (.int .i64 (0 : Int))]⟩ 31) fun r H1 =>
    st1 H1 ⟨r, 0, none⟩ (.string s) fun H2 =>
    st1 H2 ⟨r, 1, none⟩ (.string s1) fun H3 =>
    st1 H3 ⟨r, 2, none⟩ (.int .i64 n) fun H4 =>
    st1 H4 ⟨r, 3, none⟩ (.int .i64 n1) fun H5 =>
    st1 H5 ⟨r, 4, none⟩ (.int .i64 n2) fun H6 =>
    st1 H6 ⟨r, 5, none⟩ (.int .i64 n3) fun H7 =>
    ldStr H7 ⟨r, 0, none⟩ fun s2 =>
    ldStr H7 ⟨r, 1, none⟩ fun s3 =>
    ldInt H7 ⟨r, 2, none⟩ .i64 fun n4 =>
    ldInt H7 ⟨r, 3, none⟩ .i64 fun n5 =>
    ldInt H7 ⟨r, 4, none⟩ .i64 fun n6 =>
    ldInt H7 ⟨r, 5, none⟩ .i64 fun n7 =>
    callD Tryz.prog 10 [(.agg ⟨[(.string s2), (.string s3), (.int .i64 n4), (.int .i64 n5), (.int .i64 n6), (.int .i64 n7)]⟩)] H7 (panK R) fun v H8 =>
    tBool v fun b =>
    iteB (!b) (
      R (.returned (.bool false)) H8) <|
    L0 s8 s8n s8c s9 (IntKind.wrap .i64 (s10 + (1 : Int))) H8 R) <|
  R (.returned (.bool true)) H
theorem L0_step {s8 : Option Addr} {s8n : Nat} {s8c : Nat} {s9 : Int} {s10 : Int} {H : Heap} {R : Ending → Heap → Prop} (h : L0n s8 s8n s8c s9 s10 H R) : L0 s8 s8n s8c s9 s10 H R :=
  goL_of_den (an := an) (fuel := 100000) (X := L0n s8 s8n s8c s9 s10 H R) mixed fn (by kernel_rfl) (fun ρ0 => by kernel_rfl) h
def go (x : Option Addr) (xn : Nat) (xc : Nat) (H : Heap) (R : Ending → Heap → Prop) : Prop :=
  iteB (decide (((xn : Nat) : Int) > (2147483647 : Int))) (
    R (.returned (.bool false)) H) <|
  L0 x xn xc ((xn : Nat) : Int) (0 : Int) H R
theorem calls {x : Option Addr} {xn : Nat} {xc : Nat} {H : Heap} {R : Ending → Heap → Prop} (h : go x xn xc H R) : CallsH Tryz.prog 4 ⟨[(.slice x xn xc)]⟩ H R :=
  callsH_of_den (an := an) (fuel := 100000) (X := go x xn xc H R) (c := body) mixed fn (by kernel_rfl) (by kernel_rfl) (by kernel_rfl) ok (by kernel_rfl) h
end F4
/-! ### 5 "pub-stadtholder/laws.bkWrites" -/
namespace F5
def an : Ann := { kinds := [], taus := [(5, [[0, 1, 2, 3, 4, 5, 6, 7, 8, 9, 10, 11, 13, 14, 15, 16, 17, 12, 18, 19, 20, 21]])], pairs := [], lab := [(40000004, [0, 4, 7, 8, 9]), (60000008, [0, 4, 6, 7, 8, 9])] }
noncomputable def body : Code := (Tryz.f5.body).getD .skip
theorem fn : Tryz.prog.funcs[5]? = some Tryz.f5 := by kernel_rfl
theorem ok : codeOk an 46 body = true := by kernel_rfl
noncomputable def L0t : List Item := [.code (sub [1, 1, 0, 1, 0, 0] body), .inLoop (sub [1, 1, 0, 1, 0, 0] body), .inBlock 0, .code (sub [1, 1, 1] body)]
def L0 (l : Option Addr) (ln : Nat) (lc : Nat) (ops : Option Addr) (opsn : Nat) (opsc : Nat) (s7 : Option Addr) (s7n : Nat) (s7c : Nat) (s8 : Int) (s9 : Int) (H : Heap) (R : Ending → Heap → Prop) : Prop :=
  GoL Tryz.prog 5 46 L0t [0, 4, 7, 8, 9] [(.slice l ln lc), (.slice ops opsn opsc), (.slice s7 s7n s7c), (.int .i64 s8), (.int .i64 s9)] H R
noncomputable def L1t : List Item := [.code (sub [1, 1, 0, 1, 0, 0, 1, 1, 0, 0, 1, 1] body), .inBlock 1, .code (sub [1, 1, 0, 1, 0, 0, 1, 1, 1] body), .inLoop (sub [1, 1, 0, 1, 0, 0] body), .inBlock 0, .code (sub [1, 1, 1] body)]
def L1 (l : Option Addr) (ln : Nat) (lc : Nat) (ops : Option Addr) (opsn : Nat) (opsc : Nat) (x : Nat) (s7 : Option Addr) (s7n : Nat) (s7c : Nat) (s8 : Int) (s9 : Int) (H : Heap) (R : Ending → Heap → Prop) : Prop :=
  GoL Tryz.prog 5 46 L1t [0, 4, 6, 7, 8, 9] [(.slice l ln lc), (.slice ops opsn opsc), (.pointer (some ⟨x, 0, none⟩)), (.slice s7 s7n s7c), (.int .i64 s8), (.int .i64 s9)] H R
def L0n (l : Option Addr) (ln : Nat) (lc : Nat) (ops : Option Addr) (opsn : Nat) (opsc : Nat) (s7 : Option Addr) (s7n : Nat) (s7c : Nat) (s8 : Int) (s9 : Int) (H : Heap) (R : Ending → Heap → Prop) : Prop :=
  iteB (decide (s9 < s8)) (
    idxD s7 s7n s9 fun a =>
    ldStr H (Addr.add a (Int.toNat s9 * 6)) fun s =>
    ldStr H (Addr.add (Addr.add a (Int.toNat s9 * 6)) 1) fun s1 =>
    ldInt H (Addr.add (Addr.add a (Int.toNat s9 * 6)) 2) .i64 fun n =>
    ldInt H (Addr.add (Addr.add a (Int.toNat s9 * 6)) 3) .i64 fun n1 =>
    ldInt H (Addr.add (Addr.add a (Int.toNat s9 * 6)) 4) .i64 fun n2 =>
    ldInt H (Addr.add (Addr.add a (Int.toNat s9 * 6)) 5) .i64 fun n3 =>
    newD H (.cells ⟨[(.string (ByteArray.mk #[])), (.string (ByteArray.mk #[])), (.int .i64 (0 : Int)), (.int .i64 (0 : Int)), (.int .i64 (0 : Int)), (.int .i64 (0 : Int))]⟩ 31) fun r H1 =>
    st1 H1 ⟨r, 0, none⟩ (.string s) fun H2 =>
    st1 H2 ⟨r, 1, none⟩ (.string s1) fun H3 =>
    st1 H3 ⟨r, 2, none⟩ (.int .i64 n) fun H4 =>
    st1 H4 ⟨r, 3, none⟩ (.int .i64 n1) fun H5 =>
    st1 H5 ⟨r, 4, none⟩ (.int .i64 n2) fun H6 =>
    st1 H6 ⟨r, 5, none⟩ (.int .i64 n3) fun H7 =>
    iteB (decide (s9 ≥ (300 : Int))) (
      R (.returned (.tuple ⟨[(.slice none 0 0), (.bool false)]⟩)) H7) <|
    ldStr H7 ⟨r, 0, none⟩ fun s2 =>
    iteB (eqS s2 (ByteArray.mk #[])) (
      R (.returned (.tuple ⟨[(.slice none 0 0), (.bool false)]⟩)) H7) <|
    iteB (decide (s9 > (0 : Int))) (
      idxD l ln (IntKind.wrap .i64 (s9 - (1 : Int))) fun a1 =>
      ldStr H7 ⟨r, 0, none⟩ fun s3 =>
      ldStr H7 (Addr.add a1 (Int.toNat (IntKind.wrap .i64 (s9 - (1 : Int))) * 6)) fun s4 =>
      iteB (ltS s3 s4 || eqS s3 s4) (
        R (.returned (.tuple ⟨[(.slice none 0 0), (.bool false)]⟩)) H7) <|
      L1 l ln lc ops opsn opsc r s7 s7n s7c s8 s9 H7 R) <|
    L1 l ln lc ops opsn opsc r s7 s7n s7c s8 s9 H7 R) <|
  R (.returned (.tuple ⟨[(.slice ops opsn opsc), (.bool true)]⟩)) H
theorem L0_step {l : Option Addr} {ln : Nat} {lc : Nat} {ops : Option Addr} {opsn : Nat} {opsc : Nat} {s7 : Option Addr} {s7n : Nat} {s7c : Nat} {s8 : Int} {s9 : Int} {H : Heap} {R : Ending → Heap → Prop} (h : L0n l ln lc ops opsn opsc s7 s7n s7c s8 s9 H R) : L0 l ln lc ops opsn opsc s7 s7n s7c s8 s9 H R :=
  goL_of_den (an := an) (fuel := 100000) (X := L0n l ln lc ops opsn opsc s7 s7n s7c s8 s9 H R) mixed fn (by kernel_rfl) (fun ρ0 => by kernel_rfl) h
def L1n (l : Option Addr) (ln : Nat) (lc : Nat) (ops : Option Addr) (opsn : Nat) (opsc : Nat) (x : Nat) (s7 : Option Addr) (s7n : Nat) (s7c : Nat) (s8 : Int) (s9 : Int) (H : Heap) (R : Ending → Heap → Prop) : Prop :=
  ldStr H ⟨x, 0, none⟩ fun s =>
  ldStr H ⟨x, 1, none⟩ fun s1 =>
  newD H (.cells ⟨[(.int .i64 (2 : Int)), (.int .i64 (0 : Int)), (.int .i64 (0 : Int)), (.string s), (.string (ByteArray.mk #[])), (.string s1), (.int .i64 (0 : Int))]⟩ 29) fun r H1 =>
  apD H1 7 80 [(.int .i64 (0 : Int)), (.int .i64 (0 : Int)), (.int .i64 (0 : Int)), (.string (ByteArray.mk #[])), (.string (ByteArray.mk #[])), (.string (ByteArray.mk #[])), (.int .i64 (0 : Int))] 29 ops opsn opsc (some ⟨r, 0, none⟩) 1 fun q qn qc H2 =>
  L0 l ln lc q qn qc s7 s7n s7c s8 (IntKind.wrap .i64 (s9 + (1 : Int))) H2 R
theorem L1_step {l : Option Addr} {ln : Nat} {lc : Nat} {ops : Option Addr} {opsn : Nat} {opsc : Nat} {x : Nat} {s7 : Option Addr} {s7n : Nat} {s7c : Nat} {s8 : Int} {s9 : Int} {H : Heap} {R : Ending → Heap → Prop} (h : L1n l ln lc ops opsn opsc x s7 s7n s7c s8 s9 H R) : L1 l ln lc ops opsn opsc x s7 s7n s7c s8 s9 H R :=
  goL_of_den (an := an) (fuel := 100000) (X := L1n l ln lc ops opsn opsc x s7 s7n s7c s8 s9 H R) mixed fn (by kernel_rfl) (fun ρ0 => by kernel_rfl) h
def go (l : Option Addr) (ln : Nat) (lc : Nat) (H : Heap) (R : Ending → Heap → Prop) : Prop :=
  L0 l ln lc none 0 0 l ln lc ((ln : Nat) : Int) (0 : Int) H R
theorem calls {l : Option Addr} {ln : Nat} {lc : Nat} {H : Heap} {R : Ending → Heap → Prop} (h : go l ln lc H R) : CallsH Tryz.prog 5 ⟨[(.slice l ln lc)]⟩ H R :=
  callsH_of_den (an := an) (fuel := 100000) (X := go l ln lc H R) (c := body) mixed fn (by kernel_rfl) (by kernel_rfl) (by kernel_rfl) ok (by kernel_rfl) h
end F5
/-! ### 6 "pub-stadtholder/laws.bkLive" -/
namespace F6
def an : Ann := { kinds := [], taus := [], pairs := [], lab := [] }
noncomputable def body : Code := (Tryz.f6.body).getD .skip
theorem fn : Tryz.prog.funcs[6]? = some Tryz.f6 := by kernel_rfl
theorem ok : codeOk an 27 body = true := by kernel_rfl
def go  (H : Heap) (R : Ending → Heap → Prop) : Prop :=
  newD H (.cells ⟨[(.int .i64 (1 : Int)), (.int .i64 (0 : Int)), (.int .i64 (0 : Int)), (.string (ByteArray.mk #[97])), (.string (ByteArray.mk #[])), (.string (ByteArray.mk #[98])), (.int .i64 (0 : Int)), (.int .i64 (9 : Int)), (.int .i64 (0 : Int)), (.int .i64 (0 : Int)), (.string (ByteArray.mk #[])), (.string (ByteArray.mk #[])), (.string (ByteArray.mk #[])), (.int .i64 (0 : Int)), (.int .i64 (5 : Int)), (.int .i64 (0 : Int)), (.int .i64 (0 : Int)), (.string (ByteArray.mk #[97])), (.string (ByteArray.mk #[])), (.string (ByteArray.mk #[])), (.int .i64 (0 : Int))]⟩ 29) fun r H1 =>
  callD Tryz.prog 7 [(.int .i64 (5 : Int)), (.slice (some ⟨r, 0, none⟩) 3 3)] H1 (panK R) fun v H2 =>
  tSl v fun q qn qc =>
  iteB (((qn : Nat) : Int) == (3 : Int)) (
    idxD q qn (2 : Int) fun a =>
    ldSl H2 (Addr.add (Addr.add a (Int.toNat (2 : Int) * 4)) 3) fun q1 q1n q1c =>
    iteB (((q1n : Nat) : Int) == (1 : Int)) (
      idxD q qn (2 : Int) fun a1 =>
      ldSl H2 (Addr.add (Addr.add a1 (Int.toNat (2 : Int) * 4)) 3) fun q2 q2n q2c =>
      idxD q2 q2n (0 : Int) fun a2 =>
      ldStr H2 (Addr.add a2 (Int.toNat (0 : Int) * 1)) fun s =>
      R (.returned (.bool (eqS s (ByteArray.mk #[98])))) H2) <|
    R (.returned (.bool false)) H2) <|
  R (.returned (.bool false)) H2
theorem calls  {H : Heap} {R : Ending → Heap → Prop} (h : go  H R) : CallsH Tryz.prog 6 ⟨[]⟩ H R :=
  callsH_of_den (an := an) (fuel := 100000) (X := go  H R) (c := body) mixed fn (by kernel_rfl) (by kernel_rfl) (by kernel_rfl) ok (by kernel_rfl) h
end F6
/-! ### 7 "pub-stadtholder/impl.Backend" -/
namespace F7
def an : Ann := { kinds := [], taus := [], pairs := [], lab := [(40000006, [1, 5, 6, 7])] }
noncomputable def body : Code := (Tryz.f7.body).getD .skip
theorem fn : Tryz.prog.funcs[7]? = some Tryz.f7 := by kernel_rfl
theorem ok : codeOk an 32 body = true := by kernel_rfl
noncomputable def L0t : List Item := [.code (sub [1, 1, 1, 1, 0, 1, 0, 0] body), .inLoop (sub [1, 1, 1, 1, 0, 1, 0, 0] body), .inBlock 0, .code (sub [1, 1, 1, 1, 1] body)]
def L0 (ops : Option Addr) (opsn : Nat) (opsc : Nat) (x : Nat) (out : Option Addr) (outn : Nat) (outc : Nat) (i : Int) (H : Heap) (R : Ending → Heap → Prop) : Prop :=
  GoL Tryz.prog 7 32 L0t [1, 5, 6, 7] [(.slice ops opsn opsc), (.pointer (some ⟨x, 0, none⟩)), (.slice out outn outc), (.int .i64 i)] H R
def L0n (ops : Option Addr) (opsn : Nat) (opsc : Nat) (x : Nat) (out : Option Addr) (outn : Nat) (outc : Nat) (i : Int) (H : Heap) (R : Ending → Heap → Prop) : Prop :=
  iteB (decide (i < ((opsn : Nat) : Int))) (
    idxD ops opsn i fun a =>
    ldInt H (Addr.add a (Int.toNat i * 7)) .i64 fun n =>
    ldInt H (Addr.add (Addr.add a (Int.toNat i * 7)) 1) .i64 fun n1 =>
    ldInt H (Addr.add (Addr.add a (Int.toNat i * 7)) 2) .i64 fun n2 =>
    ldStr H (Addr.add (Addr.add a (Int.toNat i * 7)) 3) fun s =>
    ldStr H (Addr.add (Addr.add a (Int.toNat i * 7)) 4) fun s1 =>
    ldStr H (Addr.add (Addr.add a (Int.toNat i * 7)) 5) fun s2 =>
    ldInt H (Addr.add (Addr.add a (Int.toNat i * 7)) 6) .i64 fun n3 =>
    callD Tryz.prog 13 [(.pointer (some ⟨x, 0, none⟩)), (.agg ⟨[(.int .i64 n), (.int .i64 n1), (.int .i64 n2), (.string s), (.string s1), (.string s2), (.int .i64 n3)]⟩)] H (panK R) fun v H1 =>
    tAgg v fun l =>
    tCons l fun c l1 =>
    tInt c .i64 fun n4 =>
    tCons l1 fun c1 l2 =>
    tInt c1 .i64 fun n5 =>
    tCons l2 fun c2 l3 =>
    tSl c2 fun q qn qc =>
    tCons l3 fun c3 l4 =>
    tSl c3 fun q1 q1n q1c =>
    tNil l4 <|
    newD H1 (.cells ⟨[(.int .i64 n4), (.int .i64 n5), (.slice q qn qc), (.slice q1 q1n q1c)]⟩ 46) fun r H2 =>
    apD H2 4 64 [(.int .i64 (0 : Int)), (.int .i64 (0 : Int)), (.slice none 0 0), (.slice none 0 0)] 46 out outn outc (some ⟨r, 0, none⟩) 1 fun q2 q2n q2c H3 =>
    L0 ops opsn opsc x q2 q2n q2c (IntKind.wrap .i64 (i + (1 : Int))) H3 R) <|
  R (.returned (.slice out outn outc)) H
theorem L0_step {ops : Option Addr} {opsn : Nat} {opsc : Nat} {x : Nat} {out : Option Addr} {outn : Nat} {outc : Nat} {i : Int} {H : Heap} {R : Ending → Heap → Prop} (h : L0n ops opsn opsc x out outn outc i H R) : L0 ops opsn opsc x out outn outc i H R :=
  goL_of_den (an := an) (fuel := 100000) (X := L0n ops opsn opsc x out outn outc i H R) mixed fn (by kernel_rfl) (fun ρ0 => by kernel_rfl) h
def go (batch : Int) (ops : Option Addr) (opsn : Nat) (opsc : Nat) (H : Heap) (R : Ending → Heap → Prop) : Prop :=
  callD Tryz.prog 11 [] H (panK R) fun v H1 =>
  tPtr v fun p =>
  newD H1 (.map #[] 0) fun r H2 =>
  newD H2 (.cells ⟨[(.int .i64 (if (1 : Int) > batch then (1 : Int) else batch)), (.pointer p), .nilIface, (.slice none 0 0), (.int .i64 (0 : Int)), (.map (some r)), (.string (ByteArray.mk #[]))]⟩ 59) fun r1 H3 =>
  callD Tryz.prog 12 [(.pointer (some ⟨r1, 0, none⟩))] H3 (panK R) fun v1 H4 =>
  tTup v1 fun l =>
  tNil l <|
  L0 ops opsn opsc r1 none 0 0 (0 : Int) H4 R
theorem calls {batch : Int} {ops : Option Addr} {opsn : Nat} {opsc : Nat} {H : Heap} {R : Ending → Heap → Prop} (h : go batch ops opsn opsc H R) : CallsH Tryz.prog 7 ⟨[(.int .i64 batch), (.slice ops opsn opsc)]⟩ H R :=
  callsH_of_den (an := an) (fuel := 100000) (X := go batch ops opsn opsc H R) (c := body) mixed fn (by kernel_rfl) (by kernel_rfl) (by kernel_rfl) ok (by kernel_rfl) h
end F7
/-! ### 8 "(*pub-stadtholder/spec.Backing).Do" -/
namespace F8
def an : Ann := { kinds := [(5014, .grow), (15009, .grow)], taus := [(5, [[0, 1, 2, 3, 4, 5, 6, 7, 8, 10, 12, 15, 16, 17, 18, 19, 21, 23, 26, 27, 30, 31, 9, 11, 13, 20, 22, 24, 14, 25, 28, 29, 32, 33]]), (8, [[0, 1, 2, 3, 4, 5, 6, 8, 11, 12, 7, 9, 10, 13, 14]]), (11, [[0, 1, 2, 3, 4, 6, 8, 10, 5, 7, 9, 11, 12, 13, 14]]), (13, [[0, 1, 2, 3, 4, 6, 8, 10, 5, 7, 9, 11, 12, 13, 14]]), (15, [[0, 1, 2, 3, 5, 6, 7, 4, 8, 9, 10, 11, 12, 13]]), (18, [[0, 1, 2, 4, 6, 10, 12, 14, 3, 5, 7, 8, 9, 11, 13, 15, 16, 17, 18]]), (30, [[0, 1, 2, 3, 4, 5, 6, 7, 9, 10, 8, 11, 12]])], pairs := [], lab := [(30000008, [0, 3, 4, 5, 10]), (60000029, [0, 4, 176]), (30000006, [0, 3, 4, 5])] }
noncomputable def body : Code := (Tryz.f8.body).getD .skip
theorem fn : Tryz.prog.funcs[8]? = some Tryz.f8 := by kernel_rfl
theorem ok : codeOk an 195 body = true := by kernel_rfl
noncomputable def L0t : List Item := [.code (sub [1, 1, 0, 1, 0, 1, 1] body), .inBlock 0, .code (sub [1, 1, 1] body)]
def L0 (s0 : Option Addr) (s3 : Nat) (s4 : Nat) (s5 : Int) (s10 : Int) (H : Heap) (R : Ending → Heap → Prop) : Prop :=
  GoL Tryz.prog 8 195 L0t [0, 3, 4, 5, 10] [(.pointer s0), (.pointer (some ⟨s3, 0, none⟩)), (.pointer (some ⟨s4, 0, none⟩)), (.int .i64 s5), (.int .i64 s10)] H R
noncomputable def L1t : List Item := [.code (sub [1, 1, 0, 1, 0, 1, 1, 1, 1, 1, 1, 1, 1, 1, 1, 1, 1, 1, 1, 1, 1, 1, 1, 1, 0, 0, 1, 0, 0] body), .inLoop (sub [1, 1, 0, 1, 0, 1, 1, 1, 1, 1, 1, 1, 1, 1, 1, 1, 1, 1, 1, 1, 1, 1, 1, 1, 0, 0, 1, 0, 0] body), .inBlock 1, .code (sub [1, 1, 0, 1, 0, 1, 1, 1, 1, 1, 1, 1, 1, 1, 1, 1, 1, 1, 1, 1, 1, 1, 1, 1, 0, 1] body), .inBlock 0, .code (sub [1, 1, 1] body)]
def L1 (s0 : Option Addr) (s4 : Nat) (s176 : Int) (H : Heap) (R : Ending → Heap → Prop) : Prop :=
  GoL Tryz.prog 8 195 L1t [0, 4, 176] [(.pointer s0), (.pointer (some ⟨s4, 0, none⟩)), (.int .i64 s176)] H R
noncomputable def L2t : List Item := [.code (sub [1, 1, 0, 1, 0, 1, 0] body), .inBlock 0, .code (sub [1, 1, 1] body)]
def L2 (s0 : Option Addr) (s3 : Nat) (s4 : Nat) (s5 : Int) (H : Heap) (R : Ending → Heap → Prop) : Prop :=
  GoL Tryz.prog 8 195 L2t [0, 3, 4, 5] [(.pointer s0), (.pointer (some ⟨s3, 0, none⟩)), (.pointer (some ⟨s4, 0, none⟩)), (.int .i64 s5)] H R
def L0n (s0 : Option Addr) (s3 : Nat) (s4 : Nat) (s5 : Int) (s10 : Int) (H : Heap) (R : Ending → Heap → Prop) : Prop :=
  iteB (s10 == (3 : Int)) (
    nilD s0 fun a =>
    idxA 4 s5 <|
    nilD s0 fun a1 =>
    ldSl H (Addr.add (Addr.add a 1) (Int.toNat s5 * 1)) fun q qn qc =>
    ldStr H ⟨s3, 3, none⟩ fun s =>
    callD Tryz.prog 15 [(.slice q qn qc), (.string s)] H (panK R) fun v H1 =>
    tSl v fun q1 q1n q1c =>
    idxA 4 s5 <|
    st1 H1 (Addr.add (Addr.add a1 1) (Int.toNat s5 * 1)) (.slice q1 q1n q1c) fun H2 =>
    nilD s0 fun a2 =>
    ldInt H2 (Addr.add a2 17) .i64 fun n =>
    nilD s0 fun a3 =>
    st1 H2 (Addr.add a3 17) (.int .i64 (IntKind.wrap .i64 (n + (1 : Int)))) fun H3 =>
    nilD s0 fun a4 =>
    st1 H3 (Addr.add a4 18) (.bool true) fun H4 =>
    st1 H4 ⟨s4, 0, none⟩ (.int .i64 (0 : Int)) fun H5 =>
    st1 H5 ⟨s4, 1, none⟩ (.int .i64 (0 : Int)) fun H6 =>
    st1 H6 ⟨s4, 2, none⟩ (.slice none 0 0) fun H7 =>
    st1 H7 ⟨s4, 3, none⟩ (.slice none 0 0) fun H8 =>
    ldInt H8 ⟨s4, 0, none⟩ .i64 fun n1 =>
    ldInt H8 ⟨s4, 1, none⟩ .i64 fun n2 =>
    ldSl H8 ⟨s4, 2, none⟩ fun q2 q2n q2c =>
    ldSl H8 ⟨s4, 3, none⟩ fun q3 q3n q3c =>
    R (.returned (.agg ⟨[(.int .i64 n1), (.int .i64 n2), (.slice q2 q2n q2c), (.slice q3 q3n q3c)]⟩)) H8) <|
  iteB (s10 == (4 : Int)) (
    nilD s0 fun a5 =>
    idxA 4 s5 <|
    ldSl H (Addr.add (Addr.add a5 1) (Int.toNat s5 * 1)) fun q4 q4n q4c =>
    ldStr H ⟨s3, 3, none⟩ fun s1 =>
    ldStr H ⟨s3, 4, none⟩ fun s2 =>
    ldInt H ⟨s3, 6, none⟩ .i64 fun n3 =>
    callD Tryz.prog 17 [(.slice q4 q4n q4c), (.string s1), (.string s2), (.int .i64 n3)] H (panK R) fun v1 H9 =>
    tSl v1 fun q5 q5n q5c =>
    callD Tryz.prog 16 [(.slice q5 q5n q5c)] H9 (panK R) fun v2 H10 =>
    tAgg v2 fun l =>
    tCons l fun c l1 =>
    tInt c .i64 fun n4 =>
    tCons l1 fun c1 l2 =>
    tInt c1 .i64 fun n5 =>
    tCons l2 fun c2 l3 =>
    tSl c2 fun q6 q6n q6c =>
    tCons l3 fun c3 l4 =>
    tSl c3 fun q7 q7n q7c =>
    tNil l4 <|
    st1 H10 ⟨s4, 0, none⟩ (.int .i64 n4) fun H11 =>
    st1 H11 ⟨s4, 1, none⟩ (.int .i64 n5) fun H12 =>
    st1 H12 ⟨s4, 2, none⟩ (.slice q6 q6n q6c) fun H13 =>
    st1 H13 ⟨s4, 3, none⟩ (.slice q7 q7n q7c) fun H14 =>
    ldInt H14 ⟨s4, 0, none⟩ .i64 fun n6 =>
    ldInt H14 ⟨s4, 1, none⟩ .i64 fun n7 =>
    ldSl H14 ⟨s4, 2, none⟩ fun q8 q8n q8c =>
    ldSl H14 ⟨s4, 3, none⟩ fun q9 q9n q9c =>
    R (.returned (.agg ⟨[(.int .i64 n6), (.int .i64 n7), (.slice q8 q8n q8c), (.slice q9 q9n q9c)]⟩)) H14) <|
  iteB (s10 == (5 : Int)) (
    nilD s0 fun a6 =>
    idxA 4 s5 <|
    ldSl H (Addr.add (Addr.add a6 9) (Int.toNat s5 * 2)) fun q10 q10n q10c =>
    ldSl H (Addr.add (Addr.add (Addr.add a6 9) (Int.toNat s5 * 2)) 1) fun q11 q11n q11c =>
    ldStr H ⟨s3, 3, none⟩ fun s6 =>
    ldStr H ⟨s3, 4, none⟩ fun s7 =>
    ldInt H ⟨s3, 6, none⟩ .i64 fun n8 =>
    callD Tryz.prog 18 [(.agg ⟨[(.slice q10 q10n q10c), (.slice q11 q11n q11c)]⟩), (.string s6), (.string s7), (.int .i64 n8)] H (panK R) fun v3 H15 =>
    tSl v3 fun q12 q12n q12c =>
    callD Tryz.prog 16 [(.slice q12 q12n q12c)] H15 (panK R) fun v4 H16 =>
    tAgg v4 fun l5 =>
    tCons l5 fun c4 l6 =>
    tInt c4 .i64 fun n9 =>
    tCons l6 fun c5 l7 =>
    tInt c5 .i64 fun n10 =>
    tCons l7 fun c6 l8 =>
    tSl c6 fun q13 q13n q13c =>
    tCons l8 fun c7 l9 =>
    tSl c7 fun q14 q14n q14c =>
    tNil l9 <|
    st1 H16 ⟨s4, 0, none⟩ (.int .i64 n9) fun H17 =>
    st1 H17 ⟨s4, 1, none⟩ (.int .i64 n10) fun H18 =>
    st1 H18 ⟨s4, 2, none⟩ (.slice q13 q13n q13c) fun H19 =>
    st1 H19 ⟨s4, 3, none⟩ (.slice q14 q14n q14c) fun H20 =>
    ldInt H20 ⟨s4, 0, none⟩ .i64 fun n11 =>
    ldInt H20 ⟨s4, 1, none⟩ .i64 fun n12 =>
    ldSl H20 ⟨s4, 2, none⟩ fun q15 q15n q15c =>
    ldSl H20 ⟨s4, 3, none⟩ fun q16 q16n q16c =>
    R (.returned (.agg ⟨[(.int .i64 n11), (.int .i64 n12), (.slice q15 q15n q15c), (.slice q16 q16n q16c)]⟩)) H20) <|
  iteB (s10 == (6 : Int)) (
    nilD s0 fun a7 =>
    nilD s0 fun a8 =>
    ldSl H (Addr.add a7 19) fun q17 q17n q17c =>
    ldSl H (Addr.add a8 9) fun q18 q18n q18c =>
    ldSl H (Addr.add (Addr.add a8 9) 1) fun q19 q19n q19c =>
    ldSl H (Addr.add (Addr.add a8 9) 2) fun q20 q20n q20c =>
    ldSl H (Addr.add (Addr.add a8 9) 3) fun q21 q21n q21c =>
    ldSl H (Addr.add (Addr.add a8 9) 4) fun q22 q22n q22c =>
    ldSl H (Addr.add (Addr.add a8 9) 5) fun q23 q23n q23c =>
    ldSl H (Addr.add (Addr.add a8 9) 6) fun q24 q24n q24c =>
    ldSl H (Addr.add (Addr.add a8 9) 7) fun q25 q25n q25c =>
    newD H (.cells ⟨[(.slice q18 q18n q18c), (.slice q19 q19n q19c), (.slice q20 q20n q20c), (.slice q21 q21n q21c), (.slice q22 q22n q22c), (.slice q23 q23n q23c), (.slice q24 q24n q24c), (.slice q25 q25n q25c)]⟩ 40) fun r H21 =>
    apD H21 8 192 [(.slice none 0 0), (.slice none 0 0), (.slice none 0 0), (.slice none 0 0), (.slice none 0 0), (.slice none 0 0), (.slice none 0 0), (.slice none 0 0)] 40 q17 q17n q17c (some ⟨r, 0, none⟩) 1 fun q26 q26n q26c H22 =>
    nilD s0 fun a9 =>
    st1 H22 (Addr.add a9 19) (.slice q26 q26n q26c) fun H23 =>
    nilD s0 fun a10 =>
    ldSl H23 (Addr.add a10 19) fun q27 q27n q27c =>
    st1 H23 ⟨s4, 0, none⟩ (.int .i64 (0 : Int)) fun H24 =>
    st1 H24 ⟨s4, 1, none⟩ (.int .i64 (IntKind.wrap .i64 (((q27n : Nat) : Int) - (1 : Int)))) fun H25 =>
    st1 H25 ⟨s4, 2, none⟩ (.slice none 0 0) fun H26 =>
    st1 H26 ⟨s4, 3, none⟩ (.slice none 0 0) fun H27 =>
    ldInt H27 ⟨s4, 0, none⟩ .i64 fun n13 =>
    ldInt H27 ⟨s4, 1, none⟩ .i64 fun n14 =>
    ldSl H27 ⟨s4, 2, none⟩ fun q28 q28n q28c =>
    ldSl H27 ⟨s4, 3, none⟩ fun q29 q29n q29c =>
    R (.returned (.agg ⟨[(.int .i64 n13), (.int .i64 n14), (.slice q28 q28n q28c), (.slice q29 q29n q29c)]⟩)) H27) <|
  iteB (s10 == (7 : Int)) (
    nilD s0 fun a11 =>
    ldSl H (Addr.add a11 19) fun q30 q30n q30c =>
    ldInt H ⟨s3, 2, none⟩ .i64 fun n15 =>
    idxD q30 q30n n15 fun a12 =>
    idxA 4 s5 <|
    ldSl H (Addr.add (Addr.add a12 (Int.toNat n15 * 8)) (Int.toNat s5 * 2)) fun q31 q31n q31c =>
    ldSl H (Addr.add (Addr.add (Addr.add a12 (Int.toNat n15 * 8)) (Int.toNat s5 * 2)) 1) fun q32 q32n q32c =>
    ldStr H ⟨s3, 3, none⟩ fun s8 =>
    ldStr H ⟨s3, 4, none⟩ fun s9 =>
    ldInt H ⟨s3, 6, none⟩ .i64 fun n16 =>
    callD Tryz.prog 18 [(.agg ⟨[(.slice q31 q31n q31c), (.slice q32 q32n q32c)]⟩), (.string s8), (.string s9), (.int .i64 n16)] H (panK R) fun v5 H28 =>
    tSl v5 fun q33 q33n q33c =>
    callD Tryz.prog 16 [(.slice q33 q33n q33c)] H28 (panK R) fun v6 H29 =>
    tAgg v6 fun l10 =>
    tCons l10 fun c8 l11 =>
    tInt c8 .i64 fun n17 =>
    tCons l11 fun c9 l12 =>
    tInt c9 .i64 fun n18 =>
    tCons l12 fun c10 l13 =>
    tSl c10 fun q34 q34n q34c =>
    tCons l13 fun c11 l14 =>
    tSl c11 fun q35 q35n q35c =>
    tNil l14 <|
    st1 H29 ⟨s4, 0, none⟩ (.int .i64 n17) fun H30 =>
    st1 H30 ⟨s4, 1, none⟩ (.int .i64 n18) fun H31 =>
    st1 H31 ⟨s4, 2, none⟩ (.slice q34 q34n q34c) fun H32 =>
    st1 H32 ⟨s4, 3, none⟩ (.slice q35 q35n q35c) fun H33 =>
    ldInt H33 ⟨s4, 0, none⟩ .i64 fun n19 =>
    ldInt H33 ⟨s4, 1, none⟩ .i64 fun n20 =>
    ldSl H33 ⟨s4, 2, none⟩ fun q36 q36n q36c =>
    ldSl H33 ⟨s4, 3, none⟩ fun q37 q37n q37c =>
    R (.returned (.agg ⟨[(.int .i64 n19), (.int .i64 n20), (.slice q36 q36n q36c), (.slice q37 q37n q37c)]⟩)) H33) <|
  iteB (s10 == (8 : Int)) (
    callD Tryz.prog 19 [(.pointer s0)] H (panK R) fun v7 H34 =>
    tTup v7 fun l15 =>
    tNil l15 <|
    st1 H34 ⟨s4, 0, none⟩ (.int .i64 (0 : Int)) fun H35 =>
    st1 H35 ⟨s4, 1, none⟩ (.int .i64 (0 : Int)) fun H36 =>
    st1 H36 ⟨s4, 2, none⟩ (.slice none 0 0) fun H37 =>
    st1 H37 ⟨s4, 3, none⟩ (.slice none 0 0) fun H38 =>
    ldInt H38 ⟨s4, 0, none⟩ .i64 fun n21 =>
    ldInt H38 ⟨s4, 1, none⟩ .i64 fun n22 =>
    ldSl H38 ⟨s4, 2, none⟩ fun q38 q38n q38c =>
    ldSl H38 ⟨s4, 3, none⟩ fun q39 q39n q39c =>
    R (.returned (.agg ⟨[(.int .i64 n21), (.int .i64 n22), (.slice q38 q38n q38c), (.slice q39 q39n q39c)]⟩)) H38) <|
  iteB (s10 == (9 : Int)) (
    callD Tryz.prog 19 [(.pointer s0)] H (panK R) fun v8 H39 =>
    tTup v8 fun l16 =>
    tNil l16 <|
    callD Tryz.prog 20 [(.pointer s0)] H39 (panK R) fun v9 H40 =>
    tTup v9 fun l17 =>
    tNil l17 <|
    st1 H40 ⟨s4, 0, none⟩ (.int .i64 (0 : Int)) fun H41 =>
    st1 H41 ⟨s4, 1, none⟩ (.int .i64 (0 : Int)) fun H42 =>
    st1 H42 ⟨s4, 2, none⟩ (.slice none 0 0) fun H43 =>
    st1 H43 ⟨s4, 3, none⟩ (.slice none 0 0) fun H44 =>
    ldInt H44 ⟨s4, 0, none⟩ .i64 fun n23 =>
    ldInt H44 ⟨s4, 1, none⟩ .i64 fun n24 =>
    ldSl H44 ⟨s4, 2, none⟩ fun q40 q40n q40c =>
    ldSl H44 ⟨s4, 3, none⟩ fun q41 q41n q41c =>
    R (.returned (.agg ⟨[(.int .i64 n23), (.int .i64 n24), (.slice q40 q40n q40c), (.slice q41 q41n q41c)]⟩)) H44) <|
  iteB (s10 == (10 : Int)) (
    nilD s0 fun a13 =>
    idxA 4 s5 <|
    ldSl H (Addr.add (Addr.add a13 9) (Int.toNat s5 * 2)) fun q42 q42n q42c =>
    ldSl H (Addr.add (Addr.add (Addr.add a13 9) (Int.toNat s5 * 2)) 1) fun q43 q43n q43c =>
    callD Tryz.prog 21 [(.agg ⟨[(.slice q42 q42n q42c), (.slice q43 q43n q43c)]⟩)] H (panK R) fun v10 H45 =>
    tSl v10 fun q44 q44n q44c =>
    callD Tryz.prog 16 [(.slice q44 q44n q44c)] H45 (panK R) fun v11 H46 =>
    tAgg v11 fun l18 =>
    tCons l18 fun c12 l19 =>
    tInt c12 .i64 fun n25 =>
    tCons l19 fun c13 l20 =>
    tInt c13 .i64 fun n26 =>
    tCons l20 fun c14 l21 =>
    tSl c14 fun q45 q45n q45c =>
    tCons l21 fun c15 l22 =>
    tSl c15 fun q46 q46n q46c =>
    tNil l22 <|
    st1 H46 ⟨s4, 0, none⟩ (.int .i64 n25) fun H47 =>
    st1 H47 ⟨s4, 1, none⟩ (.int .i64 n26) fun H48 =>
    st1 H48 ⟨s4, 2, none⟩ (.slice q45 q45n q45c) fun H49 =>
    st1 H49 ⟨s4, 3, none⟩ (.slice q46 q46n q46c) fun H50 =>
    ldInt H50 ⟨s4, 0, none⟩ .i64 fun n27 =>
    ldInt H50 ⟨s4, 1, none⟩ .i64 fun n28 =>
    ldSl H50 ⟨s4, 2, none⟩ fun q47 q47n q47c =>
    ldSl H50 ⟨s4, 3, none⟩ fun q48 q48n q48c =>
    R (.returned (.agg ⟨[(.int .i64 n27), (.int .i64 n28), (.slice q47 q47n q47c), (.slice q48 q48n q48c)]⟩)) H50) <|
  iteB (s10 == (11 : Int)) (
    L1 s0 s4 (0 : Int) H R) <|
  st1 H ⟨s4, 0, none⟩ (.int .i64 (0 : Int)) fun H51 =>
  st1 H51 ⟨s4, 1, none⟩ (.int .i64 (0 : Int)) fun H52 =>
  st1 H52 ⟨s4, 2, none⟩ (.slice none 0 0) fun H53 =>
  st1 H53 ⟨s4, 3, none⟩ (.slice none 0 0) fun H54 =>
  ldInt H54 ⟨s4, 0, none⟩ .i64 fun n29 =>
  ldInt H54 ⟨s4, 1, none⟩ .i64 fun n30 =>
  ldSl H54 ⟨s4, 2, none⟩ fun q49 q49n q49c =>
  ldSl H54 ⟨s4, 3, none⟩ fun q50 q50n q50c =>
  R (.returned (.agg ⟨[(.int .i64 n29), (.int .i64 n30), (.slice q49 q49n q49c), (.slice q50 q50n q50c)]⟩)) H54
theorem L0_step {s0 : Option Addr} {s3 : Nat} {s4 : Nat} {s5 : Int} {s10 : Int} {H : Heap} {R : Ending → Heap → Prop} (h : L0n s0 s3 s4 s5 s10 H R) : L0 s0 s3 s4 s5 s10 H R :=
  goL_of_den (an := an) (fuel := 100000) (X := L0n s0 s3 s4 s5 s10 H R) mixed fn (by kernel_rfl) (fun ρ0 => by kernel_rfl) h
def L1n (s0 : Option Addr) (s4 : Nat) (s176 : Int) (H : Heap) (R : Ending → Heap → Prop) : Prop :=
  iteB (decide (s176 < (4 : Int))) (
    nilD s0 fun a =>
    idxA 4 s176 <|
    nilD s0 fun a1 =>
    ldSl H (Addr.add (Addr.add a 9) (Int.toNat s176 * 2)) fun q qn qc =>
    idxA 4 s176 <|
    st1 H (Addr.add (Addr.add a1 1) (Int.toNat s176 * 1)) (.slice q qn qc) fun H1 =>
    L1 s0 s4 (IntKind.wrap .i64 (s176 + (1 : Int))) H1 R) <|
  callD Tryz.prog 20 [(.pointer s0)] H (panK R) fun v H2 =>
  tTup v fun l =>
  tNil l <|
  st1 H2 ⟨s4, 0, none⟩ (.int .i64 (0 : Int)) fun H3 =>
  st1 H3 ⟨s4, 1, none⟩ (.int .i64 (0 : Int)) fun H4 =>
  st1 H4 ⟨s4, 2, none⟩ (.slice none 0 0) fun H5 =>
  st1 H5 ⟨s4, 3, none⟩ (.slice none 0 0) fun H6 =>
  ldInt H6 ⟨s4, 0, none⟩ .i64 fun n =>
  ldInt H6 ⟨s4, 1, none⟩ .i64 fun n1 =>
  ldSl H6 ⟨s4, 2, none⟩ fun q1 q1n q1c =>
  ldSl H6 ⟨s4, 3, none⟩ fun q2 q2n q2c =>
  R (.returned (.agg ⟨[(.int .i64 n), (.int .i64 n1), (.slice q1 q1n q1c), (.slice q2 q2n q2c)]⟩)) H6
theorem L1_step {s0 : Option Addr} {s4 : Nat} {s176 : Int} {H : Heap} {R : Ending → Heap → Prop} (h : L1n s0 s4 s176 H R) : L1 s0 s4 s176 H R :=
  goL_of_den (an := an) (fuel := 100000) (X := L1n s0 s4 s176 H R) mixed fn (by kernel_rfl) (fun ρ0 => by kernel_rfl) h
def L2n (s0 : Option Addr) (s3 : Nat) (s4 : Nat) (s5 : Int) (H : Heap) (R : Ending → Heap → Prop) : Prop :=
  nilD s0 fun a =>
  idxA 4 s5 <|
  nilD s0 fun a1 =>
  idxA 4 s5 <|
  nilD s0 fun a2 =>
  nilD s0 fun a3 =>
  ldSl H (Addr.add (Addr.add a 1) (Int.toNat s5 * 1)) fun q qn qc =>
  ldStr H ⟨s3, 3, none⟩ fun s =>
  ldStr H ⟨s3, 5, none⟩ fun s1 =>
  ldSl H (Addr.add (Addr.add a1 5) (Int.toNat s5 * 1)) fun q1 q1n q1c =>
  ldStr H ⟨s3, 3, none⟩ fun s2 =>
  ldStr H ⟨s3, 5, none⟩ fun s6 =>
  callD Tryz.prog 14 [(.slice q qn qc), (.string s), (.string s1)] H nope fun v H1 =>
  tSl v fun q2 q2n q2c =>
  andD (ExtH H H1) <|
  callD Tryz.prog 14 [(.slice q1 q1n q1c), (.string s2), (.string s6)] H1 (panK R) fun v1 H2 =>
  tSl v1 fun q3 q3n q3c =>
  idxA 4 s5 <|
  st1 H2 (Addr.add (Addr.add a2 1) (Int.toNat s5 * 1)) (.slice q2 q2n q2c) fun H3 =>
  idxA 4 s5 <|
  st1 H3 (Addr.add (Addr.add a3 5) (Int.toNat s5 * 1)) (.slice q3 q3n q3c) fun H4 =>
  nilD s0 fun a4 =>
  ldInt H4 (Addr.add a4 17) .i64 fun n =>
  nilD s0 fun a5 =>
  st1 H4 (Addr.add a5 17) (.int .i64 (IntKind.wrap .i64 (n + (1 : Int)))) fun H5 =>
  st1 H5 ⟨s4, 0, none⟩ (.int .i64 (0 : Int)) fun H6 =>
  st1 H6 ⟨s4, 1, none⟩ (.int .i64 (0 : Int)) fun H7 =>
  st1 H7 ⟨s4, 2, none⟩ (.slice none 0 0) fun H8 =>
  st1 H8 ⟨s4, 3, none⟩ (.slice none 0 0) fun H9 =>
  ldInt H9 ⟨s4, 0, none⟩ .i64 fun n1 =>
  ldInt H9 ⟨s4, 1, none⟩ .i64 fun n2 =>
  ldSl H9 ⟨s4, 2, none⟩ fun q4 q4n q4c =>
  ldSl H9 ⟨s4, 3, none⟩ fun q5 q5n q5c =>
  R (.returned (.agg ⟨[(.int .i64 n1), (.int .i64 n2), (.slice q4 q4n q4c), (.slice q5 q5n q5c)]⟩)) H9
theorem L2_step {s0 : Option Addr} {s3 : Nat} {s4 : Nat} {s5 : Int} {H : Heap} {R : Ending → Heap → Prop} (h : L2n s0 s3 s4 s5 H R) : L2 s0 s3 s4 s5 H R :=
  goL_of_den (an := an) (fuel := 100000) (X := L2n s0 s3 s4 s5 H R) mixed fn (by kernel_rfl) (fun ρ0 => by kernel_rfl) h
def go (s0 : Option Addr) (s1_0 : Int) (s1_1 : Int) (s1_2 : Int) (s1_3 : ByteArray) (s1_4 : ByteArray) (s1_5 : ByteArray) (s1_6 : Int) (H : Heap) (R : Ending → Heap → Prop) : Prop :=
  newD H (.cells ⟨[(.int .i64 s1_0), (.int .i64 s1_1), (.int .i64 s1_2), (.string s1_3), (.string s1_4), (.string s1_5), (.int .i64 s1_6)]⟩ 29) fun r H1 =>
  newD H1 (.cells ⟨[(.int .i64 (0 : Int)), (.int .i64 (0 : Int)), (.slice none 0 0), (.slice none 0 0)]⟩ 46) fun r1 H2 =>
  ldInt H2 ⟨r, 1, none⟩ .i64 fun n =>
  ldInt H2 ⟨r, 0, none⟩ .i64 fun n1 =>
  iteB (n1 == (1 : Int)) (
    iteB (n1 == (1 : Int)) (
      L2 s0 r r1 n H2 R) <|
    L0 s0 r r1 n n1 H2 R) <|
  iteB (n1 == (2 : Int)) (
    L2 s0 r r1 n H2 R) <|
  L0 s0 r r1 n n1 H2 R
theorem calls {s0 : Option Addr} {s1_0 : Int} {s1_1 : Int} {s1_2 : Int} {s1_3 : ByteArray} {s1_4 : ByteArray} {s1_5 : ByteArray} {s1_6 : Int} {H : Heap} {R : Ending → Heap → Prop} (h : go s0 s1_0 s1_1 s1_2 s1_3 s1_4 s1_5 s1_6 H R) : CallsH Tryz.prog 8 ⟨[(.pointer s0), (.agg ⟨[(.int .i64 s1_0), (.int .i64 s1_1), (.int .i64 s1_2), (.string s1_3), (.string s1_4), (.string s1_5), (.int .i64 s1_6)]⟩)]⟩ H R :=
  callsH_of_den (an := an) (fuel := 100000) (X := go s0 s1_0 s1_1 s1_2 s1_3 s1_4 s1_5 s1_6 H R) (c := body) mixed fn (by kernel_rfl) (by kernel_rfl) (by kernel_rfl) ok (by kernel_rfl) h
end F8
/-! ### 9 "pub-stadtholder/laws.bkSame" -/
namespace F9
def an : Ann := { kinds := [], taus := [], pairs := [], lab := [] }
noncomputable def body : Code := (Tryz.f9.body).getD .skip
theorem fn : Tryz.prog.funcs[9]? = some Tryz.f9 := by kernel_rfl
theorem ok : codeOk an 31 body = true := by kernel_rfl
def go (a_0 : Int) (a_1 : Int) (a_2 : Option Addr) (a_2n : Nat) (a_2c : Nat) (a_3 : Option Addr) (a_3n : Nat) (a_3c : Nat) (b_0 : Int) (b_1 : Int) (b_2 : Option Addr) (b_2n : Nat) (b_2c : Nat) (b_3 : Option Addr) (b_3n : Nat) (b_3c : Nat) (H : Heap) (R : Ending → Heap → Prop) : Prop :=
  newD H (.cells ⟨[(.int .i64 a_0), (.int .i64 a_1), (.slice a_2 a_2n a_2c), (.slice a_3 a_3n a_3c)]⟩ 46) fun r H1 =>
  newD H1 (.cells ⟨[(.int .i64 b_0), (.int .i64 b_1), (.slice b_2 b_2n b_2c), (.slice b_3 b_3n b_3c)]⟩ 46) fun r1 H2 =>
  ldInt H2 ⟨r, 0, none⟩ .i64 fun n =>
  ldInt H2 ⟨r1, 0, none⟩ .i64 fun n1 =>
  iteB (n == n1) (
    ldInt H2 ⟨r, 1, none⟩ .i64 fun n2 =>
    ldInt H2 ⟨r1, 1, none⟩ .i64 fun n3 =>
    iteB (n2 == n3) (
      ldSl H2 ⟨r, 2, none⟩ fun q qn qc =>
      ldSl H2 ⟨r1, 2, none⟩ fun q1 q1n q1c =>
      callD Tryz.prog 22 [(.slice q qn qc), (.slice q1 q1n q1c)] H2 (panK R) fun v H3 =>
      tBool v fun b =>
      iteB b (
        ldSl H3 ⟨r, 3, none⟩ fun q2 q2n q2c =>
        ldSl H3 ⟨r1, 3, none⟩ fun q3 q3n q3c =>
        callD Tryz.prog 22 [(.slice q2 q2n q2c), (.slice q3 q3n q3c)] H3 (panK R) fun v1 H4 =>
        tBool v1 fun b1 =>
        R (.returned (.bool b1)) H4) <|
      R (.returned (.bool false)) H3) <|
    R (.returned (.bool false)) H2) <|
  R (.returned (.bool false)) H2
theorem calls {a_0 : Int} {a_1 : Int} {a_2 : Option Addr} {a_2n : Nat} {a_2c : Nat} {a_3 : Option Addr} {a_3n : Nat} {a_3c : Nat} {b_0 : Int} {b_1 : Int} {b_2 : Option Addr} {b_2n : Nat} {b_2c : Nat} {b_3 : Option Addr} {b_3n : Nat} {b_3c : Nat} {H : Heap} {R : Ending → Heap → Prop} (h : go a_0 a_1 a_2 a_2n a_2c a_3 a_3n a_3c b_0 b_1 b_2 b_2n b_2c b_3 b_3n b_3c H R) : CallsH Tryz.prog 9 ⟨[(.agg ⟨[(.int .i64 a_0), (.int .i64 a_1), (.slice a_2 a_2n a_2c), (.slice a_3 a_3n a_3c)]⟩), (.agg ⟨[(.int .i64 b_0), (.int .i64 b_1), (.slice b_2 b_2n b_2c), (.slice b_3 b_3n b_3c)]⟩)]⟩ H R :=
  callsH_of_den (an := an) (fuel := 100000) (X := go a_0 a_1 a_2 a_2n a_2c a_3 a_3n a_3c b_0 b_1 b_2 b_2n b_2c b_3 b_3n b_3c H R) (c := body) mixed fn (by kernel_rfl) (by kernel_rfl) (by kernel_rfl) ok (by kernel_rfl) h
end F9
/-! ### 10 "pub-stadtholder/laws.zzFits14" -/
namespace F10
def an : Ann := { kinds := [], taus := [], pairs := [], lab := [] }
noncomputable def body : Code := (Tryz.f10.body).getD .skip
theorem fn : Tryz.prog.funcs[10]? = some Tryz.f10 := by kernel_rfl
theorem ok : codeOk an 11 body = true := by kernel_rfl
def go (x_0 : ByteArray) (x_1 : ByteArray) (x_2 : Int) (x_3 : Int) (x_4 : Int) (x_5 : Int) (H : Heap) (R : Ending → Heap → Prop) : Prop :=
  newD H (.cells ⟨[(.string x_0), (.string x_1), (.int .i64 x_2), (.int .i64 x_3), (.int .i64 x_4), (.int .i64 x_5)]⟩ 31) fun r H1 =>
  ldStr H1 ⟨r, 0, none⟩ fun s =>
  iteB (decide (((ByteArray.size s : Nat) : Int) > (2147483647 : Int))) (
    R (.returned (.bool false)) H1) <|
  ldStr H1 ⟨r, 1, none⟩ fun s1 =>
  iteB (decide (((ByteArray.size s1 : Nat) : Int) > (2147483647 : Int))) (
    R (.returned (.bool false)) H1) <|
  R (.returned (.bool true)) H1
theorem calls {x_0 : ByteArray} {x_1 : ByteArray} {x_2 : Int} {x_3 : Int} {x_4 : Int} {x_5 : Int} {H : Heap} {R : Ending → Heap → Prop} (h : go x_0 x_1 x_2 x_3 x_4 x_5 H R) : CallsH Tryz.prog 10 ⟨[(.agg ⟨[(.string x_0), (.string x_1), (.int .i64 x_2), (.int .i64 x_3), (.int .i64 x_4), (.int .i64 x_5)]⟩)]⟩ H R :=
  callsH_of_den (an := an) (fuel := 100000) (X := go x_0 x_1 x_2 x_3 x_4 x_5 H R) (c := body) mixed fn (by kernel_rfl) (by kernel_rfl) (by kernel_rfl) ok (by kernel_rfl) h
end F10
/-! ### 13 "(*pub-stadtholder/impl.vault).do" -/
namespace F13
def an : Ann := { kinds := [(10014, .heavy 0), (13006, .heavy 0), (16004, .loud), (16007, .loud), (17004, .loud), (17007, .loud), (19004, .loud), (21004, .grow), (21007, .grow), (24004, .grow), (27009, .grow), (27010, .grow)], taus := [(10, [[0, 1, 2, 3, 4, 5, 6, 7, 8, 9, 10, 12, 11, 13, 14, 15, 16, 17, 18, 19, 20, 21, 22, 23, 24, 25, 26, 28, 29, 30, 27, 31, 32, 33, 34, 35]]), (13, [[0, 1, 2, 4, 3, 5, 6]]), (14, [[0, 1, 2, 3, 5, 4, 6, 7, 8, 9, 10]]), (21, [[0, 1, 2, 5, 8, 10, 11, 12, 3, 6, 9, 4, 7, 13, 14, 15, 16, 17, 18], [0, 1, 2, 5, 8, 10, 11, 12, 3, 6, 9, 7, 4, 13, 14, 15, 16, 17, 18]]), (24, [[0, 1, 2, 3, 5, 4, 6, 7]]), (27, [[0, 1, 2, 3, 5, 6, 7, 4, 8, 9, 10, 11, 12, 13, 14]]), (29, [[0, 2, 3, 4, 1, 5, 6, 7, 8, 10, 11, 12, 9, 13, 14, 15, 16]]), (31, [[0, 1, 2, 4, 3, 5, 6, 7, 8, 9, 10]])], pairs := [(21, [(4, 7)])], lab := [(10000006, [0, 3, 4, 5, 6]), (30000019, [0, 3, 4, 5, 6, 7, 29]), (30000032, [0, 3, 4, 5]), (30000023, [4, 5, 8, 9]), (30000011, [0, 3, 4, 5, 6, 7]), (30000013, [0, 3, 4, 5, 6, 7]), (30000016, [3, 4, 5, 6, 7])] }
noncomputable def body : Code := (Tryz.f13.body).getD .skip
theorem fn : Tryz.prog.funcs[13]? = some Tryz.f13 := by kernel_rfl
theorem ok : codeOk an 255 body = true := by kernel_rfl
noncomputable def L0t : List Item := [.code (sub [1, 1, 1, 1] body)]
def L0 (s0 : Option Addr) (s3 : Nat) (s4 : Nat) (s5 : Nat) (s6 : IV) (H : Heap) (R : Ending → Heap → Prop) : Prop :=
  GoL Tryz.prog 13 255 L0t [0, 3, 4, 5, 6] [(.pointer s0), (.pointer (some ⟨s3, 0, none⟩)), (.pointer (some ⟨s4, 0, none⟩)), (.pointer (some ⟨s5, 0, none⟩)), (IV.v s6)] H R
noncomputable def L1t : List Item := [.code (sub [1, 1, 1, 1, 1, 0, 1, 0, 1, 1] body), .inBlock 0, .code (sub [1, 1, 1, 1, 1, 1] body)]
def L1 (s0 : Option Addr) (s3 : Nat) (s4 : Nat) (s5 : Nat) (s6 : IV) (s7 : IV) (s29 : Int) (H : Heap) (R : Ending → Heap → Prop) : Prop :=
  GoL Tryz.prog 13 255 L1t [0, 3, 4, 5, 6, 7, 29] [(.pointer s0), (.pointer (some ⟨s3, 0, none⟩)), (.pointer (some ⟨s4, 0, none⟩)), (.pointer (some ⟨s5, 0, none⟩)), (IV.v s6), (IV.v s7), (.int .i64 s29)] H R
noncomputable def L2t : List Item := [.code (sub [1, 1, 1, 1, 1, 0, 1, 0, 1, 1, 1, 1, 1, 1, 1, 1, 1, 1, 1, 0, 1] body), .inBlock 0, .code (sub [1, 1, 1, 1, 1, 1] body)]
def L2 (s0 : Option Addr) (s3 : Nat) (s4 : Nat) (s5 : Nat) (H : Heap) (R : Ending → Heap → Prop) : Prop :=
  GoL Tryz.prog 13 255 L2t [0, 3, 4, 5] [(.pointer s0), (.pointer (some ⟨s3, 0, none⟩)), (.pointer (some ⟨s4, 0, none⟩)), (.pointer (some ⟨s5, 0, none⟩))] H R
noncomputable def L3t : List Item := [.code (sub [1, 1, 1, 1, 1, 0, 1, 0, 1, 1, 1, 1, 1, 0, 1] body), .inBlock 0, .code (sub [1, 1, 1, 1, 1, 1] body)]
def L3 (s4 : Nat) (s5 : Nat) (s8 : Option Addr) (s8n : Nat) (s8c : Nat) (s9 : Option Addr) (s9n : Nat) (s9c : Nat) (H : Heap) (R : Ending → Heap → Prop) : Prop :=
  GoL Tryz.prog 13 255 L3t [4, 5, 8, 9] [(.pointer (some ⟨s4, 0, none⟩)), (.pointer (some ⟨s5, 0, none⟩)), (.slice s8 s8n s8c), (.slice s9 s9n s9c)] H R
noncomputable def L4t : List Item := [.code (sub [1, 1, 1, 1, 1, 0, 1, 0, 1, 0] body), .inBlock 0, .code (sub [1, 1, 1, 1, 1, 1] body)]
def L4 (s0 : Option Addr) (s3 : Nat) (s4 : Nat) (s5 : Nat) (s6 : IV) (s7 : IV) (H : Heap) (R : Ending → Heap → Prop) : Prop :=
  GoL Tryz.prog 13 255 L4t [0, 3, 4, 5, 6, 7] [(.pointer s0), (.pointer (some ⟨s3, 0, none⟩)), (.pointer (some ⟨s4, 0, none⟩)), (.pointer (some ⟨s5, 0, none⟩)), (IV.v s6), (IV.v s7)] H R
noncomputable def L5t : List Item := [.code (sub [1, 1, 1, 1, 1, 0, 1, 0, 1, 0, 1] body), .inBlock 0, .code (sub [1, 1, 1, 1, 1, 1] body)]
def L5 (s0 : Option Addr) (s3 : Nat) (s4 : Nat) (s5 : Nat) (s6 : IV) (s7 : IV) (H : Heap) (R : Ending → Heap → Prop) : Prop :=
  GoL Tryz.prog 13 255 L5t [0, 3, 4, 5, 6, 7] [(.pointer s0), (.pointer (some ⟨s3, 0, none⟩)), (.pointer (some ⟨s4, 0, none⟩)), (.pointer (some ⟨s5, 0, none⟩)), (IV.v s6), (IV.v s7)] H R
noncomputable def L6t : List Item := [.code (sub [1, 1, 1, 1, 1, 0, 1, 0, 1, 0, 1, 1] body), .inBlock 0, .code (sub [1, 1, 1, 1, 1, 1] body)]
def L6 (s3 : Nat) (s4 : Nat) (s5 : Nat) (s6 : IV) (s7 : IV) (H : Heap) (R : Ending → Heap → Prop) : Prop :=
  GoL Tryz.prog 13 255 L6t [3, 4, 5, 6, 7] [(.pointer (some ⟨s3, 0, none⟩)), (.pointer (some ⟨s4, 0, none⟩)), (.pointer (some ⟨s5, 0, none⟩)), (IV.v s6), (IV.v s7)] H R
def L0n (s0 : Option Addr) (s3 : Nat) (s4 : Nat) (s5 : Nat) (s6 : IV) (H : Heap) (R : Ending → Heap → Prop) : Prop :=
  ldInt H ⟨s3, 1, none⟩ .i64 fun n =>
  callD Tryz.prog 24 [(.int .i64 n)] H (panK R) fun v H1 =>
  tIf v fun i =>
  ldInt H1 ⟨s3, 0, none⟩ .i64 fun n1 =>
  iteB (n1 == (1 : Int)) (
    iteB (n1 == (1 : Int)) (
      L4 s0 s3 s4 s5 s6 i H1 R) <|
    L1 s0 s3 s4 s5 s6 i n1 H1 R) <|
  iteB (n1 == (2 : Int)) (
    L4 s0 s3 s4 s5 s6 i H1 R) <|
  L1 s0 s3 s4 s5 s6 i n1 H1 R
theorem L0_step {s0 : Option Addr} {s3 : Nat} {s4 : Nat} {s5 : Nat} {s6 : IV} {H : Heap} {R : Ending → Heap → Prop} (h : L0n s0 s3 s4 s5 s6 H R) : L0 s0 s3 s4 s5 s6 H R :=
  goL_of_den (an := an) (fuel := 100000) (X := L0n s0 s3 s4 s5 s6 H R) mixed fn (by kernel_rfl) (fun ρ0 => by kernel_rfl) h
def L1n (s0 : Option Addr) (s3 : Nat) (s4 : Nat) (s5 : Nat) (s6 : IV) (s7 : IV) (s29 : Int) (H : Heap) (R : Ending → Heap → Prop) : Prop :=
  iteB (s29 == (3 : Int)) (
    ldStr H ⟨s3, 3, none⟩ fun s =>
    sbD H 5 s fun r c H1 =>
    callI Tryz.prog (IV.v s6) "UnsafeDelete" [(IV.v s7), (.slice (some ⟨r, 0, none⟩) (ByteArray.size s) c)] H1 (panK R) fun v H2 =>
    tTup v fun l =>
    tNil l <|
    ldInt H2 ⟨s5, 0, none⟩ .i64 fun n =>
    ldInt H2 ⟨s5, 1, none⟩ .i64 fun n1 =>
    ldSl H2 ⟨s5, 2, none⟩ fun q qn qc =>
    ldSl H2 ⟨s5, 3, none⟩ fun q1 q1n q1c =>
    st1 H2 ⟨s4, 0, none⟩ (.int .i64 n) fun H3 =>
    st1 H3 ⟨s4, 1, none⟩ (.int .i64 n1) fun H4 =>
    st1 H4 ⟨s4, 2, none⟩ (.slice q qn qc) fun H5 =>
    st1 H5 ⟨s4, 3, none⟩ (.slice q1 q1n q1c) fun H6 =>
    ldInt H6 ⟨s4, 0, none⟩ .i64 fun n2 =>
    ldInt H6 ⟨s4, 1, none⟩ .i64 fun n3 =>
    ldSl H6 ⟨s4, 2, none⟩ fun q2 q2n q2c =>
    ldSl H6 ⟨s4, 3, none⟩ fun q3 q3n q3c =>
    R (.returned (.agg ⟨[(.int .i64 n2), (.int .i64 n3), (.slice q2 q2n q2c), (.slice q3 q3n q3c)]⟩)) H6) <|
  iteB (s29 == (4 : Int)) (
    (
      nilM Tryz.prog "UnsafeRange" ⟨[(IV.v s6)]⟩ <|
      ldStr H ⟨s3, 3, none⟩ fun s1 =>
      ldStr H ⟨s3, 4, none⟩ fun s2 =>
      ldInt H ⟨s3, 6, none⟩ .i64 fun n4 =>
      sbD H 5 s1 fun r1 c1 H7 =>
      callD Tryz.prog 25 [(.string s2)] H7 nope fun v1 H8 =>
      tSl v1 fun q4 q4n q4c =>
      andD (ExtH H7 H8) <|
      callI Tryz.prog (IV.v s6) "UnsafeRange" [(IV.v s7), (.slice (some ⟨r1, 0, none⟩) (ByteArray.size s1) c1), (.slice q4 q4n q4c), (.int .i64 n4)] H8 (panK R) fun v2 H9 =>
      tTup v2 fun l1 =>
      tCons l1 fun c2 l2 =>
      tSl c2 fun q5 q5n q5c =>
      tCons l2 fun c3 l3 =>
      tSl c3 fun q6 q6n q6c =>
      tNil l3 <|
      L3 s4 s5 q5 q5n q5c q6 q6n q6c H9 R) ∧
    (
      nilM Tryz.prog "UnsafeRange" ⟨[(IV.v s6)]⟩ <|
      ldStr H ⟨s3, 3, none⟩ fun s8 =>
      ldStr H ⟨s3, 4, none⟩ fun s9 =>
      ldInt H ⟨s3, 6, none⟩ .i64 fun n5 =>
      callD Tryz.prog 25 [(.string s9)] H nope fun v3 H10 =>
      tSl v3 fun q7 q7n q7c =>
      andD (ExtH H H10) <|
      sbD H10 5 s8 fun r2 c4 H11 =>
      callI Tryz.prog (IV.v s6) "UnsafeRange" [(IV.v s7), (.slice (some ⟨r2, 0, none⟩) (ByteArray.size s8) c4), (.slice q7 q7n q7c), (.int .i64 n5)] H11 (panK R) fun v4 H12 =>
      tTup v4 fun l4 =>
      tCons l4 fun c5 l5 =>
      tSl c5 fun q8 q8n q8c =>
      tCons l5 fun c6 l6 =>
      tSl c6 fun q9 q9n q9c =>
      tNil l6 <|
      L3 s4 s5 q8 q8n q8c q9 q9n q9c H12 R)) <|
  iteB (s29 == (5 : Int)) (
    nilD s0 fun a =>
    ldIf H (Addr.add a 2) fun i =>
    ldInt H ⟨s3, 0, none⟩ .i64 fun n6 =>
    ldInt H ⟨s3, 1, none⟩ .i64 fun n7 =>
    ldInt H ⟨s3, 2, none⟩ .i64 fun n8 =>
    ldStr H ⟨s3, 3, none⟩ fun s10 =>
    ldStr H ⟨s3, 4, none⟩ fun s11 =>
    ldStr H ⟨s3, 5, none⟩ fun s12 =>
    ldInt H ⟨s3, 6, none⟩ .i64 fun n9 =>
    callI Tryz.prog (IV.v i) "ReadTx" [] H nope fun v5 H13 =>
    tIf v5 fun i1 =>
    andD (ExtH H H13) <|
    callD Tryz.prog 27 [(IV.v i1), (.agg ⟨[(.int .i64 n6), (.int .i64 n7), (.int .i64 n8), (.string s10), (.string s11), (.string s12), (.int .i64 n9)]⟩)] H13 (panK R) fun v6 H14 =>
    tAgg v6 fun l7 =>
    tCons l7 fun c7 l8 =>
    tInt c7 .i64 fun n10 =>
    tCons l8 fun c8 l9 =>
    tInt c8 .i64 fun n11 =>
    tCons l9 fun c9 l10 =>
    tSl c9 fun q10 q10n q10c =>
    tCons l10 fun c10 l11 =>
    tSl c10 fun q11 q11n q11c =>
    tNil l11 <|
    st1 H14 ⟨s5, 0, none⟩ (.int .i64 n10) fun H15 =>
    st1 H15 ⟨s5, 1, none⟩ (.int .i64 n11) fun H16 =>
    st1 H16 ⟨s5, 2, none⟩ (.slice q10 q10n q10c) fun H17 =>
    st1 H17 ⟨s5, 3, none⟩ (.slice q11 q11n q11c) fun H18 =>
    ldInt H18 ⟨s5, 0, none⟩ .i64 fun n12 =>
    ldInt H18 ⟨s5, 1, none⟩ .i64 fun n13 =>
    ldSl H18 ⟨s5, 2, none⟩ fun q12 q12n q12c =>
    ldSl H18 ⟨s5, 3, none⟩ fun q13 q13n q13c =>
    st1 H18 ⟨s4, 0, none⟩ (.int .i64 n12) fun H19 =>
    st1 H19 ⟨s4, 1, none⟩ (.int .i64 n13) fun H20 =>
    st1 H20 ⟨s4, 2, none⟩ (.slice q12 q12n q12c) fun H21 =>
    st1 H21 ⟨s4, 3, none⟩ (.slice q13 q13n q13c) fun H22 =>
    ldInt H22 ⟨s4, 0, none⟩ .i64 fun n14 =>
    ldInt H22 ⟨s4, 1, none⟩ .i64 fun n15 =>
    ldSl H22 ⟨s4, 2, none⟩ fun q14 q14n q14c =>
    ldSl H22 ⟨s4, 3, none⟩ fun q15 q15n q15c =>
    R (.returned (.agg ⟨[(.int .i64 n14), (.int .i64 n15), (.slice q14 q14n q14c), (.slice q15 q15n q15c)]⟩)) H22) <|
  iteB (s29 == (6 : Int)) (
    nilD s0 fun a1 =>
    ldSl H (Addr.add a1 3) fun q16 q16n q16c =>
    st1 H ⟨s5, 1, none⟩ (.int .i64 ((q16n : Nat) : Int)) fun H23 =>
    nilD s0 fun a2 =>
    nilD s0 fun a3 =>
    ldSl H23 (Addr.add a2 3) fun q17 q17n q17c =>
    ldIf H23 (Addr.add a3 2) fun i2 =>
    callI Tryz.prog (IV.v i2) "ConcurrentReadTx" [] H23 nope fun v7 H24 =>
    tIf v7 fun i3 =>
    andD (ExtH H23 H24) <|
    guardB (isCell (IV.v i3)) <|
    newD H24 (.cells ⟨[(IV.v i3)]⟩ 87) fun r3 H25 =>
    apD H25 1 16 [.nilIface] 87 q17 q17n q17c (some ⟨r3, 0, none⟩) 1 fun q18 q18n q18c H26 =>
    nilD s0 fun a4 =>
    st1 H26 (Addr.add a4 3) (.slice q18 q18n q18c) fun H27 =>
    ldInt H27 ⟨s5, 0, none⟩ .i64 fun n16 =>
    ldInt H27 ⟨s5, 1, none⟩ .i64 fun n17 =>
    ldSl H27 ⟨s5, 2, none⟩ fun q19 q19n q19c =>
    ldSl H27 ⟨s5, 3, none⟩ fun q20 q20n q20c =>
    st1 H27 ⟨s4, 0, none⟩ (.int .i64 n16) fun H28 =>
    st1 H28 ⟨s4, 1, none⟩ (.int .i64 n17) fun H29 =>
    st1 H29 ⟨s4, 2, none⟩ (.slice q19 q19n q19c) fun H30 =>
    st1 H30 ⟨s4, 3, none⟩ (.slice q20 q20n q20c) fun H31 =>
    ldInt H31 ⟨s4, 0, none⟩ .i64 fun n18 =>
    ldInt H31 ⟨s4, 1, none⟩ .i64 fun n19 =>
    ldSl H31 ⟨s4, 2, none⟩ fun q21 q21n q21c =>
    ldSl H31 ⟨s4, 3, none⟩ fun q22 q22n q22c =>
    R (.returned (.agg ⟨[(.int .i64 n18), (.int .i64 n19), (.slice q21 q21n q21c), (.slice q22 q22n q22c)]⟩)) H31) <|
  iteB (s29 == (7 : Int)) (
    nilD s0 fun a5 =>
    ldInt H ⟨s3, 2, none⟩ .i64 fun n20 =>
    ldInt H (Addr.add a5 4) .i64 fun n21 =>
    iteB (decide (n20 < n21)) (
      st1 H ⟨s4, 0, none⟩ (.int .i64 (11 : Int)) fun H32 =>
      st1 H32 ⟨s4, 1, none⟩ (.int .i64 (0 : Int)) fun H33 =>
      st1 H33 ⟨s4, 2, none⟩ (.slice none 0 0) fun H34 =>
      st1 H34 ⟨s4, 3, none⟩ (.slice none 0 0) fun H35 =>
      ldInt H35 ⟨s4, 0, none⟩ .i64 fun n22 =>
      ldInt H35 ⟨s4, 1, none⟩ .i64 fun n23 =>
      ldSl H35 ⟨s4, 2, none⟩ fun q23 q23n q23c =>
      ldSl H35 ⟨s4, 3, none⟩ fun q24 q24n q24c =>
      R (.returned (.agg ⟨[(.int .i64 n22), (.int .i64 n23), (.slice q23 q23n q23c), (.slice q24 q24n q24c)]⟩)) H35) <|
    nilD s0 fun a6 =>
    ldInt H ⟨s3, 2, none⟩ .i64 fun n24 =>
    ldSl H (Addr.add a6 3) fun q25 q25n q25c =>
    iteB (decide (n24 ≥ ((q25n : Nat) : Int))) (
      st1 H ⟨s4, 0, none⟩ (.int .i64 (11 : Int)) fun H36 =>
      st1 H36 ⟨s4, 1, none⟩ (.int .i64 (0 : Int)) fun H37 =>
      st1 H37 ⟨s4, 2, none⟩ (.slice none 0 0) fun H38 =>
      st1 H38 ⟨s4, 3, none⟩ (.slice none 0 0) fun H39 =>
      ldInt H39 ⟨s4, 0, none⟩ .i64 fun n25 =>
      ldInt H39 ⟨s4, 1, none⟩ .i64 fun n26 =>
      ldSl H39 ⟨s4, 2, none⟩ fun q26 q26n q26c =>
      ldSl H39 ⟨s4, 3, none⟩ fun q27 q27n q27c =>
      R (.returned (.agg ⟨[(.int .i64 n25), (.int .i64 n26), (.slice q26 q26n q26c), (.slice q27 q27n q27c)]⟩)) H39) <|
    L2 s0 s3 s4 s5 H R) <|
  iteB (s29 == (8 : Int)) (
    callI Tryz.prog (IV.v s6) "Unlock" [] H (panK R) fun v8 H40 =>
    tTup v8 fun l12 =>
    tNil l12 <|
    callI Tryz.prog (IV.v s6) "LockOutsideApply" [] H40 (panK R) fun v9 H41 =>
    tTup v9 fun l13 =>
    tNil l13 <|
    ldInt H41 ⟨s5, 0, none⟩ .i64 fun n27 =>
    ldInt H41 ⟨s5, 1, none⟩ .i64 fun n28 =>
    ldSl H41 ⟨s5, 2, none⟩ fun q28 q28n q28c =>
    ldSl H41 ⟨s5, 3, none⟩ fun q29 q29n q29c =>
    st1 H41 ⟨s4, 0, none⟩ (.int .i64 n27) fun H42 =>
    st1 H42 ⟨s4, 1, none⟩ (.int .i64 n28) fun H43 =>
    st1 H43 ⟨s4, 2, none⟩ (.slice q28 q28n q28c) fun H44 =>
    st1 H44 ⟨s4, 3, none⟩ (.slice q29 q29n q29c) fun H45 =>
    ldInt H45 ⟨s4, 0, none⟩ .i64 fun n29 =>
    ldInt H45 ⟨s4, 1, none⟩ .i64 fun n30 =>
    ldSl H45 ⟨s4, 2, none⟩ fun q30 q30n q30c =>
    ldSl H45 ⟨s4, 3, none⟩ fun q31 q31n q31c =>
    R (.returned (.agg ⟨[(.int .i64 n29), (.int .i64 n30), (.slice q30 q30n q30c), (.slice q31 q31n q31c)]⟩)) H45) <|
  iteB (s29 == (9 : Int)) (
    callI Tryz.prog (IV.v s6) "Unlock" [] H (panK R) fun v10 H46 =>
    tTup v10 fun l14 =>
    tNil l14 <|
    nilD s0 fun a7 =>
    ldIf H46 (Addr.add a7 2) fun i4 =>
    callI Tryz.prog (IV.v i4) "ForceCommit" [] H46 (panK R) fun v11 H47 =>
    tTup v11 fun l15 =>
    tNil l15 <|
    callI Tryz.prog (IV.v s6) "LockOutsideApply" [] H47 (panK R) fun v12 H48 =>
    tTup v12 fun l16 =>
    tNil l16 <|
    ldInt H48 ⟨s5, 0, none⟩ .i64 fun n31 =>
    ldInt H48 ⟨s5, 1, none⟩ .i64 fun n32 =>
    ldSl H48 ⟨s5, 2, none⟩ fun q32 q32n q32c =>
    ldSl H48 ⟨s5, 3, none⟩ fun q33 q33n q33c =>
    st1 H48 ⟨s4, 0, none⟩ (.int .i64 n31) fun H49 =>
    st1 H49 ⟨s4, 1, none⟩ (.int .i64 n32) fun H50 =>
    st1 H50 ⟨s4, 2, none⟩ (.slice q32 q32n q32c) fun H51 =>
    st1 H51 ⟨s4, 3, none⟩ (.slice q33 q33n q33c) fun H52 =>
    ldInt H52 ⟨s4, 0, none⟩ .i64 fun n33 =>
    ldInt H52 ⟨s4, 1, none⟩ .i64 fun n34 =>
    ldSl H52 ⟨s4, 2, none⟩ fun q34 q34n q34c =>
    ldSl H52 ⟨s4, 3, none⟩ fun q35 q35n q35c =>
    R (.returned (.agg ⟨[(.int .i64 n33), (.int .i64 n34), (.slice q34 q34n q34c), (.slice q35 q35n q35c)]⟩)) H52) <|
  iteB (s29 == (10 : Int)) (
    nilD s0 fun a8 =>
    ldIf H (Addr.add a8 2) fun i5 =>
    callI Tryz.prog (IV.v i5) "ReadTx" [] H (panK R) fun v13 H53 =>
    tIf v13 fun i6 =>
    callI Tryz.prog (IV.v i6) "UnsafeForEach" [(IV.v s7), (.func (.func 28) ⟨[]⟩ ⟨[(.pointer (some ⟨s5, 0, none⟩))]⟩)] H53 (panK R) fun v14 H54 =>
    tIf v14 fun i7 =>
    ldSl H54 ⟨s5, 2, none⟩ fun q36 q36n q36c =>
    st1 H54 ⟨s5, 1, none⟩ (.int .i64 ((q36n : Nat) : Int)) fun H55 =>
    ldInt H55 ⟨s5, 0, none⟩ .i64 fun n35 =>
    ldInt H55 ⟨s5, 1, none⟩ .i64 fun n36 =>
    ldSl H55 ⟨s5, 2, none⟩ fun q37 q37n q37c =>
    ldSl H55 ⟨s5, 3, none⟩ fun q38 q38n q38c =>
    st1 H55 ⟨s4, 0, none⟩ (.int .i64 n35) fun H56 =>
    st1 H56 ⟨s4, 1, none⟩ (.int .i64 n36) fun H57 =>
    st1 H57 ⟨s4, 2, none⟩ (.slice q37 q37n q37c) fun H58 =>
    st1 H58 ⟨s4, 3, none⟩ (.slice q38 q38n q38c) fun H59 =>
    ldInt H59 ⟨s4, 0, none⟩ .i64 fun n37 =>
    ldInt H59 ⟨s4, 1, none⟩ .i64 fun n38 =>
    ldSl H59 ⟨s4, 2, none⟩ fun q39 q39n q39c =>
    ldSl H59 ⟨s4, 3, none⟩ fun q40 q40n q40c =>
    R (.returned (.agg ⟨[(.int .i64 n37), (.int .i64 n38), (.slice q39 q39n q39c), (.slice q40 q40n q40c)]⟩)) H59) <|
  iteB (s29 == (11 : Int)) (
    callD Tryz.prog 12 [(.pointer s0)] H (panK R) fun v15 H60 =>
    tTup v15 fun l17 =>
    tNil l17 <|
    ldInt H60 ⟨s5, 0, none⟩ .i64 fun n39 =>
    ldInt H60 ⟨s5, 1, none⟩ .i64 fun n40 =>
    ldSl H60 ⟨s5, 2, none⟩ fun q41 q41n q41c =>
    ldSl H60 ⟨s5, 3, none⟩ fun q42 q42n q42c =>
    st1 H60 ⟨s4, 0, none⟩ (.int .i64 n39) fun H61 =>
    st1 H61 ⟨s4, 1, none⟩ (.int .i64 n40) fun H62 =>
    st1 H62 ⟨s4, 2, none⟩ (.slice q41 q41n q41c) fun H63 =>
    st1 H63 ⟨s4, 3, none⟩ (.slice q42 q42n q42c) fun H64 =>
    ldInt H64 ⟨s4, 0, none⟩ .i64 fun n41 =>
    ldInt H64 ⟨s4, 1, none⟩ .i64 fun n42 =>
    ldSl H64 ⟨s4, 2, none⟩ fun q43 q43n q43c =>
    ldSl H64 ⟨s4, 3, none⟩ fun q44 q44n q44c =>
    R (.returned (.agg ⟨[(.int .i64 n41), (.int .i64 n42), (.slice q43 q43n q43c), (.slice q44 q44n q44c)]⟩)) H64) <|
  iteB (s29 == (12 : Int)) (
    callI Tryz.prog (IV.v s6) "UnsafeDeleteBucket" [(IV.v s7)] H (panK R) fun v16 H65 =>
    tTup v16 fun l18 =>
    tNil l18 <|
    callI Tryz.prog (IV.v s6) "UnsafeCreateBucket" [(IV.v s7)] H65 (panK R) fun v17 H66 =>
    tTup v17 fun l19 =>
    tNil l19 <|
    ldInt H66 ⟨s5, 0, none⟩ .i64 fun n43 =>
    ldInt H66 ⟨s5, 1, none⟩ .i64 fun n44 =>
    ldSl H66 ⟨s5, 2, none⟩ fun q45 q45n q45c =>
    ldSl H66 ⟨s5, 3, none⟩ fun q46 q46n q46c =>
    st1 H66 ⟨s4, 0, none⟩ (.int .i64 n43) fun H67 =>
    st1 H67 ⟨s4, 1, none⟩ (.int .i64 n44) fun H68 =>
    st1 H68 ⟨s4, 2, none⟩ (.slice q45 q45n q45c) fun H69 =>
    st1 H69 ⟨s4, 3, none⟩ (.slice q46 q46n q46c) fun H70 =>
    ldInt H70 ⟨s4, 0, none⟩ .i64 fun n45 =>
    ldInt H70 ⟨s4, 1, none⟩ .i64 fun n46 =>
    ldSl H70 ⟨s4, 2, none⟩ fun q47 q47n q47c =>
    ldSl H70 ⟨s4, 3, none⟩ fun q48 q48n q48c =>
    R (.returned (.agg ⟨[(.int .i64 n45), (.int .i64 n46), (.slice q47 q47n q47c), (.slice q48 q48n q48c)]⟩)) H70) <|
  iteB (s29 == (13 : Int)) (
    callI Tryz.prog (IV.v s6) "UnsafeCreateBucket" [(IV.v s7)] H (panK R) fun v18 H71 =>
    tTup v18 fun l20 =>
    tNil l20 <|
    ldInt H71 ⟨s5, 0, none⟩ .i64 fun n47 =>
    ldInt H71 ⟨s5, 1, none⟩ .i64 fun n48 =>
    ldSl H71 ⟨s5, 2, none⟩ fun q49 q49n q49c =>
    ldSl H71 ⟨s5, 3, none⟩ fun q50 q50n q50c =>
    st1 H71 ⟨s4, 0, none⟩ (.int .i64 n47) fun H72 =>
    st1 H72 ⟨s4, 1, none⟩ (.int .i64 n48) fun H73 =>
    st1 H73 ⟨s4, 2, none⟩ (.slice q49 q49n q49c) fun H74 =>
    st1 H74 ⟨s4, 3, none⟩ (.slice q50 q50n q50c) fun H75 =>
    ldInt H75 ⟨s4, 0, none⟩ .i64 fun n49 =>
    ldInt H75 ⟨s4, 1, none⟩ .i64 fun n50 =>
    ldSl H75 ⟨s4, 2, none⟩ fun q51 q51n q51c =>
    ldSl H75 ⟨s4, 3, none⟩ fun q52 q52n q52c =>
    R (.returned (.agg ⟨[(.int .i64 n49), (.int .i64 n50), (.slice q51 q51n q51c), (.slice q52 q52n q52c)]⟩)) H75) <|
  st1 H ⟨s5, 0, none⟩ (.int .i64 (11 : Int)) fun H76 =>
  ldInt H76 ⟨s5, 0, none⟩ .i64 fun n51 =>
  ldInt H76 ⟨s5, 1, none⟩ .i64 fun n52 =>
  ldSl H76 ⟨s5, 2, none⟩ fun q53 q53n q53c =>
  ldSl H76 ⟨s5, 3, none⟩ fun q54 q54n q54c =>
  st1 H76 ⟨s4, 0, none⟩ (.int .i64 n51) fun H77 =>
  st1 H77 ⟨s4, 1, none⟩ (.int .i64 n52) fun H78 =>
  st1 H78 ⟨s4, 2, none⟩ (.slice q53 q53n q53c) fun H79 =>
  st1 H79 ⟨s4, 3, none⟩ (.slice q54 q54n q54c) fun H80 =>
  ldInt H80 ⟨s4, 0, none⟩ .i64 fun n53 =>
  ldInt H80 ⟨s4, 1, none⟩ .i64 fun n54 =>
  ldSl H80 ⟨s4, 2, none⟩ fun q55 q55n q55c =>
  ldSl H80 ⟨s4, 3, none⟩ fun q56 q56n q56c =>
  R (.returned (.agg ⟨[(.int .i64 n53), (.int .i64 n54), (.slice q55 q55n q55c), (.slice q56 q56n q56c)]⟩)) H80
theorem L1_step {s0 : Option Addr} {s3 : Nat} {s4 : Nat} {s5 : Nat} {s6 : IV} {s7 : IV} {s29 : Int} {H : Heap} {R : Ending → Heap → Prop} (h : L1n s0 s3 s4 s5 s6 s7 s29 H R) : L1 s0 s3 s4 s5 s6 s7 s29 H R :=
  goL_of_den (an := an) (fuel := 100000) (X := L1n s0 s3 s4 s5 s6 s7 s29 H R) mixed fn (by kernel_rfl) (fun ρ0 => by kernel_rfl) h
def L2n (s0 : Option Addr) (s3 : Nat) (s4 : Nat) (s5 : Nat) (H : Heap) (R : Ending → Heap → Prop) : Prop :=
  nilD s0 fun a =>
  ldSl H (Addr.add a 3) fun q qn qc =>
  ldInt H ⟨s3, 2, none⟩ .i64 fun n =>
  idxD q qn n fun a1 =>
  ldIf H (Addr.add a1 (Int.toNat n * 1)) fun i =>
  ldInt H ⟨s3, 0, none⟩ .i64 fun n1 =>
  ldInt H ⟨s3, 1, none⟩ .i64 fun n2 =>
  ldInt H ⟨s3, 2, none⟩ .i64 fun n3 =>
  ldStr H ⟨s3, 3, none⟩ fun s =>
  ldStr H ⟨s3, 4, none⟩ fun s1 =>
  ldStr H ⟨s3, 5, none⟩ fun s2 =>
  ldInt H ⟨s3, 6, none⟩ .i64 fun n4 =>
  callD Tryz.prog 27 [(IV.v i), (.agg ⟨[(.int .i64 n1), (.int .i64 n2), (.int .i64 n3), (.string s), (.string s1), (.string s2), (.int .i64 n4)]⟩)] H (panK R) fun v H1 =>
  tAgg v fun l =>
  tCons l fun c l1 =>
  tInt c .i64 fun n5 =>
  tCons l1 fun c1 l2 =>
  tInt c1 .i64 fun n6 =>
  tCons l2 fun c2 l3 =>
  tSl c2 fun q1 q1n q1c =>
  tCons l3 fun c3 l4 =>
  tSl c3 fun q2 q2n q2c =>
  tNil l4 <|
  st1 H1 ⟨s5, 0, none⟩ (.int .i64 n5) fun H2 =>
  st1 H2 ⟨s5, 1, none⟩ (.int .i64 n6) fun H3 =>
  st1 H3 ⟨s5, 2, none⟩ (.slice q1 q1n q1c) fun H4 =>
  st1 H4 ⟨s5, 3, none⟩ (.slice q2 q2n q2c) fun H5 =>
  ldInt H5 ⟨s5, 0, none⟩ .i64 fun n7 =>
  ldInt H5 ⟨s5, 1, none⟩ .i64 fun n8 =>
  ldSl H5 ⟨s5, 2, none⟩ fun q3 q3n q3c =>
  ldSl H5 ⟨s5, 3, none⟩ fun q4 q4n q4c =>
  st1 H5 ⟨s4, 0, none⟩ (.int .i64 n7) fun H6 =>
  st1 H6 ⟨s4, 1, none⟩ (.int .i64 n8) fun H7 =>
  st1 H7 ⟨s4, 2, none⟩ (.slice q3 q3n q3c) fun H8 =>
  st1 H8 ⟨s4, 3, none⟩ (.slice q4 q4n q4c) fun H9 =>
  ldInt H9 ⟨s4, 0, none⟩ .i64 fun n9 =>
  ldInt H9 ⟨s4, 1, none⟩ .i64 fun n10 =>
  ldSl H9 ⟨s4, 2, none⟩ fun q5 q5n q5c =>
  ldSl H9 ⟨s4, 3, none⟩ fun q6 q6n q6c =>
  R (.returned (.agg ⟨[(.int .i64 n9), (.int .i64 n10), (.slice q5 q5n q5c), (.slice q6 q6n q6c)]⟩)) H9
theorem L2_step {s0 : Option Addr} {s3 : Nat} {s4 : Nat} {s5 : Nat} {H : Heap} {R : Ending → Heap → Prop} (h : L2n s0 s3 s4 s5 H R) : L2 s0 s3 s4 s5 H R :=
  goL_of_den (an := an) (fuel := 100000) (X := L2n s0 s3 s4 s5 H R) mixed fn (by kernel_rfl) (fun ρ0 => by kernel_rfl) h
def L3n (s4 : Nat) (s5 : Nat) (s8 : Option Addr) (s8n : Nat) (s8c : Nat) (s9 : Option Addr) (s9n : Nat) (s9c : Nat) (H : Heap) (R : Ending → Heap → Prop) : Prop :=
  callD Tryz.prog 26 [(.slice s8 s8n s8c)] H (panK R) fun v H1 =>
  tSl v fun q qn qc =>
  callD Tryz.prog 26 [(.slice s9 s9n s9c)] H1 (panK R) fun v1 H2 =>
  tSl v1 fun q1 q1n q1c =>
  st1 H2 ⟨s5, 0, none⟩ (.int .i64 (0 : Int)) fun H3 =>
  st1 H3 ⟨s5, 1, none⟩ (.int .i64 ((s8n : Nat) : Int)) fun H4 =>
  st1 H4 ⟨s5, 2, none⟩ (.slice q qn qc) fun H5 =>
  st1 H5 ⟨s5, 3, none⟩ (.slice q1 q1n q1c) fun H6 =>
  ldInt H6 ⟨s5, 0, none⟩ .i64 fun n =>
  ldInt H6 ⟨s5, 1, none⟩ .i64 fun n1 =>
  ldSl H6 ⟨s5, 2, none⟩ fun q2 q2n q2c =>
  ldSl H6 ⟨s5, 3, none⟩ fun q3 q3n q3c =>
  st1 H6 ⟨s4, 0, none⟩ (.int .i64 n) fun H7 =>
  st1 H7 ⟨s4, 1, none⟩ (.int .i64 n1) fun H8 =>
  st1 H8 ⟨s4, 2, none⟩ (.slice q2 q2n q2c) fun H9 =>
  st1 H9 ⟨s4, 3, none⟩ (.slice q3 q3n q3c) fun H10 =>
  ldInt H10 ⟨s4, 0, none⟩ .i64 fun n2 =>
  ldInt H10 ⟨s4, 1, none⟩ .i64 fun n3 =>
  ldSl H10 ⟨s4, 2, none⟩ fun q4 q4n q4c =>
  ldSl H10 ⟨s4, 3, none⟩ fun q5 q5n q5c =>
  R (.returned (.agg ⟨[(.int .i64 n2), (.int .i64 n3), (.slice q4 q4n q4c), (.slice q5 q5n q5c)]⟩)) H10
theorem L3_step {s4 : Nat} {s5 : Nat} {s8 : Option Addr} {s8n : Nat} {s8c : Nat} {s9 : Option Addr} {s9n : Nat} {s9c : Nat} {H : Heap} {R : Ending → Heap → Prop} (h : L3n s4 s5 s8 s8n s8c s9 s9n s9c H R) : L3 s4 s5 s8 s8n s8c s9 s9n s9c H R :=
  goL_of_den (an := an) (fuel := 100000) (X := L3n s4 s5 s8 s8n s8c s9 s9n s9c H R) mixed fn (by kernel_rfl) (fun ρ0 => by kernel_rfl) h
def L4n (s0 : Option Addr) (s3 : Nat) (s4 : Nat) (s5 : Nat) (s6 : IV) (s7 : IV) (H : Heap) (R : Ending → Heap → Prop) : Prop :=
  ldStr H ⟨s3, 3, none⟩ fun s =>
  iteB (eqS s (ByteArray.mk #[])) (
    st1 H ⟨s4, 0, none⟩ (.int .i64 (11 : Int)) fun H1 =>
    st1 H1 ⟨s4, 1, none⟩ (.int .i64 (0 : Int)) fun H2 =>
    st1 H2 ⟨s4, 2, none⟩ (.slice none 0 0) fun H3 =>
    st1 H3 ⟨s4, 3, none⟩ (.slice none 0 0) fun H4 =>
    ldInt H4 ⟨s4, 0, none⟩ .i64 fun n =>
    ldInt H4 ⟨s4, 1, none⟩ .i64 fun n1 =>
    ldSl H4 ⟨s4, 2, none⟩ fun q qn qc =>
    ldSl H4 ⟨s4, 3, none⟩ fun q1 q1n q1c =>
    R (.returned (.agg ⟨[(.int .i64 n), (.int .i64 n1), (.slice q qn qc), (.slice q1 q1n q1c)]⟩)) H4) <|
  ldInt H ⟨s3, 1, none⟩ .i64 fun n2 =>
  iteB (n2 == (0 : Int)) (
    nilD s0 fun a =>
    ldMap H (Addr.add a 5) fun m =>
    ldStr H ⟨s3, 3, none⟩ fun s1 =>
    valD Tryz.prog (Instr.lookup 54 (.map m) (.string s1) false) H (panK R) fun v H5 =>
    tBool v fun b =>
    iteB b (
      st1 H5 ⟨s4, 0, none⟩ (.int .i64 (11 : Int)) fun H6 =>
      st1 H6 ⟨s4, 1, none⟩ (.int .i64 (0 : Int)) fun H7 =>
      st1 H7 ⟨s4, 2, none⟩ (.slice none 0 0) fun H8 =>
      st1 H8 ⟨s4, 3, none⟩ (.slice none 0 0) fun H9 =>
      ldInt H9 ⟨s4, 0, none⟩ .i64 fun n3 =>
      ldInt H9 ⟨s4, 1, none⟩ .i64 fun n4 =>
      ldSl H9 ⟨s4, 2, none⟩ fun q2 q2n q2c =>
      ldSl H9 ⟨s4, 3, none⟩ fun q3 q3n q3c =>
      R (.returned (.agg ⟨[(.int .i64 n3), (.int .i64 n4), (.slice q2 q2n q2c), (.slice q3 q3n q3c)]⟩)) H9) <|
    ldInt H5 ⟨s3, 0, none⟩ .i64 fun n5 =>
    iteB (n5 == (2 : Int)) (
      ldInt H5 ⟨s3, 1, none⟩ .i64 fun n6 =>
      iteB (n6 != (0 : Int)) (
        st1 H5 ⟨s4, 0, none⟩ (.int .i64 (11 : Int)) fun H10 =>
        st1 H10 ⟨s4, 1, none⟩ (.int .i64 (0 : Int)) fun H11 =>
        st1 H11 ⟨s4, 2, none⟩ (.slice none 0 0) fun H12 =>
        st1 H12 ⟨s4, 3, none⟩ (.slice none 0 0) fun H13 =>
        ldInt H13 ⟨s4, 0, none⟩ .i64 fun n7 =>
        ldInt H13 ⟨s4, 1, none⟩ .i64 fun n8 =>
        ldSl H13 ⟨s4, 2, none⟩ fun q4 q4n q4c =>
        ldSl H13 ⟨s4, 3, none⟩ fun q5 q5n q5c =>
        R (.returned (.agg ⟨[(.int .i64 n7), (.int .i64 n8), (.slice q4 q4n q4c), (.slice q5 q5n q5c)]⟩)) H13) <|
      nilD s0 fun a1 =>
      ldStr H5 ⟨s3, 3, none⟩ fun s2 =>
      ldStr H5 (Addr.add a1 6) fun s8 =>
      iteB (ltS s2 s8 || eqS s2 s8) (
        st1 H5 ⟨s4, 0, none⟩ (.int .i64 (11 : Int)) fun H14 =>
        st1 H14 ⟨s4, 1, none⟩ (.int .i64 (0 : Int)) fun H15 =>
        st1 H15 ⟨s4, 2, none⟩ (.slice none 0 0) fun H16 =>
        st1 H16 ⟨s4, 3, none⟩ (.slice none 0 0) fun H17 =>
        ldInt H17 ⟨s4, 0, none⟩ .i64 fun n9 =>
        ldInt H17 ⟨s4, 1, none⟩ .i64 fun n10 =>
        ldSl H17 ⟨s4, 2, none⟩ fun q6 q6n q6c =>
        ldSl H17 ⟨s4, 3, none⟩ fun q7 q7n q7c =>
        R (.returned (.agg ⟨[(.int .i64 n9), (.int .i64 n10), (.slice q6 q6n q6c), (.slice q7 q7n q7c)]⟩)) H17) <|
      L5 s0 s3 s4 s5 s6 s7 H5 R) <|
    L5 s0 s3 s4 s5 s6 s7 H5 R) <|
  ldInt H ⟨s3, 0, none⟩ .i64 fun n11 =>
  iteB (n11 == (2 : Int)) (
    ldInt H ⟨s3, 1, none⟩ .i64 fun n12 =>
    iteB (n12 != (0 : Int)) (
      st1 H ⟨s4, 0, none⟩ (.int .i64 (11 : Int)) fun H18 =>
      st1 H18 ⟨s4, 1, none⟩ (.int .i64 (0 : Int)) fun H19 =>
      st1 H19 ⟨s4, 2, none⟩ (.slice none 0 0) fun H20 =>
      st1 H20 ⟨s4, 3, none⟩ (.slice none 0 0) fun H21 =>
      ldInt H21 ⟨s4, 0, none⟩ .i64 fun n13 =>
      ldInt H21 ⟨s4, 1, none⟩ .i64 fun n14 =>
      ldSl H21 ⟨s4, 2, none⟩ fun q8 q8n q8c =>
      ldSl H21 ⟨s4, 3, none⟩ fun q9 q9n q9c =>
      R (.returned (.agg ⟨[(.int .i64 n13), (.int .i64 n14), (.slice q8 q8n q8c), (.slice q9 q9n q9c)]⟩)) H21) <|
    nilD s0 fun a2 =>
    ldStr H ⟨s3, 3, none⟩ fun s9 =>
    ldStr H (Addr.add a2 6) fun s10 =>
    iteB (ltS s9 s10 || eqS s9 s10) (
      st1 H ⟨s4, 0, none⟩ (.int .i64 (11 : Int)) fun H22 =>
      st1 H22 ⟨s4, 1, none⟩ (.int .i64 (0 : Int)) fun H23 =>
      st1 H23 ⟨s4, 2, none⟩ (.slice none 0 0) fun H24 =>
      st1 H24 ⟨s4, 3, none⟩ (.slice none 0 0) fun H25 =>
      ldInt H25 ⟨s4, 0, none⟩ .i64 fun n15 =>
      ldInt H25 ⟨s4, 1, none⟩ .i64 fun n16 =>
      ldSl H25 ⟨s4, 2, none⟩ fun q10 q10n q10c =>
      ldSl H25 ⟨s4, 3, none⟩ fun q11 q11n q11c =>
      R (.returned (.agg ⟨[(.int .i64 n15), (.int .i64 n16), (.slice q10 q10n q10c), (.slice q11 q11n q11c)]⟩)) H25) <|
    L5 s0 s3 s4 s5 s6 s7 H R) <|
  L5 s0 s3 s4 s5 s6 s7 H R
theorem L4_step {s0 : Option Addr} {s3 : Nat} {s4 : Nat} {s5 : Nat} {s6 : IV} {s7 : IV} {H : Heap} {R : Ending → Heap → Prop} (h : L4n s0 s3 s4 s5 s6 s7 H R) : L4 s0 s3 s4 s5 s6 s7 H R :=
  goL_of_den (an := an) (fuel := 100000) (X := L4n s0 s3 s4 s5 s6 s7 H R) mixed fn (by kernel_rfl) (fun ρ0 => by kernel_rfl) h
def L5n (s0 : Option Addr) (s3 : Nat) (s4 : Nat) (s5 : Nat) (s6 : IV) (s7 : IV) (H : Heap) (R : Ending → Heap → Prop) : Prop :=
  ldInt H ⟨s3, 1, none⟩ .i64 fun n =>
  iteB (n == (0 : Int)) (
    nilD s0 fun a =>
    ldMap H (Addr.add a 5) fun m =>
    ldStr H ⟨s3, 3, none⟩ fun s =>
    uniD Tryz.prog (Instr.mapUpdate 54 (.map m) (.string s) (.bool true)) H (panK R) fun H1 =>
    nilD s0 fun a1 =>
    ldStr H1 (Addr.add a1 6) fun s1 =>
    ldStr H1 ⟨s3, 3, none⟩ fun s2 =>
    nilD s0 fun a2 =>
    st1 H1 (Addr.add a2 6) (.string (if ltS s1 s2 then s2 else s1)) fun H2 =>
    L6 s3 s4 s5 s6 s7 H2 R) <|
  L6 s3 s4 s5 s6 s7 H R
theorem L5_step {s0 : Option Addr} {s3 : Nat} {s4 : Nat} {s5 : Nat} {s6 : IV} {s7 : IV} {H : Heap} {R : Ending → Heap → Prop} (h : L5n s0 s3 s4 s5 s6 s7 H R) : L5 s0 s3 s4 s5 s6 s7 H R :=
  goL_of_den (an := an) (fuel := 100000) (X := L5n s0 s3 s4 s5 s6 s7 H R) mixed fn (by kernel_rfl) (fun ρ0 => by kernel_rfl) h
def L6n (s3 : Nat) (s4 : Nat) (s5 : Nat) (s6 : IV) (s7 : IV) (H : Heap) (R : Ending → Heap → Prop) : Prop :=
  ldInt H ⟨s3, 0, none⟩ .i64 fun n =>
  iteB (n == (1 : Int)) (
    ldStr H ⟨s3, 3, none⟩ fun s =>
    sbD H 5 s fun r c H1 =>
    ldStr H1 ⟨s3, 5, none⟩ fun s1 =>
    sbD H1 5 s1 fun r1 c1 H2 =>
    callI Tryz.prog (IV.v s6) "UnsafePut" [(IV.v s7), (.slice (some ⟨r, 0, none⟩) (ByteArray.size s) c), (.slice (some ⟨r1, 0, none⟩) (ByteArray.size s1) c1)] H2 (panK R) fun v H3 =>
    tTup v fun l =>
    tNil l <|
    ldInt H3 ⟨s5, 0, none⟩ .i64 fun n1 =>
    ldInt H3 ⟨s5, 1, none⟩ .i64 fun n2 =>
    ldSl H3 ⟨s5, 2, none⟩ fun q qn qc =>
    ldSl H3 ⟨s5, 3, none⟩ fun q1 q1n q1c =>
    st1 H3 ⟨s4, 0, none⟩ (.int .i64 n1) fun H4 =>
    st1 H4 ⟨s4, 1, none⟩ (.int .i64 n2) fun H5 =>
    st1 H5 ⟨s4, 2, none⟩ (.slice q qn qc) fun H6 =>
    st1 H6 ⟨s4, 3, none⟩ (.slice q1 q1n q1c) fun H7 =>
    ldInt H7 ⟨s4, 0, none⟩ .i64 fun n3 =>
    ldInt H7 ⟨s4, 1, none⟩ .i64 fun n4 =>
    ldSl H7 ⟨s4, 2, none⟩ fun q2 q2n q2c =>
    ldSl H7 ⟨s4, 3, none⟩ fun q3 q3n q3c =>
    R (.returned (.agg ⟨[(.int .i64 n3), (.int .i64 n4), (.slice q2 q2n q2c), (.slice q3 q3n q3c)]⟩)) H7) <|
  ldStr H ⟨s3, 3, none⟩ fun s2 =>
  sbD H 5 s2 fun r2 c2 H8 =>
  ldStr H8 ⟨s3, 5, none⟩ fun s8 =>
  sbD H8 5 s8 fun r3 c3 H9 =>
  callI Tryz.prog (IV.v s6) "UnsafeSeqPut" [(IV.v s7), (.slice (some ⟨r2, 0, none⟩) (ByteArray.size s2) c2), (.slice (some ⟨r3, 0, none⟩) (ByteArray.size s8) c3)] H9 (panK R) fun v1 H10 =>
  tTup v1 fun l1 =>
  tNil l1 <|
  ldInt H10 ⟨s5, 0, none⟩ .i64 fun n5 =>
  ldInt H10 ⟨s5, 1, none⟩ .i64 fun n6 =>
  ldSl H10 ⟨s5, 2, none⟩ fun q4 q4n q4c =>
  ldSl H10 ⟨s5, 3, none⟩ fun q5 q5n q5c =>
  st1 H10 ⟨s4, 0, none⟩ (.int .i64 n5) fun H11 =>
  st1 H11 ⟨s4, 1, none⟩ (.int .i64 n6) fun H12 =>
  st1 H12 ⟨s4, 2, none⟩ (.slice q4 q4n q4c) fun H13 =>
  st1 H13 ⟨s4, 3, none⟩ (.slice q5 q5n q5c) fun H14 =>
  ldInt H14 ⟨s4, 0, none⟩ .i64 fun n7 =>
  ldInt H14 ⟨s4, 1, none⟩ .i64 fun n8 =>
  ldSl H14 ⟨s4, 2, none⟩ fun q6 q6n q6c =>
  ldSl H14 ⟨s4, 3, none⟩ fun q7 q7n q7c =>
  R (.returned (.agg ⟨[(.int .i64 n7), (.int .i64 n8), (.slice q6 q6n q6c), (.slice q7 q7n q7c)]⟩)) H14
theorem L6_step {s3 : Nat} {s4 : Nat} {s5 : Nat} {s6 : IV} {s7 : IV} {H : Heap} {R : Ending → Heap → Prop} (h : L6n s3 s4 s5 s6 s7 H R) : L6 s3 s4 s5 s6 s7 H R :=
  goL_of_den (an := an) (fuel := 100000) (X := L6n s3 s4 s5 s6 s7 H R) mixed fn (by kernel_rfl) (fun ρ0 => by kernel_rfl) h
def go (s0 : Option Addr) (s1_0 : Int) (s1_1 : Int) (s1_2 : Int) (s1_3 : ByteArray) (s1_4 : ByteArray) (s1_5 : ByteArray) (s1_6 : Int) (H : Heap) (R : Ending → Heap → Prop) : Prop :=
  newD H (.cells ⟨[(.int .i64 s1_0), (.int .i64 s1_1), (.int .i64 s1_2), (.string s1_3), (.string s1_4), (.string s1_5), (.int .i64 s1_6)]⟩ 29) fun r H1 =>
  newD H1 (.cells ⟨[(.int .i64 (0 : Int)), (.int .i64 (0 : Int)), (.slice none 0 0), (.slice none 0 0)]⟩ 46) fun r1 H2 =>
  newD H2 (.cells ⟨[(.int .i64 (0 : Int)), (.int .i64 (0 : Int)), (.slice none 0 0), (.slice none 0 0)]⟩ 46) fun r2 H3 =>
  st1 H3 ⟨r2, 0, none⟩ (.int .i64 (0 : Int)) fun H4 =>
  st1 H4 ⟨r2, 1, none⟩ (.int .i64 (0 : Int)) fun H5 =>
  st1 H5 ⟨r2, 2, none⟩ (.slice none 0 0) fun H6 =>
  st1 H6 ⟨r2, 3, none⟩ (.slice none 0 0) fun H7 =>
  nilD s0 fun a =>
  ldIf H7 (Addr.add a 2) fun i =>
  callI Tryz.prog (IV.v i) "BatchTx" [] H7 (panK R) fun v H8 =>
  tIf v fun i1 =>
  ldInt H8 ⟨r, 1, none⟩ .i64 fun n =>
  iteB (decide (n < (0 : Int))) (
    st1 H8 ⟨r1, 0, none⟩ (.int .i64 (11 : Int)) fun H9 =>
    st1 H9 ⟨r1, 1, none⟩ (.int .i64 (0 : Int)) fun H10 =>
    st1 H10 ⟨r1, 2, none⟩ (.slice none 0 0) fun H11 =>
    st1 H11 ⟨r1, 3, none⟩ (.slice none 0 0) fun H12 =>
    ldInt H12 ⟨r1, 0, none⟩ .i64 fun n1 =>
    ldInt H12 ⟨r1, 1, none⟩ .i64 fun n2 =>
    ldSl H12 ⟨r1, 2, none⟩ fun q qn qc =>
    ldSl H12 ⟨r1, 3, none⟩ fun q1 q1n q1c =>
    R (.returned (.agg ⟨[(.int .i64 n1), (.int .i64 n2), (.slice q qn qc), (.slice q1 q1n q1c)]⟩)) H12) <|
  ldInt H8 ⟨r, 1, none⟩ .i64 fun n3 =>
  iteB (decide (n3 > (3 : Int))) (
    st1 H8 ⟨r1, 0, none⟩ (.int .i64 (11 : Int)) fun H13 =>
    st1 H13 ⟨r1, 1, none⟩ (.int .i64 (0 : Int)) fun H14 =>
    st1 H14 ⟨r1, 2, none⟩ (.slice none 0 0) fun H15 =>
    st1 H15 ⟨r1, 3, none⟩ (.slice none 0 0) fun H16 =>
    ldInt H16 ⟨r1, 0, none⟩ .i64 fun n4 =>
    ldInt H16 ⟨r1, 1, none⟩ .i64 fun n5 =>
    ldSl H16 ⟨r1, 2, none⟩ fun q2 q2n q2c =>
    ldSl H16 ⟨r1, 3, none⟩ fun q3 q3n q3c =>
    R (.returned (.agg ⟨[(.int .i64 n4), (.int .i64 n5), (.slice q2 q2n q2c), (.slice q3 q3n q3c)]⟩)) H16) <|
  L0 s0 r r1 r2 i1 H8 R
theorem calls {s0 : Option Addr} {s1_0 : Int} {s1_1 : Int} {s1_2 : Int} {s1_3 : ByteArray} {s1_4 : ByteArray} {s1_5 : ByteArray} {s1_6 : Int} {H : Heap} {R : Ending → Heap → Prop} (h : go s0 s1_0 s1_1 s1_2 s1_3 s1_4 s1_5 s1_6 H R) : CallsH Tryz.prog 13 ⟨[(.pointer s0), (.agg ⟨[(.int .i64 s1_0), (.int .i64 s1_1), (.int .i64 s1_2), (.string s1_3), (.string s1_4), (.string s1_5), (.int .i64 s1_6)]⟩)]⟩ H R :=
  callsH_of_den (an := an) (fuel := 100000) (X := go s0 s1_0 s1_1 s1_2 s1_3 s1_4 s1_5 s1_6 H R) (c := body) mixed fn (by kernel_rfl) (by kernel_rfl) (by kernel_rfl) ok (by kernel_rfl) h
end F13
/-! ### 14 "(pub-stadtholder/spec.Rows).with" -/
namespace F14
def an : Ann := { kinds := [], taus := [], pairs := [], lab := [(40000003, [0, 1, 2, 7]), (10000005, [0, 1, 2, 7]), (20000007, [0, 7, 8]), (10000008, [0, 7, 8]), (40000004, [0, 1, 2, 7])] }
noncomputable def body : Code := (Tryz.f14.body).getD .skip
theorem fn : Tryz.prog.funcs[14]? = some Tryz.f14 := by kernel_rfl
theorem ok : codeOk an 54 body = true := by kernel_rfl
noncomputable def L0t : List Item := [.code (sub [1, 1, 0, 0, 0] body), .inLoop (sub [1, 1, 0, 0, 0] body), .inBlock 0, .code (sub [1, 1, 1] body)]
def L0 (l : Option Addr) (ln : Nat) (lc : Nat) (key : ByteArray) (val : ByteArray) (i : Int) (H : Heap) (R : Ending → Heap → Prop) : Prop :=
  GoL Tryz.prog 14 54 L0t [0, 1, 2, 7] [(.slice l ln lc), (.string key), (.string val), (.int .i64 i)] H R
noncomputable def L1t : List Item := [.code (sub [1, 1, 1] body)]
def L1 (l : Option Addr) (ln : Nat) (lc : Nat) (key : ByteArray) (val : ByteArray) (i : Int) (H : Heap) (R : Ending → Heap → Prop) : Prop :=
  GoL Tryz.prog 14 54 L1t [0, 1, 2, 7] [(.slice l ln lc), (.string key), (.string val), (.int .i64 i)] H R
noncomputable def L2t : List Item := [.code (sub [1, 1, 1, 1, 0, 1, 0] body), .code (sub [1, 1, 1, 1, 1] body)]
def L2 (l : Option Addr) (ln : Nat) (lc : Nat) (i : Int) (out : Option Addr) (outn : Nat) (outc : Nat) (H : Heap) (R : Ending → Heap → Prop) : Prop :=
  GoL Tryz.prog 14 54 L2t [0, 7, 8] [(.slice l ln lc), (.int .i64 i), (.slice out outn outc)] H R
noncomputable def L3t : List Item := [.code (sub [1, 1, 1, 1, 1] body)]
def L3 (l : Option Addr) (ln : Nat) (lc : Nat) (i : Int) (out : Option Addr) (outn : Nat) (outc : Nat) (H : Heap) (R : Ending → Heap → Prop) : Prop :=
  GoL Tryz.prog 14 54 L3t [0, 7, 8] [(.slice l ln lc), (.int .i64 i), (.slice out outn outc)] H R
noncomputable def L4t : List Item := [.code (sub [1, 1, 0, 0, 0, 1] body), .inLoop (sub [1, 1, 0, 0, 0] body), .inBlock 0, .code (sub [1, 1, 1] body)]
def L4 (l : Option Addr) (ln : Nat) (lc : Nat) (key : ByteArray) (val : ByteArray) (i : Int) (H : Heap) (R : Ending → Heap → Prop) : Prop :=
  GoL Tryz.prog 14 54 L4t [0, 1, 2, 7] [(.slice l ln lc), (.string key), (.string val), (.int .i64 i)] H R
def L0n (l : Option Addr) (ln : Nat) (lc : Nat) (key : ByteArray) (val : ByteArray) (i : Int) (H : Heap) (R : Ending → Heap → Prop) : Prop :=
  iteB (decide (i < ((ln : Nat) : Int))) (
    idxD l ln i fun a =>
    ldStr H (Addr.add a (Int.toNat i * 2)) fun s =>
    iteB (ltS s key) (
      L4 l ln lc key val i H R) <|
    L1 l ln lc key val i H R) <|
  L1 l ln lc key val i H R
theorem L0_step {l : Option Addr} {ln : Nat} {lc : Nat} {key : ByteArray} {val : ByteArray} {i : Int} {H : Heap} {R : Ending → Heap → Prop} (h : L0n l ln lc key val i H R) : L0 l ln lc key val i H R :=
  goL_of_den (an := an) (fuel := 100000) (X := L0n l ln lc key val i H R) mixed fn (by kernel_rfl) (fun ρ0 => by kernel_rfl) h
def L1n (l : Option Addr) (ln : Nat) (lc : Nat) (key : ByteArray) (val : ByteArray) (i : Int) (H : Heap) (R : Ending → Heap → Prop) : Prop :=
  newD H (.cells ⟨[]⟩ 94) fun r H1 =>
  bndD i lc fun k =>
  apD H1 2 32 [(.string (ByteArray.mk #[])), (.string (ByteArray.mk #[]))] 94 (some ⟨r, 0, none⟩) 0 0 (slP l 0 lc 2) k fun q qn qc H2 =>
  newD H2 (.cells ⟨[(.string key), (.string val)]⟩ 94) fun r1 H3 =>
  apD H3 2 32 [(.string (ByteArray.mk #[])), (.string (ByteArray.mk #[]))] 94 q qn qc (some ⟨r1, 0, none⟩) 1 fun q1 q1n q1c H4 =>
  iteB (decide (i < ((ln : Nat) : Int))) (
    idxD l ln i fun a =>
    ldStr H4 (Addr.add a (Int.toNat i * 2)) fun s =>
    iteB (eqS s key) (
      L2 l ln lc i q1 q1n q1c H4 R) <|
    L3 l ln lc i q1 q1n q1c H4 R) <|
  L3 l ln lc i q1 q1n q1c H4 R
theorem L1_step {l : Option Addr} {ln : Nat} {lc : Nat} {key : ByteArray} {val : ByteArray} {i : Int} {H : Heap} {R : Ending → Heap → Prop} (h : L1n l ln lc key val i H R) : L1 l ln lc key val i H R :=
  goL_of_den (an := an) (fuel := 100000) (X := L1n l ln lc key val i H R) mixed fn (by kernel_rfl) (fun ρ0 => by kernel_rfl) h
def L2n (l : Option Addr) (ln : Nat) (lc : Nat) (i : Int) (out : Option Addr) (outn : Nat) (outc : Nat) (H : Heap) (R : Ending → Heap → Prop) : Prop :=
  L3 l ln lc (IntKind.wrap .i64 (i + (1 : Int))) out outn outc H R
theorem L2_step {l : Option Addr} {ln : Nat} {lc : Nat} {i : Int} {out : Option Addr} {outn : Nat} {outc : Nat} {H : Heap} {R : Ending → Heap → Prop} (h : L2n l ln lc i out outn outc H R) : L2 l ln lc i out outn outc H R :=
  goL_of_den (an := an) (fuel := 100000) (X := L2n l ln lc i out outn outc H R) mixed fn (by kernel_rfl) (fun ρ0 => by kernel_rfl) h
def L3n (l : Option Addr) (ln : Nat) (lc : Nat) (i : Int) (out : Option Addr) (outn : Nat) (outc : Nat) (H : Heap) (R : Ending → Heap → Prop) : Prop :=
  bndD i ln fun k =>
  apD H 2 32 [(.string (ByteArray.mk #[])), (.string (ByteArray.mk #[]))] 94 out outn outc (slP l k lc 2) (ln - k) fun q qn qc H1 =>
  R (.returned (.slice q qn qc)) H1
theorem L3_step {l : Option Addr} {ln : Nat} {lc : Nat} {i : Int} {out : Option Addr} {outn : Nat} {outc : Nat} {H : Heap} {R : Ending → Heap → Prop} (h : L3n l ln lc i out outn outc H R) : L3 l ln lc i out outn outc H R :=
  goL_of_den (an := an) (fuel := 100000) (X := L3n l ln lc i out outn outc H R) mixed fn (by kernel_rfl) (fun ρ0 => by kernel_rfl) h
def L4n (l : Option Addr) (ln : Nat) (lc : Nat) (key : ByteArray) (val : ByteArray) (i : Int) (H : Heap) (R : Ending → Heap → Prop) : Prop :=
  L0 l ln lc key val (IntKind.wrap .i64 (i + (1 : Int))) H R
theorem L4_step {l : Option Addr} {ln : Nat} {lc : Nat} {key : ByteArray} {val : ByteArray} {i : Int} {H : Heap} {R : Ending → Heap → Prop} (h : L4n l ln lc key val i H R) : L4 l ln lc key val i H R :=
  goL_of_den (an := an) (fuel := 100000) (X := L4n l ln lc key val i H R) mixed fn (by kernel_rfl) (fun ρ0 => by kernel_rfl) h
def go (l : Option Addr) (ln : Nat) (lc : Nat) (key : ByteArray) (val : ByteArray) (H : Heap) (R : Ending → Heap → Prop) : Prop :=
  L0 l ln lc key val (0 : Int) H R
theorem calls {l : Option Addr} {ln : Nat} {lc : Nat} {key : ByteArray} {val : ByteArray} {H : Heap} {R : Ending → Heap → Prop} (h : go l ln lc key val H R) : CallsH Tryz.prog 14 ⟨[(.slice l ln lc), (.string key), (.string val)]⟩ H R :=
  callsH_of_den (an := an) (fuel := 100000) (X := go l ln lc key val H R) (c := body) mixed fn (by kernel_rfl) (by kernel_rfl) (by kernel_rfl) ok (by kernel_rfl) h
end F14
/-! ### 16 "pub-stadtholder/spec.told" -/
namespace F16
def an : Ann := { kinds := [(5004, .grow), (5005, .grow), (5010, .grow)], taus := [(5, [[0, 2, 6, 8, 1, 3, 7, 9, 4, 5, 12, 10, 11, 13, 14, 15], [0, 2, 6, 8, 1, 3, 7, 9, 4, 10, 5, 12, 11, 13, 14, 15], [0, 2, 6, 8, 1, 3, 7, 9, 10, 4, 5, 12, 11, 13, 14, 15]])], pairs := [(5, [(4, 10), (5, 10)])], lab := [(40000004, [2, 3, 9, 10, 11]), (40000007, [2, 3, 9, 10, 11])] }
noncomputable def body : Code := (Tryz.f16.body).getD .skip
theorem fn : Tryz.prog.funcs[16]? = some Tryz.f16 := by kernel_rfl
theorem ok : codeOk an 31 body = true := by kernel_rfl
noncomputable def L0t : List Item := [.code (sub [1, 1, 0, 1, 0, 0] body), .inLoop (sub [1, 1, 0, 1, 0, 0] body), .inBlock 0, .code (sub [1, 1, 1] body)]
def L0 (s2 : Nat) (a : Nat) (s9 : Option Addr) (s9n : Nat) (s9c : Nat) (s10 : Int) (s11 : Int) (H : Heap) (R : Ending → Heap → Prop) : Prop :=
  GoL Tryz.prog 16 31 L0t [2, 3, 9, 10, 11] [(.pointer (some ⟨s2, 0, none⟩)), (.pointer (some ⟨a, 0, none⟩)), (.slice s9 s9n s9c), (.int .i64 s10), (.int .i64 s11)] H R
noncomputable def L1t : List Item := [.code (sub [1, 1, 0, 1, 0, 0, 1, 1, 1] body), .inLoop (sub [1, 1, 0, 1, 0, 0] body), .inBlock 0, .code (sub [1, 1, 1] body)]
def L1 (s2 : Nat) (a : Nat) (s9 : Option Addr) (s9n : Nat) (s9c : Nat) (s10 : Int) (s11 : Int) (H : Heap) (R : Ending → Heap → Prop) : Prop :=
  GoL Tryz.prog 16 31 L1t [2, 3, 9, 10, 11] [(.pointer (some ⟨s2, 0, none⟩)), (.pointer (some ⟨a, 0, none⟩)), (.slice s9 s9n s9c), (.int .i64 s10), (.int .i64 s11)] H R
def L0n (s2 : Nat) (a : Nat) (s9 : Option Addr) (s9n : Nat) (s9c : Nat) (s10 : Int) (s11 : Int) (H : Heap) (R : Ending → Heap → Prop) : Prop :=
  iteB (decide (s11 < s10)) (
    idxD s9 s9n s11 fun a1 =>
    ldStr H (Addr.add a1 (Int.toNat s11 * 2)) fun s =>
    ldStr H (Addr.add (Addr.add a1 (Int.toNat s11 * 2)) 1) fun s1 =>
    newD H (.cells ⟨[(.string (ByteArray.mk #[])), (.string (ByteArray.mk #[]))]⟩ 94) fun r H1 =>
    st1 H1 ⟨r, 0, none⟩ (.string s) fun H2 =>
    st1 H2 ⟨r, 1, none⟩ (.string s1) fun H3 =>
    (
      ldSl H3 ⟨a, 2, none⟩ fun q qn qc =>
      ldStr H3 ⟨r, 0, none⟩ fun s3 =>
      ldSl H3 ⟨a, 3, none⟩ fun q1 q1n q1c =>
      ldStr H3 ⟨r, 1, none⟩ fun s4 =>
      newD H3 (.cells ⟨[(.string s3)]⟩ 9) fun r1 H4 =>
      apD H4 1 16 [(.string (ByteArray.mk #[]))] 9 q qn qc (some ⟨r1, 0, none⟩) 1 fun q2 q2n q2c H5 =>
      andD (ExtH H4 H5) <|
      newD H5 (.cells ⟨[(.string s4)]⟩ 9) fun r2 H6 =>
      apD H6 1 16 [(.string (ByteArray.mk #[]))] 9 q1 q1n q1c (some ⟨r2, 0, none⟩) 1 fun q3 q3n q3c H7 =>
      st1 H7 ⟨a, 2, none⟩ (.slice q2 q2n q2c) fun H8 =>
      st1 H8 ⟨a, 3, none⟩ (.slice q3 q3n q3c) fun H9 =>
      L1 s2 a s9 s9n s9c s10 s11 H9 R) ∧
    (
      ldSl H3 ⟨a, 2, none⟩ fun q4 q4n q4c =>
      ldStr H3 ⟨r, 0, none⟩ fun s5 =>
      ldSl H3 ⟨a, 3, none⟩ fun q5 q5n q5c =>
      ldStr H3 ⟨r, 1, none⟩ fun s6 =>
      newD H3 (.cells ⟨[(.string s5)]⟩ 9) fun r3 H10 =>
      newD H10 (.cells ⟨[(.string s6)]⟩ 9) fun r4 H11 =>
      apD H11 1 16 [(.string (ByteArray.mk #[]))] 9 q4 q4n q4c (some ⟨r3, 0, none⟩) 1 fun q6 q6n q6c H12 =>
      andD (ExtH H11 H12) <|
      apD H12 1 16 [(.string (ByteArray.mk #[]))] 9 q5 q5n q5c (some ⟨r4, 0, none⟩) 1 fun q7 q7n q7c H13 =>
      st1 H13 ⟨a, 2, none⟩ (.slice q6 q6n q6c) fun H14 =>
      st1 H14 ⟨a, 3, none⟩ (.slice q7 q7n q7c) fun H15 =>
      L1 s2 a s9 s9n s9c s10 s11 H15 R) ∧
    (
      ldSl H3 ⟨a, 2, none⟩ fun q8 q8n q8c =>
      ldStr H3 ⟨r, 0, none⟩ fun s7 =>
      ldSl H3 ⟨a, 3, none⟩ fun q9 q9n q9c =>
      ldStr H3 ⟨r, 1, none⟩ fun s8 =>
      newD H3 (.cells ⟨[(.string s8)]⟩ 9) fun r5 H16 =>
      newD H16 (.cells ⟨[(.string s7)]⟩ 9) fun r6 H17 =>
      apD H17 1 16 [(.string (ByteArray.mk #[]))] 9 q8 q8n q8c (some ⟨r6, 0, none⟩) 1 fun q10 q10n q10c H18 =>
      andD (ExtH H17 H18) <|
      apD H18 1 16 [(.string (ByteArray.mk #[]))] 9 q9 q9n q9c (some ⟨r5, 0, none⟩) 1 fun q11 q11n q11c H19 =>
      st1 H19 ⟨a, 2, none⟩ (.slice q10 q10n q10c) fun H20 =>
      st1 H20 ⟨a, 3, none⟩ (.slice q11 q11n q11c) fun H21 =>
      L1 s2 a s9 s9n s9c s10 s11 H21 R)) <|
  ldInt H ⟨a, 0, none⟩ .i64 fun n =>
  ldInt H ⟨a, 1, none⟩ .i64 fun n1 =>
  ldSl H ⟨a, 2, none⟩ fun q12 q12n q12c =>
  ldSl H ⟨a, 3, none⟩ fun q13 q13n q13c =>
  st1 H ⟨s2, 0, none⟩ (.int .i64 n) fun H22 =>
  st1 H22 ⟨s2, 1, none⟩ (.int .i64 n1) fun H23 =>
  st1 H23 ⟨s2, 2, none⟩ (.slice q12 q12n q12c) fun H24 =>
  st1 H24 ⟨s2, 3, none⟩ (.slice q13 q13n q13c) fun H25 =>
  ldInt H25 ⟨s2, 0, none⟩ .i64 fun n2 =>
  ldInt H25 ⟨s2, 1, none⟩ .i64 fun n3 =>
  ldSl H25 ⟨s2, 2, none⟩ fun q14 q14n q14c =>
  ldSl H25 ⟨s2, 3, none⟩ fun q15 q15n q15c =>
  R (.returned (.agg ⟨[(.int .i64 n2), (.int .i64 n3), (.slice q14 q14n q14c), (.slice q15 q15n q15c)]⟩)) H25
theorem L0_step {s2 : Nat} {a : Nat} {s9 : Option Addr} {s9n : Nat} {s9c : Nat} {s10 : Int} {s11 : Int} {H : Heap} {R : Ending → Heap → Prop} (h : L0n s2 a s9 s9n s9c s10 s11 H R) : L0 s2 a s9 s9n s9c s10 s11 H R :=
  goL_of_den (an := an) (fuel := 100000) (X := L0n s2 a s9 s9n s9c s10 s11 H R) mixed fn (by kernel_rfl) (fun ρ0 => by kernel_rfl) h
def L1n (s2 : Nat) (a : Nat) (s9 : Option Addr) (s9n : Nat) (s9c : Nat) (s10 : Int) (s11 : Int) (H : Heap) (R : Ending → Heap → Prop) : Prop :=
  L0 s2 a s9 s9n s9c s10 (IntKind.wrap .i64 (s11 + (1 : Int))) H R
theorem L1_step {s2 : Nat} {a : Nat} {s9 : Option Addr} {s9n : Nat} {s9c : Nat} {s10 : Int} {s11 : Int} {H : Heap} {R : Ending → Heap → Prop} (h : L1n s2 a s9 s9n s9c s10 s11 H R) : L1 s2 a s9 s9n s9c s10 s11 H R :=
  goL_of_den (an := an) (fuel := 100000) (X := L1n s2 a s9 s9n s9c s10 s11 H R) mixed fn (by kernel_rfl) (fun ρ0 => by kernel_rfl) h
def go (l : Option Addr) (ln : Nat) (lc : Nat) (H : Heap) (R : Ending → Heap → Prop) : Prop :=
  newD H (.cells ⟨[(.int .i64 (0 : Int)), (.int .i64 (0 : Int)), (.slice none 0 0), (.slice none 0 0)]⟩ 46) fun r H1 =>
  newD H1 (.cells ⟨[(.int .i64 (0 : Int)), (.int .i64 (0 : Int)), (.slice none 0 0), (.slice none 0 0)]⟩ 46) fun r1 H2 =>
  st1 H2 ⟨r1, 0, none⟩ (.int .i64 (0 : Int)) fun H3 =>
  st1 H3 ⟨r1, 1, none⟩ (.int .i64 ((ln : Nat) : Int)) fun H4 =>
  st1 H4 ⟨r1, 2, none⟩ (.slice none 0 0) fun H5 =>
  st1 H5 ⟨r1, 3, none⟩ (.slice none 0 0) fun H6 =>
  L0 r r1 l ln lc ((ln : Nat) : Int) (0 : Int) H6 R
theorem calls {l : Option Addr} {ln : Nat} {lc : Nat} {H : Heap} {R : Ending → Heap → Prop} (h : go l ln lc H R) : CallsH Tryz.prog 16 ⟨[(.slice l ln lc)]⟩ H R :=
  callsH_of_den (an := an) (fuel := 100000) (X := go l ln lc H R) (c := body) mixed fn (by kernel_rfl) (by kernel_rfl) (by kernel_rfl) ok (by kernel_rfl) h
end F16
/-! ### 17 "(pub-stadtholder/spec.Rows).From" -/
namespace F17
def an : Ann := { kinds := [], taus := [], pairs := [], lab := [(40000004, [1, 2, 3, 9, 12, 13, 14]), (60000007, [1, 2, 3, 9, 11, 12, 13, 14]), (40000008, [1, 2, 3, 9, 12, 13, 14])] }
noncomputable def body : Code := (Tryz.f17.body).getD .skip
theorem fn : Tryz.prog.funcs[17]? = some Tryz.f17 := by kernel_rfl
theorem ok : codeOk an 41 body = true := by kernel_rfl
noncomputable def L0t : List Item := [.code (sub [1, 1, 0, 1, 0, 0] body), .inLoop (sub [1, 1, 0, 1, 0, 0] body), .inBlock 0, .code (sub [1, 1, 1] body)]
def L0 (key : ByteArray) (xend : ByteArray) (limit : Int) (out : Option Addr) (outn : Nat) (outc : Nat) (s12 : Option Addr) (s12n : Nat) (s12c : Nat) (s13 : Int) (s14 : Int) (H : Heap) (R : Ending → Heap → Prop) : Prop :=
  GoL Tryz.prog 17 41 L0t [1, 2, 3, 9, 12, 13, 14] [(.string key), (.string xend), (.int .i64 limit), (.slice out outn outc), (.slice s12 s12n s12c), (.int .i64 s13), (.int .i64 s14)] H R
noncomputable def L1t : List Item := [.code (sub [1, 1, 0, 1, 0, 0, 1, 1, 0, 0, 1, 1, 0] body), .inBlock 1, .code (sub [1, 1, 0, 1, 0, 0, 1, 1, 1] body), .inLoop (sub [1, 1, 0, 1, 0, 0] body), .inBlock 0, .code (sub [1, 1, 1] body)]
def L1 (key : ByteArray) (xend : ByteArray) (limit : Int) (out : Option Addr) (outn : Nat) (outc : Nat) (x : Nat) (s12 : Option Addr) (s12n : Nat) (s12c : Nat) (s13 : Int) (s14 : Int) (H : Heap) (R : Ending → Heap → Prop) : Prop :=
  GoL Tryz.prog 17 41 L1t [1, 2, 3, 9, 11, 12, 13, 14] [(.string key), (.string xend), (.int .i64 limit), (.slice out outn outc), (.pointer (some ⟨x, 0, none⟩)), (.slice s12 s12n s12c), (.int .i64 s13), (.int .i64 s14)] H R
noncomputable def L2t : List Item := [.code (sub [1, 1, 0, 1, 0, 0, 1, 1, 1] body), .inLoop (sub [1, 1, 0, 1, 0, 0] body), .inBlock 0, .code (sub [1, 1, 1] body)]
def L2 (key : ByteArray) (xend : ByteArray) (limit : Int) (out : Option Addr) (outn : Nat) (outc : Nat) (s12 : Option Addr) (s12n : Nat) (s12c : Nat) (s13 : Int) (s14 : Int) (H : Heap) (R : Ending → Heap → Prop) : Prop :=
  GoL Tryz.prog 17 41 L2t [1, 2, 3, 9, 12, 13, 14] [(.string key), (.string xend), (.int .i64 limit), (.slice out outn outc), (.slice s12 s12n s12c), (.int .i64 s13), (.int .i64 s14)] H R
def L0n (key : ByteArray) (xend : ByteArray) (limit : Int) (out : Option Addr) (outn : Nat) (outc : Nat) (s12 : Option Addr) (s12n : Nat) (s12c : Nat) (s13 : Int) (s14 : Int) (H : Heap) (R : Ending → Heap → Prop) : Prop :=
  iteB (decide (s14 < s13)) (
    idxD s12 s12n s14 fun a =>
    ldStr H (Addr.add a (Int.toNat s14 * 2)) fun s =>
    ldStr H (Addr.add (Addr.add a (Int.toNat s14 * 2)) 1) fun s1 =>
    newD H (.cells ⟨[(.string (ByteArray.mk #[])), (.string (ByteArray.mk #[]))]⟩ 94) fun r H1 =>
    st1 H1 ⟨r, 0, none⟩ (.string s) fun H2 =>
    st1 H2 ⟨r, 1, none⟩ (.string s1) fun H3 =>
    ldStr H3 ⟨r, 0, none⟩ fun s2 =>
    callD Tryz.prog 29 [(.string s2), (.string key), (.string xend), (.bool (!eqS xend (ByteArray.mk #[])))] H3 (panK R) fun v H4 =>
    tBool v fun b =>
    iteB b (
      iteB (decide (limit ≤ (0 : Int))) (
        L1 key xend limit out outn outc r s12 s12n s12c s13 s14 H4 R) <|
      iteB (decide (((outn : Nat) : Int) < limit)) (
        L1 key xend limit out outn outc r s12 s12n s12c s13 s14 H4 R) <|
      L2 key xend limit out outn outc s12 s12n s12c s13 s14 H4 R) <|
    L2 key xend limit out outn outc s12 s12n s12c s13 s14 H4 R) <|
  R (.returned (.slice out outn outc)) H
theorem L0_step {key : ByteArray} {xend : ByteArray} {limit : Int} {out : Option Addr} {outn : Nat} {outc : Nat} {s12 : Option Addr} {s12n : Nat} {s12c : Nat} {s13 : Int} {s14 : Int} {H : Heap} {R : Ending → Heap → Prop} (h : L0n key xend limit out outn outc s12 s12n s12c s13 s14 H R) : L0 key xend limit out outn outc s12 s12n s12c s13 s14 H R :=
  goL_of_den (an := an) (fuel := 100000) (X := L0n key xend limit out outn outc s12 s12n s12c s13 s14 H R) mixed fn (by kernel_rfl) (fun ρ0 => by kernel_rfl) h
def L1n (key : ByteArray) (xend : ByteArray) (limit : Int) (out : Option Addr) (outn : Nat) (outc : Nat) (x : Nat) (s12 : Option Addr) (s12n : Nat) (s12c : Nat) (s13 : Int) (s14 : Int) (H : Heap) (R : Ending → Heap → Prop) : Prop :=
  ldStr H ⟨x, 0, none⟩ fun s =>
  ldStr H ⟨x, 1, none⟩ fun s1 =>
  newD H (.cells ⟨[(.string s), (.string s1)]⟩ 94) fun r H1 =>
  apD H1 2 32 [(.string (ByteArray.mk #[])), (.string (ByteArray.mk #[]))] 94 out outn outc (some ⟨r, 0, none⟩) 1 fun q qn qc H2 =>
  L2 key xend limit q qn qc s12 s12n s12c s13 s14 H2 R
theorem L1_step {key : ByteArray} {xend : ByteArray} {limit : Int} {out : Option Addr} {outn : Nat} {outc : Nat} {x : Nat} {s12 : Option Addr} {s12n : Nat} {s12c : Nat} {s13 : Int} {s14 : Int} {H : Heap} {R : Ending → Heap → Prop} (h : L1n key xend limit out outn outc x s12 s12n s12c s13 s14 H R) : L1 key xend limit out outn outc x s12 s12n s12c s13 s14 H R :=
  goL_of_den (an := an) (fuel := 100000) (X := L1n key xend limit out outn outc x s12 s12n s12c s13 s14 H R) mixed fn (by kernel_rfl) (fun ρ0 => by kernel_rfl) h
def L2n (key : ByteArray) (xend : ByteArray) (limit : Int) (out : Option Addr) (outn : Nat) (outc : Nat) (s12 : Option Addr) (s12n : Nat) (s12c : Nat) (s13 : Int) (s14 : Int) (H : Heap) (R : Ending → Heap → Prop) : Prop :=
  L0 key xend limit out outn outc s12 s12n s12c s13 (IntKind.wrap .i64 (s14 + (1 : Int))) H R
theorem L2_step {key : ByteArray} {xend : ByteArray} {limit : Int} {out : Option Addr} {outn : Nat} {outc : Nat} {s12 : Option Addr} {s12n : Nat} {s12c : Nat} {s13 : Int} {s14 : Int} {H : Heap} {R : Ending → Heap → Prop} (h : L2n key xend limit out outn outc s12 s12n s12c s13 s14 H R) : L2 key xend limit out outn outc s12 s12n s12c s13 s14 H R :=
  goL_of_den (an := an) (fuel := 100000) (X := L2n key xend limit out outn outc s12 s12n s12c s13 s14 H R) mixed fn (by kernel_rfl) (fun ρ0 => by kernel_rfl) h
def go (l : Option Addr) (ln : Nat) (lc : Nat) (key : ByteArray) (xend : ByteArray) (limit : Int) (H : Heap) (R : Ending → Heap → Prop) : Prop :=
  L0 key xend limit none 0 0 l ln lc ((ln : Nat) : Int) (0 : Int) H R
theorem calls {l : Option Addr} {ln : Nat} {lc : Nat} {key : ByteArray} {xend : ByteArray} {limit : Int} {H : Heap} {R : Ending → Heap → Prop} (h : go l ln lc key xend limit H R) : CallsH Tryz.prog 17 ⟨[(.slice l ln lc), (.string key), (.string xend), (.int .i64 limit)]⟩ H R :=
  callsH_of_den (an := an) (fuel := 100000) (X := go l ln lc key xend limit H R) (c := body) mixed fn (by kernel_rfl) (by kernel_rfl) (by kernel_rfl) ok (by kernel_rfl) h
end F17
/-! ### 18 "(pub-stadtholder/spec.Seen).Read" -/
namespace F18
def an : Ann := { kinds := [], taus := [], pairs := [], lab := [(10000005, [1, 2, 3, 4, 9]), (10000008, [1, 2, 4, 9, 10])] }
noncomputable def body : Code := (Tryz.f18.body).getD .skip
theorem fn : Tryz.prog.funcs[18]? = some Tryz.f18 := by kernel_rfl
theorem ok : codeOk an 43 body = true := by kernel_rfl
noncomputable def L0t : List Item := [.code (sub [1, 1, 1] body)]
def L0 (key : ByteArray) (xend : ByteArray) (limit : Int) (s : Nat) (b : Option Addr) (bn : Nat) (bc : Nat) (H : Heap) (R : Ending → Heap → Prop) : Prop :=
  GoL Tryz.prog 18 43 L0t [1, 2, 3, 4, 9] [(.string key), (.string xend), (.int .i64 limit), (.pointer (some ⟨s, 0, none⟩)), (.slice b bn bc)] H R
noncomputable def L1t : List Item := [.code (sub [1, 1, 1, 1, 1] body)]
def L1 (key : ByteArray) (xend : ByteArray) (s : Nat) (b : Option Addr) (bn : Nat) (bc : Nat) (rest : Int) (H : Heap) (R : Ending → Heap → Prop) : Prop :=
  GoL Tryz.prog 18 43 L1t [1, 2, 4, 9, 10] [(.string key), (.string xend), (.pointer (some ⟨s, 0, none⟩)), (.slice b bn bc), (.int .i64 rest)] H R
def L0n (key : ByteArray) (xend : ByteArray) (limit : Int) (s : Nat) (b : Option Addr) (bn : Nat) (bc : Nat) (H : Heap) (R : Ending → Heap → Prop) : Prop :=
  iteB (decide (limit > (0 : Int))) (
    L1 key xend s b bn bc (IntKind.wrap .i64 (limit - ((bn : Nat) : Int))) H R) <|
  L1 key xend s b bn bc limit H R
theorem L0_step {key : ByteArray} {xend : ByteArray} {limit : Int} {s : Nat} {b : Option Addr} {bn : Nat} {bc : Nat} {H : Heap} {R : Ending → Heap → Prop} (h : L0n key xend limit s b bn bc H R) : L0 key xend limit s b bn bc H R :=
  goL_of_den (an := an) (fuel := 100000) (X := L0n key xend limit s b bn bc H R) mixed fn (by kernel_rfl) (fun ρ0 => by kernel_rfl) h
def L1n (key : ByteArray) (xend : ByteArray) (s : Nat) (b : Option Addr) (bn : Nat) (bc : Nat) (rest : Int) (H : Heap) (R : Ending → Heap → Prop) : Prop :=
  newD H (.cells ⟨[]⟩ 94) fun r H1 =>
  ldSl H1 ⟨s, 0, none⟩ fun q qn qc =>
  callD Tryz.prog 17 [(.slice q qn qc), (.string key), (.string xend), (.int .i64 rest)] H1 (panK R) fun v H2 =>
  tSl v fun q1 q1n q1c =>
  apD H2 2 32 [(.string (ByteArray.mk #[])), (.string (ByteArray.mk #[]))] 94 (some ⟨r, 0, none⟩) 0 0 q1 q1n fun q2 q2n q2c H3 =>
  apD H3 2 32 [(.string (ByteArray.mk #[])), (.string (ByteArray.mk #[]))] 94 q2 q2n q2c b bn fun q3 q3n q3c H4 =>
  R (.returned (.slice q3 q3n q3c)) H4
theorem L1_step {key : ByteArray} {xend : ByteArray} {s : Nat} {b : Option Addr} {bn : Nat} {bc : Nat} {rest : Int} {H : Heap} {R : Ending → Heap → Prop} (h : L1n key xend s b bn bc rest H R) : L1 key xend s b bn bc rest H R :=
  goL_of_den (an := an) (fuel := 100000) (X := L1n key xend s b bn bc rest H R) mixed fn (by kernel_rfl) (fun ρ0 => by kernel_rfl) h
def go (s_0 : Option Addr) (s_0n : Nat) (s_0c : Nat) (s_1 : Option Addr) (s_1n : Nat) (s_1c : Nat) (key : ByteArray) (xend : ByteArray) (limit : Int) (H : Heap) (R : Ending → Heap → Prop) : Prop :=
  newD H (.cells ⟨[(.slice s_0 s_0n s_0c), (.slice s_1 s_1n s_1c)]⟩ 39) fun r H1 =>
  ldSl H1 ⟨r, 1, none⟩ fun q qn qc =>
  callD Tryz.prog 17 [(.slice q qn qc), (.string key), (.string xend), (.int .i64 limit)] H1 (panK R) fun v H2 =>
  tSl v fun q1 q1n q1c =>
  iteB (decide (limit > (0 : Int))) (
    iteB (((q1n : Nat) : Int) == limit) (
      R (.returned (.slice q1 q1n q1c)) H2) <|
    L0 key xend limit r q1 q1n q1c H2 R) <|
  L0 key xend limit r q1 q1n q1c H2 R
theorem calls {s_0 : Option Addr} {s_0n : Nat} {s_0c : Nat} {s_1 : Option Addr} {s_1n : Nat} {s_1c : Nat} {key : ByteArray} {xend : ByteArray} {limit : Int} {H : Heap} {R : Ending → Heap → Prop} (h : go s_0 s_0n s_0c s_1 s_1n s_1c key xend limit H R) : CallsH Tryz.prog 18 ⟨[(.agg ⟨[(.slice s_0 s_0n s_0c), (.slice s_1 s_1n s_1c)]⟩), (.string key), (.string xend), (.int .i64 limit)]⟩ H R :=
  callsH_of_den (an := an) (fuel := 100000) (X := go s_0 s_0n s_0c s_1 s_1n s_1c key xend limit H R) (c := body) mixed fn (by kernel_rfl) (by kernel_rfl) (by kernel_rfl) ok (by kernel_rfl) h
end F18
/-! ### 19 "(*pub-stadtholder/spec.Backing).unlock" -/
namespace F19
def an : Ann := { kinds := [], taus := [(6, [[0, 1, 2, 3, 4, 5, 6, 7, 9, 11, 14, 15, 8, 10, 12, 13, 16, 17, 18]]), (10, [[0, 1, 2, 3, 4, 5, 6, 7, 8, 10, 11, 12, 9, 13, 14, 15, 16, 17, 18, 19, 20, 21]])], pairs := [], lab := [(40000002, [0, 5]), (90000005, [0, 2, 5, 13, 14, 15])] }
noncomputable def body : Code := (Tryz.f19.body).getD .skip
theorem fn : Tryz.prog.funcs[19]? = some Tryz.f19 := by kernel_rfl
theorem ok : codeOk an 68 body = true := by kernel_rfl
noncomputable def L0t : List Item := [.code (sub [0, 1, 0, 0] body), .inLoop (sub [0, 1, 0, 0] body), .inBlock 0, .code (sub [1] body)]
def L0 (s0 : Option Addr) (s5 : Int) (H : Heap) (R : Ending → Heap → Prop) : Prop :=
  GoL Tryz.prog 19 68 L0t [0, 5] [(.pointer s0), (.int .i64 s5)] H R
noncomputable def L1t : List Item := [.code (sub [0, 1, 0, 0, 1, 1, 0, 0, 1, 0, 1, 0, 0] body), .inLoop (sub [0, 1, 0, 0, 1, 1, 0, 0, 1, 0, 1, 0, 0] body), .inBlock 2, .code (sub [0, 1, 0, 0, 1, 1, 0, 0, 1, 1] body), .inBlock 1, .code (sub [0, 1, 0, 0, 1, 1, 1] body), .inLoop (sub [0, 1, 0, 0] body), .inBlock 0, .code (sub [1] body)]
def L1 (s0 : Option Addr) (s2 : Int) (s5 : Int) (s13 : Option Addr) (s13n : Nat) (s13c : Nat) (s14 : Int) (s15 : Int) (H : Heap) (R : Ending → Heap → Prop) : Prop :=
  GoL Tryz.prog 19 68 L1t [0, 2, 5, 13, 14, 15] [(.pointer s0), (.int .i64 s2), (.int .i64 s5), (.slice s13 s13n s13c), (.int .i64 s14), (.int .i64 s15)] H R
def L0n (s0 : Option Addr) (s5 : Int) (H : Heap) (R : Ending → Heap → Prop) : Prop :=
  iteB (decide (s5 < (4 : Int))) (
    nilD s0 fun a =>
    idxA 4 s5 <|
    ldSl H (Addr.add (Addr.add a 5) (Int.toNat s5 * 1)) fun q qn qc =>
    L1 s0 s5 s5 q qn qc ((qn : Nat) : Int) (0 : Int) H R) <|
  nilD s0 fun a1 =>
  ldInt H (Addr.add a1 17) .i64 fun n =>
  iteB (decide (n > (0 : Int))) (
    nilD s0 fun a2 =>
    nilD s0 fun a3 =>
    ldInt H (Addr.add a2 17) .i64 fun n1 =>
    ldInt H a3 .i64 fun n2 =>
    iteB (decide (n1 ≥ n2)) (
      callD Tryz.prog 20 [(.pointer s0)] H (panK R) fun v H1 =>
      tTup v fun l =>
      tNil l <|
      R (.returned (.tuple ⟨[]⟩)) H1) <|
    nilD s0 fun a4 =>
    ldBool H (Addr.add a4 18) fun b =>
    iteB b (
      callD Tryz.prog 20 [(.pointer s0)] H (panK R) fun v1 H2 =>
      tTup v1 fun l1 =>
      tNil l1 <|
      R (.returned (.tuple ⟨[]⟩)) H2) <|
    R (.returned (.tuple ⟨[]⟩)) H) <|
  R (.returned (.tuple ⟨[]⟩)) H
theorem L0_step {s0 : Option Addr} {s5 : Int} {H : Heap} {R : Ending → Heap → Prop} (h : L0n s0 s5 H R) : L0 s0 s5 H R :=
  goL_of_den (an := an) (fuel := 100000) (X := L0n s0 s5 H R) mixed fn (by kernel_rfl) (fun ρ0 => by kernel_rfl) h
def L1n (s0 : Option Addr) (s2 : Int) (s5 : Int) (s13 : Option Addr) (s13n : Nat) (s13c : Nat) (s14 : Int) (s15 : Int) (H : Heap) (R : Ending → Heap → Prop) : Prop :=
  iteB (decide (s15 < s14)) (
    idxD s13 s13n s15 fun a =>
    ldStr H (Addr.add a (Int.toNat s15 * 2)) fun s =>
    ldStr H (Addr.add (Addr.add a (Int.toNat s15 * 2)) 1) fun s1 =>
    newD H (.cells ⟨[(.string (ByteArray.mk #[])), (.string (ByteArray.mk #[]))]⟩ 94) fun r H1 =>
    st1 H1 ⟨r, 0, none⟩ (.string s) fun H2 =>
    st1 H2 ⟨r, 1, none⟩ (.string s1) fun H3 =>
    nilD s0 fun a1 =>
    idxA 4 s2 <|
    nilD s0 fun a2 =>
    ldSl H3 (Addr.add (Addr.add (Addr.add a1 9) (Int.toNat s2 * 2)) 1) fun q qn qc =>
    ldStr H3 ⟨r, 0, none⟩ fun s3 =>
    ldStr H3 ⟨r, 1, none⟩ fun s4 =>
    callD Tryz.prog 14 [(.slice q qn qc), (.string s3), (.string s4)] H3 (panK R) fun v H4 =>
    tSl v fun q1 q1n q1c =>
    idxA 4 s2 <|
    st1 H4 (Addr.add (Addr.add (Addr.add a2 9) (Int.toNat s2 * 2)) 1) (.slice q1 q1n q1c) fun H5 =>
    L1 s0 s2 s5 s13 s13n s13c s14 (IntKind.wrap .i64 (s15 + (1 : Int))) H5 R) <|
  nilD s0 fun a3 =>
  idxA 4 s2 <|
  st1 H (Addr.add (Addr.add a3 5) (Int.toNat s2 * 1)) (.slice none 0 0) fun H6 =>
  L0 s0 (IntKind.wrap .i64 (s5 + (1 : Int))) H6 R
theorem L1_step {s0 : Option Addr} {s2 : Int} {s5 : Int} {s13 : Option Addr} {s13n : Nat} {s13c : Nat} {s14 : Int} {s15 : Int} {H : Heap} {R : Ending → Heap → Prop} (h : L1n s0 s2 s5 s13 s13n s13c s14 s15 H R) : L1 s0 s2 s5 s13 s13n s13c s14 s15 H R :=
  goL_of_den (an := an) (fuel := 100000) (X := L1n s0 s2 s5 s13 s13n s13c s14 s15 H R) mixed fn (by kernel_rfl) (fun ρ0 => by kernel_rfl) h
def go (s0 : Option Addr) (H : Heap) (R : Ending → Heap → Prop) : Prop :=
  L0 s0 (0 : Int) H R
theorem calls {s0 : Option Addr} {H : Heap} {R : Ending → Heap → Prop} (h : go s0 H R) : CallsH Tryz.prog 19 ⟨[(.pointer s0)]⟩ H R :=
  callsH_of_den (an := an) (fuel := 100000) (X := go s0 H R) (c := body) mixed fn (by kernel_rfl) (by kernel_rfl) (by kernel_rfl) ok (by kernel_rfl) h
end F19
/-! ### 20 "(*pub-stadtholder/spec.Backing).commit" -/
namespace F20
def an : Ann := { kinds := [], taus := [(3, [[0, 1, 2, 3, 4, 5, 6, 7, 8, 11, 12, 15, 16, 9, 10, 13, 14, 17, 18]])], pairs := [], lab := [(40000002, [0, 3])] }
noncomputable def body : Code := (Tryz.f20.body).getD .skip
theorem fn : Tryz.prog.funcs[20]? = some Tryz.f20 := by kernel_rfl
theorem ok : codeOk an 30 body = true := by kernel_rfl
noncomputable def L0t : List Item := [.code (sub [0, 1, 0, 0] body), .inLoop (sub [0, 1, 0, 0] body), .inBlock 0, .code (sub [1] body)]
def L0 (s : Option Addr) (s3 : Int) (H : Heap) (R : Ending → Heap → Prop) : Prop :=
  GoL Tryz.prog 20 30 L0t [0, 3] [(.pointer s), (.int .i64 s3)] H R
def L0n (s : Option Addr) (s3 : Int) (H : Heap) (R : Ending → Heap → Prop) : Prop :=
  iteB (decide (s3 < (4 : Int))) (
    nilD s fun a =>
    idxA 4 s3 <|
    nilD s fun a1 =>
    nilD s fun a2 =>
    ldSl H (Addr.add (Addr.add a 1) (Int.toNat s3 * 1)) fun q qn qc =>
    idxA 4 s3 <|
    st1 H (Addr.add (Addr.add a1 5) (Int.toNat s3 * 1)) (.slice none 0 0) fun H1 =>
    idxA 4 s3 <|
    st1 H1 (Addr.add (Addr.add a2 9) (Int.toNat s3 * 2)) (.slice q qn qc) fun H2 =>
    st1 H2 (Addr.add (Addr.add (Addr.add a2 9) (Int.toNat s3 * 2)) 1) (.slice none 0 0) fun H3 =>
    L0 s (IntKind.wrap .i64 (s3 + (1 : Int))) H3 R) <|
  nilD s fun a3 =>
  st1 H (Addr.add a3 17) (.int .i64 (0 : Int)) fun H4 =>
  nilD s fun a4 =>
  st1 H4 (Addr.add a4 18) (.bool false) fun H5 =>
  R (.returned (.tuple ⟨[]⟩)) H5
theorem L0_step {s : Option Addr} {s3 : Int} {H : Heap} {R : Ending → Heap → Prop} (h : L0n s s3 H R) : L0 s s3 H R :=
  goL_of_den (an := an) (fuel := 100000) (X := L0n s s3 H R) mixed fn (by kernel_rfl) (fun ρ0 => by kernel_rfl) h
def go (s : Option Addr) (H : Heap) (R : Ending → Heap → Prop) : Prop :=
  L0 s (0 : Int) H R
theorem calls {s : Option Addr} {H : Heap} {R : Ending → Heap → Prop} (h : go s H R) : CallsH Tryz.prog 20 ⟨[(.pointer s)]⟩ H R :=
  callsH_of_den (an := an) (fuel := 100000) (X := go s H R) (c := body) mixed fn (by kernel_rfl) (by kernel_rfl) (by kernel_rfl) ok (by kernel_rfl) h
end F20
/-! ### 22 "pub-stadtholder/laws.ixSameTexts" -/
namespace F22
def an : Ann := { kinds := [], taus := [(6, [[0, 1, 2, 4, 5, 6, 3, 7, 8]])], pairs := [], lab := [(40000005, [0, 1, 12, 13])] }
noncomputable def body : Code := (Tryz.f22.body).getD .skip
theorem fn : Tryz.prog.funcs[22]? = some Tryz.f22 := by kernel_rfl
theorem ok : codeOk an 26 body = true := by kernel_rfl
noncomputable def L0t : List Item := [.code (sub [1, 1, 0, 1, 0, 0] body), .inLoop (sub [1, 1, 0, 1, 0, 0] body), .inBlock 0, .code (sub [1, 1, 1] body)]
def L0 (a : Option Addr) (an1 : Nat) (ac : Nat) (b : Option Addr) (bn : Nat) (bc : Nat) (s12 : Int) (s13 : Int) (H : Heap) (R : Ending → Heap → Prop) : Prop :=
  GoL Tryz.prog 22 26 L0t [0, 1, 12, 13] [(.slice a an1 ac), (.slice b bn bc), (.int .i64 s12), (.int .i64 s13)] H R
def L0n (a : Option Addr) (an1 : Nat) (ac : Nat) (b : Option Addr) (bn : Nat) (bc : Nat) (s12 : Int) (s13 : Int) (H : Heap) (R : Ending → Heap → Prop) : Prop :=
  iteB (decide (s13 < s12)) (
    idxD a an1 s13 fun a1 =>
    idxD b bn s13 fun a2 =>
    ldStr H (Addr.add a1 (Int.toNat s13 * 1)) fun s =>
    ldStr H (Addr.add a2 (Int.toNat s13 * 1)) fun s1 =>
    iteB (!eqS s s1) (
      R (.returned (.bool false)) H) <|
    L0 a an1 ac b bn bc s12 (IntKind.wrap .i64 (s13 + (1 : Int))) H R) <|
  R (.returned (.bool true)) H
theorem L0_step {a : Option Addr} {an1 : Nat} {ac : Nat} {b : Option Addr} {bn : Nat} {bc : Nat} {s12 : Int} {s13 : Int} {H : Heap} {R : Ending → Heap → Prop} (h : L0n a an1 ac b bn bc s12 s13 H R) : L0 a an1 ac b bn bc s12 s13 H R :=
  goL_of_den (an := an) (fuel := 100000) (X := L0n a an1 ac b bn bc s12 s13 H R) mixed fn (by kernel_rfl) (fun ρ0 => by kernel_rfl) h
def go (a : Option Addr) (an1 : Nat) (ac : Nat) (b : Option Addr) (bn : Nat) (bc : Nat) (H : Heap) (R : Ending → Heap → Prop) : Prop :=
  iteB (((an1 : Nat) : Int) != ((bn : Nat) : Int)) (
    R (.returned (.bool false)) H) <|
  L0 a an1 ac b bn bc ((an1 : Nat) : Int) (0 : Int) H R
theorem calls {a : Option Addr} {an1 : Nat} {ac : Nat} {b : Option Addr} {bn : Nat} {bc : Nat} {H : Heap} {R : Ending → Heap → Prop} (h : go a an1 ac b bn bc H R) : CallsH Tryz.prog 22 ⟨[(.slice a an1 ac), (.slice b bn bc)]⟩ H R :=
  callsH_of_den (an := an) (fuel := 100000) (X := go a an1 ac b bn bc H R) (c := body) mixed fn (by kernel_rfl) (by kernel_rfl) (by kernel_rfl) ok (by kernel_rfl) h
end F22
/-! ### 27 "pub-stadtholder/impl.read" -/
namespace F27
def an : Ann := { kinds := [(3003, .grow), (3006, .grow), (3009, .grow)], taus := [(3, [[0, 1, 4, 7, 10, 12, 13, 14, 2, 5, 8, 11, 3, 6, 9, 15, 16, 17, 18, 19, 20], [0, 1, 4, 7, 10, 12, 13, 14, 2, 5, 8, 11, 3, 9, 6, 15, 16, 17, 18, 19, 20], [0, 1, 4, 7, 10, 12, 13, 14, 2, 5, 8, 11, 6, 3, 9, 15, 16, 17, 18, 19, 20]])], pairs := [(3, [(3, 6), (6, 9)])], lab := [(10000004, [0, 3, 4]), (10000005, [4, 5, 6])] }
noncomputable def body : Code := (Tryz.f27.body).getD .skip
theorem fn : Tryz.prog.funcs[27]? = some Tryz.f27 := by kernel_rfl
theorem ok : codeOk an 47 body = true := by kernel_rfl
noncomputable def L0t : List Item := [.code (sub [1, 1] body)]
def L0 (tx : IV) (o : Nat) (s4 : Nat) (H : Heap) (R : Ending → Heap → Prop) : Prop :=
  GoL Tryz.prog 27 47 L0t [0, 3, 4] [(IV.v tx), (.pointer (some ⟨o, 0, none⟩)), (.pointer (some ⟨s4, 0, none⟩))] H R
noncomputable def L1t : List Item := [.code (sub [1, 1, 1] body)]
def L1 (s4 : Nat) (k : Option Addr) (kn : Nat) (kc : Nat) (v : Option Addr) (vn : Nat) (vc : Nat) (H : Heap) (R : Ending → Heap → Prop) : Prop :=
  GoL Tryz.prog 27 47 L1t [4, 5, 6] [(.pointer (some ⟨s4, 0, none⟩)), (.slice k kn kc), (.slice v vn vc)] H R
def L0n (tx : IV) (o : Nat) (s4 : Nat) (H : Heap) (R : Ending → Heap → Prop) : Prop :=
  (
    nilM Tryz.prog "UnsafeRange" ⟨[(IV.v tx)]⟩ <|
    ldInt H ⟨o, 1, none⟩ .i64 fun n =>
    ldStr H ⟨o, 3, none⟩ fun s =>
    ldStr H ⟨o, 4, none⟩ fun s1 =>
    ldInt H ⟨o, 6, none⟩ .i64 fun n1 =>
    callD Tryz.prog 24 [(.int .i64 n)] H nope fun v H1 =>
    tIf v fun i =>
    andD (ExtH H H1) <|
    sbD H1 5 s fun r c H2 =>
    callD Tryz.prog 25 [(.string s1)] H2 nope fun v1 H3 =>
    tSl v1 fun q qn qc =>
    andD (ExtH H2 H3) <|
    callI Tryz.prog (IV.v tx) "UnsafeRange" [(IV.v i), (.slice (some ⟨r, 0, none⟩) (ByteArray.size s) c), (.slice q qn qc), (.int .i64 n1)] H3 (panK R) fun v2 H4 =>
    tTup v2 fun l =>
    tCons l fun c1 l1 =>
    tSl c1 fun q1 q1n q1c =>
    tCons l1 fun c2 l2 =>
    tSl c2 fun q2 q2n q2c =>
    tNil l2 <|
    L1 s4 q1 q1n q1c q2 q2n q2c H4 R) ∧
  (
    nilM Tryz.prog "UnsafeRange" ⟨[(IV.v tx)]⟩ <|
    ldInt H ⟨o, 1, none⟩ .i64 fun n2 =>
    ldStr H ⟨o, 3, none⟩ fun s2 =>
    ldStr H ⟨o, 4, none⟩ fun s3 =>
    ldInt H ⟨o, 6, none⟩ .i64 fun n3 =>
    callD Tryz.prog 24 [(.int .i64 n2)] H nope fun v3 H5 =>
    tIf v3 fun i1 =>
    andD (ExtH H H5) <|
    callD Tryz.prog 25 [(.string s3)] H5 nope fun v4 H6 =>
    tSl v4 fun q3 q3n q3c =>
    andD (ExtH H5 H6) <|
    sbD H6 5 s2 fun r1 c3 H7 =>
    callI Tryz.prog (IV.v tx) "UnsafeRange" [(IV.v i1), (.slice (some ⟨r1, 0, none⟩) (ByteArray.size s2) c3), (.slice q3 q3n q3c), (.int .i64 n3)] H7 (panK R) fun v5 H8 =>
    tTup v5 fun l3 =>
    tCons l3 fun c4 l4 =>
    tSl c4 fun q4 q4n q4c =>
    tCons l4 fun c5 l5 =>
    tSl c5 fun q5 q5n q5c =>
    tNil l5 <|
    L1 s4 q4 q4n q4c q5 q5n q5c H8 R) ∧
  (
    nilM Tryz.prog "UnsafeRange" ⟨[(IV.v tx)]⟩ <|
    ldInt H ⟨o, 1, none⟩ .i64 fun n4 =>
    ldStr H ⟨o, 3, none⟩ fun s5 =>
    ldStr H ⟨o, 4, none⟩ fun s6 =>
    ldInt H ⟨o, 6, none⟩ .i64 fun n5 =>
    sbD H 5 s5 fun r2 c6 H9 =>
    callD Tryz.prog 24 [(.int .i64 n4)] H9 nope fun v6 H10 =>
    tIf v6 fun i2 =>
    andD (ExtH H9 H10) <|
    callD Tryz.prog 25 [(.string s6)] H10 nope fun v7 H11 =>
    tSl v7 fun q6 q6n q6c =>
    andD (ExtH H10 H11) <|
    callI Tryz.prog (IV.v tx) "UnsafeRange" [(IV.v i2), (.slice (some ⟨r2, 0, none⟩) (ByteArray.size s5) c6), (.slice q6 q6n q6c), (.int .i64 n5)] H11 (panK R) fun v8 H12 =>
    tTup v8 fun l6 =>
    tCons l6 fun c7 l7 =>
    tSl c7 fun q7 q7n q7c =>
    tCons l7 fun c8 l8 =>
    tSl c8 fun q8 q8n q8c =>
    tNil l8 <|
    L1 s4 q7 q7n q7c q8 q8n q8c H12 R)
theorem L0_step {tx : IV} {o : Nat} {s4 : Nat} {H : Heap} {R : Ending → Heap → Prop} (h : L0n tx o s4 H R) : L0 tx o s4 H R :=
  goL_of_den (an := an) (fuel := 100000) (X := L0n tx o s4 H R) mixed fn (by kernel_rfl) (fun ρ0 => by kernel_rfl) h
def L1n (s4 : Nat) (k : Option Addr) (kn : Nat) (kc : Nat) (v : Option Addr) (vn : Nat) (vc : Nat) (H : Heap) (R : Ending → Heap → Prop) : Prop :=
  callD Tryz.prog 26 [(.slice k kn kc)] H (panK R) fun v1 H1 =>
  tSl v1 fun q qn qc =>
  callD Tryz.prog 26 [(.slice v vn vc)] H1 (panK R) fun v2 H2 =>
  tSl v2 fun q1 q1n q1c =>
  st1 H2 ⟨s4, 0, none⟩ (.int .i64 (0 : Int)) fun H3 =>
  st1 H3 ⟨s4, 1, none⟩ (.int .i64 ((kn : Nat) : Int)) fun H4 =>
  st1 H4 ⟨s4, 2, none⟩ (.slice q qn qc) fun H5 =>
  st1 H5 ⟨s4, 3, none⟩ (.slice q1 q1n q1c) fun H6 =>
  ldInt H6 ⟨s4, 0, none⟩ .i64 fun n =>
  ldInt H6 ⟨s4, 1, none⟩ .i64 fun n1 =>
  ldSl H6 ⟨s4, 2, none⟩ fun q2 q2n q2c =>
  ldSl H6 ⟨s4, 3, none⟩ fun q3 q3n q3c =>
  R (.returned (.agg ⟨[(.int .i64 n), (.int .i64 n1), (.slice q2 q2n q2c), (.slice q3 q3n q3c)]⟩)) H6
theorem L1_step {s4 : Nat} {k : Option Addr} {kn : Nat} {kc : Nat} {v : Option Addr} {vn : Nat} {vc : Nat} {H : Heap} {R : Ending → Heap → Prop} (h : L1n s4 k kn kc v vn vc H R) : L1 s4 k kn kc v vn vc H R :=
  goL_of_den (an := an) (fuel := 100000) (X := L1n s4 k kn kc v vn vc H R) mixed fn (by kernel_rfl) (fun ρ0 => by kernel_rfl) h
def go (tx : IV) (o_0 : Int) (o_1 : Int) (o_2 : Int) (o_3 : ByteArray) (o_4 : ByteArray) (o_5 : ByteArray) (o_6 : Int) (H : Heap) (R : Ending → Heap → Prop) : Prop :=
  newD H (.cells ⟨[(.int .i64 o_0), (.int .i64 o_1), (.int .i64 o_2), (.string o_3), (.string o_4), (.string o_5), (.int .i64 o_6)]⟩ 29) fun r H1 =>
  newD H1 (.cells ⟨[(.int .i64 (0 : Int)), (.int .i64 (0 : Int)), (.slice none 0 0), (.slice none 0 0)]⟩ 46) fun r1 H2 =>
  ldInt H2 ⟨r, 1, none⟩ .i64 fun n =>
  iteB (decide (n > (0 : Int))) (
    ldStr H2 ⟨r, 4, none⟩ fun s =>
    iteB (!eqS s (ByteArray.mk #[])) (
      ldInt H2 ⟨r, 6, none⟩ .i64 fun n1 =>
      iteB (n1 != (1 : Int)) (
        st1 H2 ⟨r1, 0, none⟩ (.int .i64 (11 : Int)) fun H3 =>
        st1 H3 ⟨r1, 1, none⟩ (.int .i64 (0 : Int)) fun H4 =>
        st1 H4 ⟨r1, 2, none⟩ (.slice none 0 0) fun H5 =>
        st1 H5 ⟨r1, 3, none⟩ (.slice none 0 0) fun H6 =>
        ldInt H6 ⟨r1, 0, none⟩ .i64 fun n2 =>
        ldInt H6 ⟨r1, 1, none⟩ .i64 fun n3 =>
        ldSl H6 ⟨r1, 2, none⟩ fun q qn qc =>
        ldSl H6 ⟨r1, 3, none⟩ fun q1 q1n q1c =>
        R (.returned (.agg ⟨[(.int .i64 n2), (.int .i64 n3), (.slice q qn qc), (.slice q1 q1n q1c)]⟩)) H6) <|
      L0 tx r r1 H2 R) <|
    L0 tx r r1 H2 R) <|
  L0 tx r r1 H2 R
theorem calls {tx : IV} {o_0 : Int} {o_1 : Int} {o_2 : Int} {o_3 : ByteArray} {o_4 : ByteArray} {o_5 : ByteArray} {o_6 : Int} {H : Heap} {R : Ending → Heap → Prop} (h : go tx o_0 o_1 o_2 o_3 o_4 o_5 o_6 H R) : CallsH Tryz.prog 27 ⟨[(IV.v tx), (.agg ⟨[(.int .i64 o_0), (.int .i64 o_1), (.int .i64 o_2), (.string o_3), (.string o_4), (.string o_5), (.int .i64 o_6)]⟩)]⟩ H R :=
  callsH_of_den (an := an) (fuel := 100000) (X := go tx o_0 o_1 o_2 o_3 o_4 o_5 o_6 H R) (c := body) mixed fn (by kernel_rfl) (by kernel_rfl) (by kernel_rfl) ok (by kernel_rfl) h
end F27
/-! ### 29 "pub-stadtholder/spec.Within" -/
namespace F29
def an : Ann := { kinds := [], taus := [], pairs := [], lab := [] }
noncomputable def body : Code := (Tryz.f29.body).getD .skip
theorem fn : Tryz.prog.funcs[29]? = some Tryz.f29 := by kernel_rfl
theorem ok : codeOk an 29 body = true := by kernel_rfl
def go (key : ByteArray) (first : ByteArray) (xend : ByteArray) (hasEnd : Bool) (H : Heap) (R : Ending → Heap → Prop) : Prop :=
  iteB (!hasEnd) (
    R (.returned (.bool (eqS key first))) H) <|
  iteB (eqS xend (ByteArray.mk #[])) (
    R (.returned (.bool (!ltS key first))) H) <|
  iteB (!ltS key first) (
    R (.returned (.bool (ltS key xend))) H) <|
  R (.returned (.bool false)) H
theorem calls {key : ByteArray} {first : ByteArray} {xend : ByteArray} {hasEnd : Bool} {H : Heap} {R : Ending → Heap → Prop} (h : go key first xend hasEnd H R) : CallsH Tryz.prog 29 ⟨[(.string key), (.string first), (.string xend), (.bool hasEnd)]⟩ H R :=
  callsH_of_den (an := an) (fuel := 100000) (X := go key first xend hasEnd H R) (c := body) mixed fn (by kernel_rfl) (by kernel_rfl) (by kernel_rfl) ok (by kernel_rfl) h
end F29
end Go.Proofs.YtkkookljlencgaaGreat
