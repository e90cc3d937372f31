/- What functions of this seat do, each proved by a walk; no condition. -/
import Derived.Test.YtkejocbhmcphiaaDoorWC
import Derived.KernelRfl
set_option linter.unusedVariables false
namespace Go.Proofs.YtkejocbhmcphiaaDoor
open Go Go.Den Go.Proofs
/-! ### 3 "pub-stadtholder/laws.FnWalBack" -/
namespace F3
def an : Ann := { kinds := [(7001, .read), (8026, .grow)], taus := [(8, [[0, 1, 2, 3, 5, 6, 4, 7, 8, 9, 10, 11, 12, 13, 14, 15, 17, 18, 16, 19, 20, 21, 22, 24, 25, 23, 26, 27, 28, 29]])], pairs := [], lab := [] }
noncomputable def body : Code := (Tryd.f3.body).getD .skip
theorem fn : Tryd.prog.funcs[3]? = some Tryd.f3 := by kernel_rfl
theorem ok : codeOk an 62 body = true := by kernel_rfl
def go (prev : Int) (offset : Int) (recs : Option Addr) (recsn : Nat) (recsc : Nat) (H : Heap) (R : Ending → Heap → Prop) : Prop :=
  callD Tryd.prog 6 [(.slice recs recsn recsc)] H (panK R) fun v H1 =>
  tBool v fun b =>
  iteB (!b) (
    R (.returned (.bool true)) H1) <|
  callD Tryd.prog 7 [(.slice recs recsn recsc), (.int .i64 offset)] H1 (panK R) fun v1 H2 =>
  tBool v1 fun b1 =>
  iteB (!b1) (
    R (.returned (.bool true)) H2) <|
  callD Tryd.prog 8 [(.slice recs recsn recsc)] H2 (panK R) fun v2 H3 =>
  tSl v2 fun q qn qc =>
  callD Tryd.prog 9 [(.int .u32 prev), (.int .i64 offset), (.slice q qn qc)] H3 (panK R) fun v3 H4 =>
  tTup v3 fun l =>
  tCons l fun c l1 =>
  tSl c fun q1 q1n q1c =>
  tCons l1 fun c1 l2 =>
  tInt c1 .i64 fun n =>
  tNil l2 <|
  bsD H4 q1 q1n fun s =>
  newD H4 (.cells ⟨[(.string s)]⟩ 9) fun r H5 =>
  callD Tryd.prog 10 [(.slice (some ⟨r, 0, none⟩) 1 1), (.int .i64 (IntKind.wrap .i64 (((qn : Nat) : Int) + (9 : Int)))), (.bool true), (.bool false)] H5 (panK R) fun v4 H6 =>
  tAgg v4 fun l3 =>
  tCons l3 fun c2 l4 =>
  tSl c2 fun q2 q2n q2c =>
  tCons l4 fun c3 l5 =>
  tInt c3 .i64 fun n1 =>
  tCons l5 fun c4 l6 =>
  tInt c4 .i64 fun n2 =>
  tCons l6 fun c5 l7 =>
  tInt c5 .u32 fun n3 =>
  tNil l7 <|
  newD H6 (.cells ⟨[(.slice none 0 0), (.int .i64 (0 : Int)), (.int .i64 (0 : Int)), (.int .u32 (0 : Int))]⟩ 31) fun r1 H7 =>
  st1 H7 ⟨r1, 0, none⟩ (.slice q2 q2n q2c) fun H8 =>
  st1 H8 ⟨r1, 1, none⟩ (.int .i64 n1) fun H9 =>
  st1 H9 ⟨r1, 2, none⟩ (.int .i64 n2) fun H10 =>
  st1 H10 ⟨r1, 3, none⟩ (.int .u32 n3) fun H11 =>
  iteB (n == (0 : Int)) (
    ldSl H11 ⟨r1, 0, none⟩ fun q3 q3n q3c =>
    callD Tryd.prog 11 [(.slice q3 q3n q3c), (.slice q qn qc), (.int .u32 prev)] H11 (panK R) fun v5 H12 =>
    tBool v5 fun b2 =>
    iteB b2 (
      ldInt H12 ⟨r1, 1, none⟩ .i64 fun n4 =>
      iteB (n4 == (1 : Int)) (
        ldInt H12 ⟨r1, 2, none⟩ .i64 fun n5 =>
        iteB (n5 == ((q1n : Nat) : Int)) (
          ldInt H12 ⟨r1, 3, none⟩ .u32 fun n6 =>
          callD Tryd.prog 12 [(.int .u32 prev), (.slice q qn qc)] H12 nope fun v6 H13 =>
          tInt v6 .u32 fun n7 =>
          andD (ExtH H12 H13) <|
          R (.returned (.bool (n6 == n7))) H13) <|
        R (.returned (.bool false)) H12) <|
      R (.returned (.bool false)) H12) <|
    R (.returned (.bool false)) H12) <|
  R (.returned (.bool false)) H11
theorem calls {prev : Int} {offset : Int} {recs : Option Addr} {recsn : Nat} {recsc : Nat} {H : Heap} {R : Ending → Heap → Prop} (h : go prev offset recs recsn recsc H R) : CallsH Tryd.prog 3 ⟨[(.int .u32 prev), (.int .i64 offset), (.slice recs recsn recsc)]⟩ H R :=
  callsH_of_den (an := an) (fuel := 100000) (X := go prev offset recs recsn recsc H R) (c := body) mixed fn (by kernel_rfl) (by kernel_rfl) (by kernel_rfl) ok (by kernel_rfl) h
end F3
/-! ### 4 "pub-stadtholder/laws.FnWalSees" -/
namespace F4
def an : Ann := { kinds := [(14004, .loud), (18002, .read), (18008, .grow), (18010, .grow), (18015, .grow)], taus := [(16, [[1, 2, 3, 0, 4, 5, 6, 7, 8]]), (17, [[0, 1, 2, 6, 7, 14, 3, 4, 5, 8, 9, 10, 11, 12, 13, 15, 16, 17]]), (18, [[0, 1, 4, 5, 6, 7, 11, 12, 13, 2, 3, 8, 9, 10, 15, 14, 16], [0, 1, 4, 5, 6, 7, 11, 12, 13, 2, 3, 8, 9, 10, 14, 15, 16], [0, 1, 4, 5, 6, 7, 11, 12, 13, 2, 3, 8, 9, 15, 10, 14, 16], [0, 1, 4, 5, 6, 7, 11, 12, 13, 2, 3, 15, 8, 9, 10, 14, 16]]), (19, [[0, 2, 3, 4, 5, 1, 6, 7, 8, 9, 10, 11, 12, 13, 14, 15, 16, 17, 18, 20, 21, 19, 22, 23, 24]])], pairs := [(18, [(8, 15), (10, 15), (15, 14)])], lab := [(10000006, [0, 1, 2, 3, 4]), (10000020, [0, 1, 11, 15, 20])] }
noncomputable def body : Code := (Tryd.f4.body).getD .skip
theorem fn : Tryd.prog.funcs[4]? = some Tryd.f4 := by kernel_rfl
theorem ok : codeOk an 145 body = true := by kernel_rfl
noncomputable def L0t : List Item := [.code (sub [1, 1, 1] body)]
def L0 (s0 : Int) (s1 : Option Addr) (s1n : Nat) (s1c : Nat) (s2 : Int) (s3 : Int) (s4 : Int) (H : Heap) (R : Ending → Heap → Prop) : Prop :=
  GoL Tryd.prog 4 145 L0t [0, 1, 2, 3, 4] [(.int .u32 s0), (.slice s1 s1n s1c), (.int .i64 s2), (.int .i64 s3), (.int .u8 s4)] H R
noncomputable def L1t : List Item := [.code (sub [1, 1, 1, 1, 1, 1, 1, 1, 1, 1, 1, 1, 1, 1, 1] body)]
def L1 (s0 : Int) (s1 : Option Addr) (s1n : Nat) (s1c : Nat) (s11 : Int) (s15 : ByteArray) (s20 : Nat) (H : Heap) (R : Ending → Heap → Prop) : Prop :=
  GoL Tryd.prog 4 145 L1t [0, 1, 11, 15, 20] [(.int .u32 s0), (.slice s1 s1n s1c), (.int .i64 s11), (.string s15), (.pointer (some ⟨s20, 0, none⟩))] H R
def L0n (s0 : Int) (s1 : Option Addr) (s1n : Nat) (s1c : Nat) (s2 : Int) (s3 : Int) (s4 : Int) (H : Heap) (R : Ending → Heap → Prop) : Prop :=
  divD ((s1n : Nat) : Int) <|
  callD Tryd.prog 8 [(.slice s1 s1n s1c)] H (panK R) fun v H1 =>
  tSl v fun q qn qc =>
  idxD q qn (IntKind.wrap .i64 ((1 : Int) + (Int.tmod s2 ((s1n : Nat) : Int)))) fun a =>
  ldInt H1 (Addr.add a (Int.toNat (IntKind.wrap .i64 ((1 : Int) + (Int.tmod s2 ((s1n : Nat) : Int)))) * 6)) .i64 fun n =>
  ldBool H1 (Addr.add (Addr.add a (Int.toNat (IntKind.wrap .i64 ((1 : Int) + (Int.tmod s2 ((s1n : Nat) : Int)))) * 6)) 1) fun b =>
  ldInt H1 (Addr.add (Addr.add a (Int.toNat (IntKind.wrap .i64 ((1 : Int) + (Int.tmod s2 ((s1n : Nat) : Int)))) * 6)) 2) .u32 fun n1 =>
  ldBool H1 (Addr.add (Addr.add a (Int.toNat (IntKind.wrap .i64 ((1 : Int) + (Int.tmod s2 ((s1n : Nat) : Int)))) * 6)) 3) fun b1 =>
  ldStr H1 (Addr.add (Addr.add a (Int.toNat (IntKind.wrap .i64 ((1 : Int) + (Int.tmod s2 ((s1n : Nat) : Int)))) * 6)) 4) fun s =>
  ldBool H1 (Addr.add (Addr.add a (Int.toNat (IntKind.wrap .i64 ((1 : Int) + (Int.tmod s2 ((s1n : Nat) : Int)))) * 6)) 5) fun b2 =>
  newD H1 (.cells ⟨[(.int .i64 (0 : Int)), (.bool false), (.int .u32 (0 : Int)), (.bool false), (.string (ByteArray.mk #[])), (.bool false)]⟩ 38) fun r H2 =>
  st1 H2 ⟨r, 0, none⟩ (.int .i64 n) fun H3 =>
  st1 H3 ⟨r, 1, none⟩ (.bool b) fun H4 =>
  st1 H4 ⟨r, 2, none⟩ (.int .u32 n1) fun H5 =>
  st1 H5 ⟨r, 3, none⟩ (.bool b1) fun H6 =>
  st1 H6 ⟨r, 4, none⟩ (.string s) fun H7 =>
  st1 H7 ⟨r, 5, none⟩ (.bool b2) fun H8 =>
  callD Tryd.prog 13 [(.int .u32 s0), (.int .i64 (0 : Int)), (.slice q qn qc)] H8 (panK R) fun v1 H9 =>
  tTup v1 fun l =>
  tCons l fun c l1 =>
  tSl c fun q1 q1n q1c =>
  tCons l1 fun c1 l2 =>
  tBool c1 fun b3 =>
  tNil l2 <|
  iteB (!b3) (
    R (.returned (.bool false)) H9) <|
  ldStr H9 ⟨r, 4, none⟩ fun s5 =>
  iteB (eqS s5 (ByteArray.mk #[])) (
    R (.returned (.bool true)) H9) <|
  bndD (IntKind.wrap .i64 ((1 : Int) + (Int.tmod s2 ((s1n : Nat) : Int)))) q1c fun k =>
  callD Tryd.prog 14 [(.slice (slP q1 0 q1c 1) k q1c)] H9 (panK R) fun v2 H10 =>
  tStr v2 fun s6 =>
  idxD q1 q1n (IntKind.wrap .i64 ((1 : Int) + (Int.tmod s2 ((s1n : Nat) : Int)))) fun a1 =>
  ldStr H10 (Addr.add a1 (Int.toNat (IntKind.wrap .i64 ((1 : Int) + (Int.tmod s2 ((s1n : Nat) : Int)))) * 1)) fun s7 =>
  sbD H10 5 s7 fun r1 c2 H11 =>
  callD Tryd.prog 15 [(.int .u32 s0), (.slice q qn qc)] H11 (panK R) fun v3 H12 =>
  tTup v3 fun l3 =>
  tCons l3 fun c3 l4 =>
  tSl c3 fun q2 q2n q2c =>
  tCons l4 fun c4 l5 =>
  tSl c4 fun q3 q3n q3c =>
  tNil l5 <|
  idxD q3 q3n (IntKind.wrap .i64 ((1 : Int) + (Int.tmod s2 ((s1n : Nat) : Int)))) fun a2 =>
  ldInt H12 ⟨r, 0, none⟩ .i64 fun n2 =>
  ldBool H12 ⟨r, 1, none⟩ fun b4 =>
  ldInt H12 ⟨r, 2, none⟩ .u32 fun n3 =>
  ldBool H12 ⟨r, 3, none⟩ fun b5 =>
  ldStr H12 ⟨r, 4, none⟩ fun s8 =>
  ldBool H12 ⟨r, 5, none⟩ fun b6 =>
  ldInt H12 (Addr.add a2 (Int.toNat (IntKind.wrap .i64 ((1 : Int) + (Int.tmod s2 ((s1n : Nat) : Int)))) * 1)) .u32 fun n4 =>
  callD Tryd.prog 16 [(.agg ⟨[(.int .i64 n2), (.bool b4), (.int .u32 n3), (.bool b5), (.string s8), (.bool b6)]⟩), (.int .u32 n4)] H12 (panK R) fun v4 H13 =>
  tStr v4 fun s9 =>
  ldStr H13 ⟨r, 4, none⟩ fun s10 =>
  ldStr H13 ⟨r, 4, none⟩ fun s11 =>
  divD ((ByteArray.size s11 : Nat) : Int) <|
  idxD (some ⟨r1, 0, none⟩) (ByteArray.size s7) (IntKind.wrap .i64 ((IntKind.wrap .i64 ((IntKind.wrap .i64 ((8 : Int) + ((ByteArray.size s9 : Nat) : Int))) - ((ByteArray.size s10 : Nat) : Int))) + (Int.tmod s3 ((ByteArray.size s11 : Nat) : Int)))) fun a3 =>
  ldInt H13 (Addr.add a3 (Int.toNat (IntKind.wrap .i64 ((IntKind.wrap .i64 ((IntKind.wrap .i64 ((8 : Int) + ((ByteArray.size s9 : Nat) : Int))) - ((ByteArray.size s10 : Nat) : Int))) + (Int.tmod s3 ((ByteArray.size s11 : Nat) : Int)))) * 1)) .u8 fun n5 =>
  idxD (some ⟨r1, 0, none⟩) (ByteArray.size s7) (IntKind.wrap .i64 ((IntKind.wrap .i64 ((IntKind.wrap .i64 ((8 : Int) + ((ByteArray.size s9 : Nat) : Int))) - ((ByteArray.size s10 : Nat) : Int))) + (Int.tmod s3 ((ByteArray.size s11 : Nat) : Int)))) fun a4 =>
  st1 H13 (Addr.add a4 (Int.toNat (IntKind.wrap .i64 ((IntKind.wrap .i64 ((IntKind.wrap .i64 ((8 : Int) + ((ByteArray.size s9 : Nat) : Int))) - ((ByteArray.size s10 : Nat) : Int))) + (Int.tmod s3 ((ByteArray.size s11 : Nat) : Int)))) * 1)) (.int .u8 (xorZ .u8 n5 s4)) fun H14 =>
  (
    bndD (IntKind.wrap .i64 ((IntKind.wrap .i64 ((1 : Int) + (Int.tmod s2 ((s1n : Nat) : Int)))) + (1 : Int))) q1n fun k1 =>
    bsD H14 (some ⟨r1, 0, none⟩) (ByteArray.size s7) fun s12 =>
    catD s6 s12 fun s13 =>
    callD Tryd.prog 14 [(.slice (slP q1 k1 q1c 1) (q1n - k1) (q1c - k1))] H14 nope fun v5 H15 =>
    tStr v5 fun s14 =>
    andD (ExtH H14 H15) <|
    catD s13 s14 fun s15 =>
    newD H15 (.cells ⟨[(.string s15)]⟩ 9) fun r2 H16 =>
    newD H16 (.cells ⟨[(.slice none 0 0), (.int .i64 (0 : Int)), (.int .i64 (0 : Int)), (.int .u32 (0 : Int))]⟩ 31) fun r3 H17 =>
    callD Tryd.prog 10 [(.slice (some ⟨r2, 0, none⟩) 1 1), (.int .i64 (IntKind.wrap .i64 (((qn : Nat) : Int) + (9 : Int)))), (.bool true), (.bool false)] H17 (panK R) fun v6 H18 =>
    tAgg v6 fun l6 =>
    tCons l6 fun c5 l7 =>
    tSl c5 fun q4 q4n q4c =>
    tCons l7 fun c6 l8 =>
    tInt c6 .i64 fun n6 =>
    tCons l8 fun c7 l9 =>
    tInt c7 .i64 fun n7 =>
    tCons l9 fun c8 l10 =>
    tInt c8 .u32 fun n8 =>
    tNil l10 <|
    st1 H18 ⟨r3, 0, none⟩ (.slice q4 q4n q4c) fun H19 =>
    st1 H19 ⟨r3, 1, none⟩ (.int .i64 n6) fun H20 =>
    st1 H20 ⟨r3, 2, none⟩ (.int .i64 n7) fun H21 =>
    st1 H21 ⟨r3, 3, none⟩ (.int .u32 n8) fun H22 =>
    L1 s0 q qn qc (IntKind.wrap .i64 ((1 : Int) + (Int.tmod s2 ((s1n : Nat) : Int)))) s6 r3 H22 R) ∧
  (
    bndD (IntKind.wrap .i64 ((IntKind.wrap .i64 ((1 : Int) + (Int.tmod s2 ((s1n : Nat) : Int)))) + (1 : Int))) q1n fun k2 =>
    bsD H14 (some ⟨r1, 0, none⟩) (ByteArray.size s7) fun s16 =>
    catD s6 s16 fun s17 =>
    callD Tryd.prog 14 [(.slice (slP q1 k2 q1c 1) (q1n - k2) (q1c - k2))] H14 nope fun v7 H23 =>
    tStr v7 fun s18 =>
    andD (ExtH H14 H23) <|
    catD s17 s18 fun s19 =>
    newD H23 (.cells ⟨[(.string s19)]⟩ 9) fun r4 H24 =>
    callD Tryd.prog 10 [(.slice (some ⟨r4, 0, none⟩) 1 1), (.int .i64 (IntKind.wrap .i64 (((qn : Nat) : Int) + (9 : Int)))), (.bool true), (.bool false)] H24 (panK R) fun v8 H25 =>
    tAgg v8 fun l11 =>
    tCons l11 fun c9 l12 =>
    tSl c9 fun q5 q5n q5c =>
    tCons l12 fun c10 l13 =>
    tInt c10 .i64 fun n9 =>
    tCons l13 fun c11 l14 =>
    tInt c11 .i64 fun n10 =>
    tCons l14 fun c12 l15 =>
    tInt c12 .u32 fun n11 =>
    tNil l15 <|
    newD H25 (.cells ⟨[(.slice none 0 0), (.int .i64 (0 : Int)), (.int .i64 (0 : Int)), (.int .u32 (0 : Int))]⟩ 31) fun r5 H26 =>
    st1 H26 ⟨r5, 0, none⟩ (.slice q5 q5n q5c) fun H27 =>
    st1 H27 ⟨r5, 1, none⟩ (.int .i64 n9) fun H28 =>
    st1 H28 ⟨r5, 2, none⟩ (.int .i64 n10) fun H29 =>
    st1 H29 ⟨r5, 3, none⟩ (.int .u32 n11) fun H30 =>
    L1 s0 q qn qc (IntKind.wrap .i64 ((1 : Int) + (Int.tmod s2 ((s1n : Nat) : Int)))) s6 r5 H30 R) ∧
  (
    bndD (IntKind.wrap .i64 ((IntKind.wrap .i64 ((1 : Int) + (Int.tmod s2 ((s1n : Nat) : Int)))) + (1 : Int))) q1n fun k3 =>
    bsD H14 (some ⟨r1, 0, none⟩) (ByteArray.size s7) fun s20 =>
    catD s6 s20 fun s21 =>
    callD Tryd.prog 14 [(.slice (slP q1 k3 q1c 1) (q1n - k3) (q1c - k3))] H14 nope fun v9 H31 =>
    tStr v9 fun s22 =>
    andD (ExtH H14 H31) <|
    catD s21 s22 fun s23 =>
    newD H31 (.cells ⟨[(.slice none 0 0), (.int .i64 (0 : Int)), (.int .i64 (0 : Int)), (.int .u32 (0 : Int))]⟩ 31) fun r6 H32 =>
    newD H32 (.cells ⟨[(.string s23)]⟩ 9) fun r7 H33 =>
    callD Tryd.prog 10 [(.slice (some ⟨r7, 0, none⟩) 1 1), (.int .i64 (IntKind.wrap .i64 (((qn : Nat) : Int) + (9 : Int)))), (.bool true), (.bool false)] H33 (panK R) fun v10 H34 =>
    tAgg v10 fun l16 =>
    tCons l16 fun c13 l17 =>
    tSl c13 fun q6 q6n q6c =>
    tCons l17 fun c14 l18 =>
    tInt c14 .i64 fun n12 =>
    tCons l18 fun c15 l19 =>
    tInt c15 .i64 fun n13 =>
    tCons l19 fun c16 l20 =>
    tInt c16 .u32 fun n14 =>
    tNil l20 <|
    st1 H34 ⟨r6, 0, none⟩ (.slice q6 q6n q6c) fun H35 =>
    st1 H35 ⟨r6, 1, none⟩ (.int .i64 n12) fun H36 =>
    st1 H36 ⟨r6, 2, none⟩ (.int .i64 n13) fun H37 =>
    st1 H37 ⟨r6, 3, none⟩ (.int .u32 n14) fun H38 =>
    L1 s0 q qn qc (IntKind.wrap .i64 ((1 : Int) + (Int.tmod s2 ((s1n : Nat) : Int)))) s6 r6 H38 R) ∧
  (
    bndD (IntKind.wrap .i64 ((IntKind.wrap .i64 ((1 : Int) + (Int.tmod s2 ((s1n : Nat) : Int)))) + (1 : Int))) q1n fun k4 =>
    bsD H14 (some ⟨r1, 0, none⟩) (ByteArray.size s7) fun s24 =>
    catD s6 s24 fun s25 =>
    newD H14 (.cells ⟨[(.slice none 0 0), (.int .i64 (0 : Int)), (.int .i64 (0 : Int)), (.int .u32 (0 : Int))]⟩ 31) fun r8 H39 =>
    callD Tryd.prog 14 [(.slice (slP q1 k4 q1c 1) (q1n - k4) (q1c - k4))] H39 nope fun v11 H40 =>
    tStr v11 fun s26 =>
    andD (ExtH H39 H40) <|
    catD s25 s26 fun s27 =>
    newD H40 (.cells ⟨[(.string s27)]⟩ 9) fun r9 H41 =>
    callD Tryd.prog 10 [(.slice (some ⟨r9, 0, none⟩) 1 1), (.int .i64 (IntKind.wrap .i64 (((qn : Nat) : Int) + (9 : Int)))), (.bool true), (.bool false)] H41 (panK R) fun v12 H42 =>
    tAgg v12 fun l21 =>
    tCons l21 fun c17 l22 =>
    tSl c17 fun q7 q7n q7c =>
    tCons l22 fun c18 l23 =>
    tInt c18 .i64 fun n15 =>
    tCons l23 fun c19 l24 =>
    tInt c19 .i64 fun n16 =>
    tCons l24 fun c20 l25 =>
    tInt c20 .u32 fun n17 =>
    tNil l25 <|
    st1 H42 ⟨r8, 0, none⟩ (.slice q7 q7n q7c) fun H43 =>
    st1 H43 ⟨r8, 1, none⟩ (.int .i64 n15) fun H44 =>
    st1 H44 ⟨r8, 2, none⟩ (.int .i64 n16) fun H45 =>
    st1 H45 ⟨r8, 3, none⟩ (.int .u32 n17) fun H46 =>
    L1 s0 q qn qc (IntKind.wrap .i64 ((1 : Int) + (Int.tmod s2 ((s1n : Nat) : Int)))) s6 r8 H46 R)
theorem L0_step {s0 : Int} {s1 : Option Addr} {s1n : Nat} {s1c : Nat} {s2 : Int} {s3 : Int} {s4 : Int} {H : Heap} {R : Ending → Heap → Prop} (h : L0n s0 s1 s1n s1c s2 s3 s4 H R) : L0 s0 s1 s1n s1c s2 s3 s4 H R :=
  goL_of_den (an := an) (fuel := 100000) (X := L0n s0 s1 s1n s1c s2 s3 s4 H R) mixed fn (by kernel_rfl) (fun ρ0 => by kernel_rfl) h
def L1n (s0 : Int) (s1 : Option Addr) (s1n : Nat) (s1c : Nat) (s11 : Int) (s15 : ByteArray) (s20 : Nat) (H : Heap) (R : Ending → Heap → Prop) : Prop :=
  bndD s11 s1c fun k =>
  ldSl H ⟨s20, 0, none⟩ fun q qn qc =>
  callD Tryd.prog 11 [(.slice q qn qc), (.slice (slP s1 0 s1c 6) k s1c), (.int .u32 s0)] H (panK R) fun v H1 =>
  tBool v fun b =>
  iteB b (
    ldInt H1 ⟨s20, 1, none⟩ .i64 fun n =>
    iteB (n == (3 : Int)) (
      ldInt H1 ⟨s20, 2, none⟩ .i64 fun n1 =>
      R (.returned (.bool (n1 == ((ByteArray.size s15 : Nat) : Int)))) H1) <|
    ldInt H1 ⟨s20, 1, none⟩ .i64 fun n2 =>
    iteB (n2 == (2 : Int)) (
      ldInt H1 ⟨s20, 2, none⟩ .i64 fun n3 =>
      R (.returned (.bool (n3 == ((ByteArray.size s15 : Nat) : Int)))) H1) <|
    R (.returned (.bool false)) H1) <|
  R (.returned (.bool false)) H1
theorem L1_step {s0 : Int} {s1 : Option Addr} {s1n : Nat} {s1c : Nat} {s11 : Int} {s15 : ByteArray} {s20 : Nat} {H : Heap} {R : Ending → Heap → Prop} (h : L1n s0 s1 s1n s1c s11 s15 s20 H R) : L1 s0 s1 s1n s1c s11 s15 s20 H R :=
  goL_of_den (an := an) (fuel := 100000) (X := L1n s0 s1 s1n s1c s11 s15 s20 H R) mixed fn (by kernel_rfl) (fun ρ0 => by kernel_rfl) h
def go (s0 : Int) (s1 : Option Addr) (s1n : Nat) (s1c : Nat) (s2 : Int) (s3 : Int) (s4 : Int) (H : Heap) (R : Ending → Heap → Prop) : Prop :=
  callD Tryd.prog 6 [(.slice s1 s1n s1c)] H (panK R) fun v H1 =>
  tBool v fun b =>
  iteB (!b) (
    R (.returned (.bool true)) H1) <|
  callD Tryd.prog 7 [(.slice s1 s1n s1c), (.int .i64 (0 : Int))] H1 (panK R) fun v1 H2 =>
  tBool v1 fun b1 =>
  iteB (!b1) (
    R (.returned (.bool true)) H2) <|
  iteB (decide (s2 < (0 : Int))) (
    R (.returned (.bool true)) H2) <|
  iteB (decide (s3 < (0 : Int))) (
    R (.returned (.bool true)) H2) <|
  iteB (s4 == (0 : Int)) (
    R (.returned (.bool true)) H2) <|
  iteB (((s1n : Nat) : Int) == (0 : Int)) (
    R (.returned (.bool true)) H2) <|
  L0 s0 s1 s1n s1c s2 s3 s4 H2 R
theorem calls {s0 : Int} {s1 : Option Addr} {s1n : Nat} {s1c : Nat} {s2 : Int} {s3 : Int} {s4 : Int} {H : Heap} {R : Ending → Heap → Prop} (h : go s0 s1 s1n s1c s2 s3 s4 H R) : CallsH Tryd.prog 4 ⟨[(.int .u32 s0), (.slice s1 s1n s1c), (.int .i64 s2), (.int .i64 s3), (.int .u8 s4)]⟩ H R :=
  callsH_of_den (an := an) (fuel := 100000) (X := go s0 s1 s1n s1c s2 s3 s4 H R) (c := body) mixed fn (by kernel_rfl) (by kernel_rfl) (by kernel_rfl) ok (by kernel_rfl) h
end F4
/-! ### 5 "pub-stadtholder/laws.FnWalTorn" -/
namespace F5
def an : Ann := { kinds := [], taus := [(19, [[0, 2, 3, 4, 5, 1, 6, 7, 8, 10, 9, 11, 12, 13, 14, 16, 15, 17, 18, 19]])], pairs := [], lab := [(10000006, [0, 1, 2]), (40000013, [0, 1, 7, 9, 10, 11, 12]), (10000016, [0, 1, 9, 10, 11, 12]), (10000020, [0, 1, 11, 12, 13, 14]), (40000014, [0, 1, 7, 9, 10, 11, 12])] }
noncomputable def body : Code := (Tryd.f5.body).getD .skip
theorem fn : Tryd.prog.funcs[5]? = some Tryd.f5 := by kernel_rfl
theorem ok : codeOk an 96 body = true := by kernel_rfl
noncomputable def L0t : List Item := [.code (sub [1, 1, 1] body)]
def L0 (s0 : Int) (s1 : Option Addr) (s1n : Nat) (s1c : Nat) (s2 : Int) (H : Heap) (R : Ending → Heap → Prop) : Prop :=
  GoL Tryd.prog 5 96 L0t [0, 1, 2] [(.int .u32 s0), (.slice s1 s1n s1c), (.int .i64 s2)] H R
noncomputable def L1t : List Item := [.code (sub [1, 1, 1, 1, 1, 1, 1, 1, 1, 0, 0, 0] body), .inLoop (sub [1, 1, 1, 1, 1, 1, 1, 1, 1, 0, 0, 0] body), .inBlock 0, .code (sub [1, 1, 1, 1, 1, 1, 1, 1, 1, 1] body)]
def L1 (s0 : Int) (s1 : Option Addr) (s1n : Nat) (s1c : Nat) (s7 : Option Addr) (s7n : Nat) (s7c : Nat) (s9 : ByteArray) (s10 : Int) (s11 : Int) (s12 : Int) (H : Heap) (R : Ending → Heap → Prop) : Prop :=
  GoL Tryd.prog 5 96 L1t [0, 1, 7, 9, 10, 11, 12] [(.int .u32 s0), (.slice s1 s1n s1c), (.slice s7 s7n s7c), (.string s9), (.int .i64 s10), (.int .i64 s11), (.int .i64 s12)] H R
noncomputable def L2t : List Item := [.code (sub [1, 1, 1, 1, 1, 1, 1, 1, 1, 1] body)]
def L2 (s0 : Int) (s1 : Option Addr) (s1n : Nat) (s1c : Nat) (s9 : ByteArray) (s10 : Int) (s11 : Int) (s12 : Int) (H : Heap) (R : Ending → Heap → Prop) : Prop :=
  GoL Tryd.prog 5 96 L2t [0, 1, 9, 10, 11, 12] [(.int .u32 s0), (.slice s1 s1n s1c), (.string s9), (.int .i64 s10), (.int .i64 s11), (.int .i64 s12)] H R
noncomputable def L3t : List Item := [.code (sub [1, 1, 1, 1, 1, 1, 1, 1, 1, 1, 1, 1, 1] body)]
def L3 (s0 : Int) (s1 : Option Addr) (s1n : Nat) (s1c : Nat) (s11 : Int) (s12 : Int) (s13 : Nat) (s14 : Int) (H : Heap) (R : Ending → Heap → Prop) : Prop :=
  GoL Tryd.prog 5 96 L3t [0, 1, 11, 12, 13, 14] [(.int .u32 s0), (.slice s1 s1n s1c), (.int .i64 s11), (.int .i64 s12), (.pointer (some ⟨s13, 0, none⟩)), (.int .i64 s14)] H R
noncomputable def L4t : List Item := [.code (sub [1, 1, 1, 1, 1, 1, 1, 1, 1, 0, 0, 0, 1] body), .inLoop (sub [1, 1, 1, 1, 1, 1, 1, 1, 1, 0, 0, 0] body), .inBlock 0, .code (sub [1, 1, 1, 1, 1, 1, 1, 1, 1, 1] body)]
def L4 (s0 : Int) (s1 : Option Addr) (s1n : Nat) (s1c : Nat) (s7 : Option Addr) (s7n : Nat) (s7c : Nat) (s9 : ByteArray) (s10 : Int) (s11 : Int) (s12 : Int) (H : Heap) (R : Ending → Heap → Prop) : Prop :=
  GoL Tryd.prog 5 96 L4t [0, 1, 7, 9, 10, 11, 12] [(.int .u32 s0), (.slice s1 s1n s1c), (.slice s7 s7n s7c), (.string s9), (.int .i64 s10), (.int .i64 s11), (.int .i64 s12)] H R
def L0n (s0 : Int) (s1 : Option Addr) (s1n : Nat) (s1c : Nat) (s2 : Int) (H : Heap) (R : Ending → Heap → Prop) : Prop :=
  callD Tryd.prog 8 [(.slice s1 s1n s1c)] H (panK R) fun v H1 =>
  tSl v fun q qn qc =>
  callD Tryd.prog 13 [(.int .u32 s0), (.int .i64 (0 : Int)), (.slice q qn qc)] H1 (panK R) fun v1 H2 =>
  tTup v1 fun l =>
  tCons l fun c l1 =>
  tSl c fun q1 q1n q1c =>
  tCons l1 fun c1 l2 =>
  tBool c1 fun b =>
  tNil l2 <|
  iteB (!b) (
    R (.returned (.bool false)) H2) <|
  callD Tryd.prog 14 [(.slice q1 q1n q1c)] H2 (panK R) fun v2 H3 =>
  tStr v2 fun s =>
  divD (IntKind.wrap .i64 (((ByteArray.size s : Nat) : Int) + (1 : Int))) <|
  L1 s0 q qn qc q1 q1n q1c s (Int.tmod s2 (IntKind.wrap .i64 (((ByteArray.size s : Nat) : Int) + (1 : Int)))) (0 : Int) (0 : Int) H3 R
theorem L0_step {s0 : Int} {s1 : Option Addr} {s1n : Nat} {s1c : Nat} {s2 : Int} {H : Heap} {R : Ending → Heap → Prop} (h : L0n s0 s1 s1n s1c s2 H R) : L0 s0 s1 s1n s1c s2 H R :=
  goL_of_den (an := an) (fuel := 100000) (X := L0n s0 s1 s1n s1c s2 H R) mixed fn (by kernel_rfl) (fun ρ0 => by kernel_rfl) h
def L1n (s0 : Int) (s1 : Option Addr) (s1n : Nat) (s1c : Nat) (s7 : Option Addr) (s7n : Nat) (s7c : Nat) (s9 : ByteArray) (s10 : Int) (s11 : Int) (s12 : Int) (H : Heap) (R : Ending → Heap → Prop) : Prop :=
  iteB (decide (s11 < ((s7n : Nat) : Int))) (
    idxD s7 s7n s11 fun a =>
    ldStr H (Addr.add a (Int.toNat s11 * 1)) fun s =>
    iteB (decide ((IntKind.wrap .i64 (s12 + ((ByteArray.size s : Nat) : Int))) ≤ s10)) (
      L4 s0 s1 s1n s1c s7 s7n s7c s9 s10 s11 s12 H R) <|
    L2 s0 s1 s1n s1c s9 s10 s11 s12 H R) <|
  L2 s0 s1 s1n s1c s9 s10 s11 s12 H R
theorem L1_step {s0 : Int} {s1 : Option Addr} {s1n : Nat} {s1c : Nat} {s7 : Option Addr} {s7n : Nat} {s7c : Nat} {s9 : ByteArray} {s10 : Int} {s11 : Int} {s12 : Int} {H : Heap} {R : Ending → Heap → Prop} (h : L1n s0 s1 s1n s1c s7 s7n s7c s9 s10 s11 s12 H R) : L1 s0 s1 s1n s1c s7 s7n s7c s9 s10 s11 s12 H R :=
  goL_of_den (an := an) (fuel := 100000) (X := L1n s0 s1 s1n s1c s7 s7n s7c s9 s10 s11 s12 H R) mixed fn (by kernel_rfl) (fun ρ0 => by kernel_rfl) h
def L2n (s0 : Int) (s1 : Option Addr) (s1n : Nat) (s1c : Nat) (s9 : ByteArray) (s10 : Int) (s11 : Int) (s12 : Int) (H : Heap) (R : Ending → Heap → Prop) : Prop :=
  bndD s10 (ByteArray.size s9) fun k =>
  newD H (.cells ⟨[(.string (ByteArray.extract s9 0 k))]⟩ 9) fun r H1 =>
  callD Tryd.prog 10 [(.slice (some ⟨r, 0, none⟩) 1 1), (.int .i64 (IntKind.wrap .i64 (((s1n : Nat) : Int) + (9 : Int)))), (.bool true), (.bool false)] H1 (panK R) fun v H2 =>
  tAgg v fun l =>
  tCons l fun c l1 =>
  tSl c fun q qn qc =>
  tCons l1 fun c1 l2 =>
  tInt c1 .i64 fun n =>
  tCons l2 fun c2 l3 =>
  tInt c2 .i64 fun n1 =>
  tCons l3 fun c3 l4 =>
  tInt c3 .u32 fun n2 =>
  tNil l4 <|
  newD H2 (.cells ⟨[(.slice none 0 0), (.int .i64 (0 : Int)), (.int .i64 (0 : Int)), (.int .u32 (0 : Int))]⟩ 31) fun r1 H3 =>
  st1 H3 ⟨r1, 0, none⟩ (.slice q qn qc) fun H4 =>
  st1 H4 ⟨r1, 1, none⟩ (.int .i64 n) fun H5 =>
  st1 H5 ⟨r1, 2, none⟩ (.int .i64 n1) fun H6 =>
  st1 H6 ⟨r1, 3, none⟩ (.int .u32 n2) fun H7 =>
  iteB (s12 == s10) (
    L3 s0 s1 s1n s1c s11 s12 r1 (1 : Int) H7 R) <|
  L3 s0 s1 s1n s1c s11 s12 r1 (2 : Int) H7 R
theorem L2_step {s0 : Int} {s1 : Option Addr} {s1n : Nat} {s1c : Nat} {s9 : ByteArray} {s10 : Int} {s11 : Int} {s12 : Int} {H : Heap} {R : Ending → Heap → Prop} (h : L2n s0 s1 s1n s1c s9 s10 s11 s12 H R) : L2 s0 s1 s1n s1c s9 s10 s11 s12 H R :=
  goL_of_den (an := an) (fuel := 100000) (X := L2n s0 s1 s1n s1c s9 s10 s11 s12 H R) mixed fn (by kernel_rfl) (fun ρ0 => by kernel_rfl) h
def L3n (s0 : Int) (s1 : Option Addr) (s1n : Nat) (s1c : Nat) (s11 : Int) (s12 : Int) (s13 : Nat) (s14 : Int) (H : Heap) (R : Ending → Heap → Prop) : Prop :=
  bndD s11 s1c fun k =>
  ldSl H ⟨s13, 0, none⟩ fun q qn qc =>
  callD Tryd.prog 11 [(.slice q qn qc), (.slice (slP s1 0 s1c 6) k s1c), (.int .u32 s0)] H (panK R) fun v H1 =>
  tBool v fun b =>
  iteB b (
    ldInt H1 ⟨s13, 1, none⟩ .i64 fun n =>
    iteB (n == s14) (
      ldInt H1 ⟨s13, 2, none⟩ .i64 fun n1 =>
      R (.returned (.bool (n1 == s12))) H1) <|
    R (.returned (.bool false)) H1) <|
  R (.returned (.bool false)) H1
theorem L3_step {s0 : Int} {s1 : Option Addr} {s1n : Nat} {s1c : Nat} {s11 : Int} {s12 : Int} {s13 : Nat} {s14 : Int} {H : Heap} {R : Ending → Heap → Prop} (h : L3n s0 s1 s1n s1c s11 s12 s13 s14 H R) : L3 s0 s1 s1n s1c s11 s12 s13 s14 H R :=
  goL_of_den (an := an) (fuel := 100000) (X := L3n s0 s1 s1n s1c s11 s12 s13 s14 H R) mixed fn (by kernel_rfl) (fun ρ0 => by kernel_rfl) h
def L4n (s0 : Int) (s1 : Option Addr) (s1n : Nat) (s1c : Nat) (s7 : Option Addr) (s7n : Nat) (s7c : Nat) (s9 : ByteArray) (s10 : Int) (s11 : Int) (s12 : Int) (H : Heap) (R : Ending → Heap → Prop) : Prop :=
  idxD s7 s7n s11 fun a =>
  ldStr H (Addr.add a (Int.toNat s11 * 1)) fun s =>
  L1 s0 s1 s1n s1c s7 s7n s7c s9 s10 (IntKind.wrap .i64 (s11 + (1 : Int))) (IntKind.wrap .i64 (s12 + ((ByteArray.size s : Nat) : Int))) H R
theorem L4_step {s0 : Int} {s1 : Option Addr} {s1n : Nat} {s1c : Nat} {s7 : Option Addr} {s7n : Nat} {s7c : Nat} {s9 : ByteArray} {s10 : Int} {s11 : Int} {s12 : Int} {H : Heap} {R : Ending → Heap → Prop} (h : L4n s0 s1 s1n s1c s7 s7n s7c s9 s10 s11 s12 H R) : L4 s0 s1 s1n s1c s7 s7n s7c s9 s10 s11 s12 H R :=
  goL_of_den (an := an) (fuel := 100000) (X := L4n s0 s1 s1n s1c s7 s7n s7c s9 s10 s11 s12 H R) mixed fn (by kernel_rfl) (fun ρ0 => by kernel_rfl) h
def go (s0 : Int) (s1 : Option Addr) (s1n : Nat) (s1c : Nat) (s2 : Int) (H : Heap) (R : Ending → Heap → Prop) : Prop :=
  callD Tryd.prog 6 [(.slice s1 s1n s1c)] H (panK R) fun v H1 =>
  tBool v fun b =>
  iteB (!b) (
    R (.returned (.bool true)) H1) <|
  callD Tryd.prog 7 [(.slice s1 s1n s1c), (.int .i64 (0 : Int))] H1 (panK R) fun v1 H2 =>
  tBool v1 fun b1 =>
  iteB (!b1) (
    R (.returned (.bool true)) H2) <|
  iteB (decide (s2 < (0 : Int))) (
    R (.returned (.bool true)) H2) <|
  L0 s0 s1 s1n s1c s2 H2 R
theorem calls {s0 : Int} {s1 : Option Addr} {s1n : Nat} {s1c : Nat} {s2 : Int} {H : Heap} {R : Ending → Heap → Prop} (h : go s0 s1 s1n s1c s2 H R) : CallsH Tryd.prog 5 ⟨[(.int .u32 s0), (.slice s1 s1n s1c), (.int .i64 s2)]⟩ H R :=
  callsH_of_den (an := an) (fuel := 100000) (X := go s0 s1 s1n s1c s2 H R) (c := body) mixed fn (by kernel_rfl) (by kernel_rfl) (by kernel_rfl) ok (by kernel_rfl) h
end F5
/-! ### 6 "pub-stadtholder/laws.zzFits39" -/
namespace F6
def an : Ann := { kinds := [], taus := [], pairs := [], lab := [(40000005, [8, 9, 10])] }
noncomputable def body : Code := (Tryd.f6.body).getD .skip
theorem fn : Tryd.prog.funcs[6]? = some Tryd.f6 := by kernel_rfl
theorem ok : codeOk an 18 body = true := by kernel_rfl
noncomputable def L0t : List Item := [.code (sub [1, 1, 0, 1, 0, 0] body), .inLoop (sub [1, 1, 0, 1, 0, 0] body), .inBlock 0, .code (sub [1, 1, 1] body)]
def L0 (s8 : Option Addr) (s8n : Nat) (s8c : Nat) (s9 : Int) (s10 : Int) (H : Heap) (R : Ending → Heap → Prop) : Prop :=
  GoL Tryd.prog 6 18 L0t [8, 9, 10] [(.slice s8 s8n s8c), (.int .i64 s9), (.int .i64 s10)] H R
def L0n (s8 : Option Addr) (s8n : Nat) (s8c : Nat) (s9 : Int) (s10 : Int) (H : Heap) (R : Ending → Heap → Prop) : Prop :=
  iteB (decide (s10 < s9)) (
    idxD s8 s8n s10 fun a =>
    ldInt H (Addr.add a (Int.toNat s10 * 6)) .i64 fun n =>
    ldBool H (Addr.add (Addr.add a (Int.toNat s10 * 6)) 1) fun b =>
    ldInt H (Addr.add (Addr.add a (Int.toNat s10 * 6)) 2) .u32 fun n1 =>
    ldBool H (Addr.add (Addr.add a (Int.toNat s10 * 6)) 3) fun b1 =>
    ldStr H (Addr.add (Addr.add a (Int.toNat s10 * 6)) 4) fun s =>
    ldBool H (Addr.add (Addr.add a (Int.toNat s10 * 6)) 5) fun b2 =>
    newD H (.cells ⟨[(.int .i64 (0 : Int)), (.bool false), (.int .u32 (0 : Int)), (.bool false), (.string (ByteArray.mk #[])), (.bool false)]⟩ 38) fun r H1 =>
    st1 H1 ⟨r, 0, none⟩ (.int .i64 n) fun H2 =>
    st1 H2 ⟨r, 1, none⟩ (.bool b) fun H3 =>
    st1 H3 ⟨r, 2, none⟩ (.int .u32 n1) fun H4 =>
    st1 H4 ⟨r, 3, none⟩ (.bool b1) fun H5 =>
    st1 H5 ⟨r, 4, none⟩ (.string s) fun H6 =>
    st1 H6 ⟨r, 5, none⟩ (.bool b2) fun H7 =>
    ldInt H7 ⟨r, 0, none⟩ .i64 fun n2 =>
    ldBool H7 ⟨r, 1, none⟩ fun b3 =>
    ldInt H7 ⟨r, 2, none⟩ .u32 fun n3 =>
    ldBool H7 ⟨r, 3, none⟩ fun b4 =>
    ldStr H7 ⟨r, 4, none⟩ fun s1 =>
    ldBool H7 ⟨r, 5, none⟩ fun b5 =>
    callD Tryd.prog 17 [(.agg ⟨[(.int .i64 n2), (.bool b3), (.int .u32 n3), (.bool b4), (.string s1), (.bool b5)]⟩)] H7 (panK R) fun v H8 =>
    tBool v fun b6 =>
    iteB (!b6) (
      R (.returned (.bool false)) H8) <|
    L0 s8 s8n s8c s9 (IntKind.wrap .i64 (s10 + (1 : Int))) H8 R) <|
  R (.returned (.bool true)) H
theorem L0_step {s8 : Option Addr} {s8n : Nat} {s8c : Nat} {s9 : Int} {s10 : Int} {H : Heap} {R : Ending → Heap → Prop} (h : L0n s8 s8n s8c s9 s10 H R) : L0 s8 s8n s8c s9 s10 H R :=
  goL_of_den (an := an) (fuel := 100000) (X := L0n s8 s8n s8c s9 s10 H R) mixed fn (by kernel_rfl) (fun ρ0 => by kernel_rfl) h
def go (x : Option Addr) (xn : Nat) (xc : Nat) (H : Heap) (R : Ending → Heap → Prop) : Prop :=
  iteB (decide (((xn : Nat) : Int) > (2147483647 : Int))) (
    R (.returned (.bool false)) H) <|
  L0 x xn xc ((xn : Nat) : Int) (0 : Int) H R
theorem calls {x : Option Addr} {xn : Nat} {xc : Nat} {H : Heap} {R : Ending → Heap → Prop} (h : go x xn xc H R) : CallsH Tryd.prog 6 ⟨[(.slice x xn xc)]⟩ H R :=
  callsH_of_den (an := an) (fuel := 100000) (X := go x xn xc H R) (c := body) mixed fn (by kernel_rfl) (by kernel_rfl) (by kernel_rfl) ok (by kernel_rfl) h
end F6
/-! ### 7 "pub-stadtholder/laws.waGood" -/
namespace F7
def an : Ann := { kinds := [], taus := [], pairs := [], lab := [(10000004, [0]), (40000005, [18, 19, 20]), (40000009, [18, 19, 20])] }
noncomputable def body : Code := (Tryd.f7.body).getD .skip
theorem fn : Tryd.prog.funcs[7]? = some Tryd.f7 := by kernel_rfl
theorem ok : codeOk an 53 body = true := by kernel_rfl
noncomputable def L0t : List Item := [.code (sub [1, 1] body)]
def L0 (recs : Option Addr) (recsn : Nat) (recsc : Nat) (H : Heap) (R : Ending → Heap → Prop) : Prop :=
  GoL Tryd.prog 7 53 L0t [0] [(.slice recs recsn recsc)] H R
noncomputable def L1t : List Item := [.code (sub [1, 1, 0, 1, 0, 0] body), .inLoop (sub [1, 1, 0, 1, 0, 0] body), .inBlock 0, .code (sub [1, 1, 1] body)]
def L1 (s18 : Option Addr) (s18n : Nat) (s18c : Nat) (s19 : Int) (s20 : Int) (H : Heap) (R : Ending → Heap → Prop) : Prop :=
  GoL Tryd.prog 7 53 L1t [18, 19, 20] [(.slice s18 s18n s18c), (.int .i64 s19), (.int .i64 s20)] H R
noncomputable def L2t : List Item := [.code (sub [1, 1, 0, 1, 0, 0, 1, 1, 1] body), .inLoop (sub [1, 1, 0, 1, 0, 0] body), .inBlock 0, .code (sub [1, 1, 1] body)]
def L2 (s18 : Option Addr) (s18n : Nat) (s18c : Nat) (s19 : Int) (s20 : Int) (H : Heap) (R : Ending → Heap → Prop) : Prop :=
  GoL Tryd.prog 7 53 L2t [18, 19, 20] [(.slice s18 s18n s18c), (.int .i64 s19), (.int .i64 s20)] H R
def L0n (recs : Option Addr) (recsn : Nat) (recsc : Nat) (H : Heap) (R : Ending → Heap → Prop) : Prop :=
  L1 recs recsn recsc ((recsn : Nat) : Int) (0 : Int) H R
theorem L0_step {recs : Option Addr} {recsn : Nat} {recsc : Nat} {H : Heap} {R : Ending → Heap → Prop} (h : L0n recs recsn recsc H R) : L0 recs recsn recsc H R :=
  goL_of_den (an := an) (fuel := 100000) (X := L0n recs recsn recsc H R) mixed fn (by kernel_rfl) (fun ρ0 => by kernel_rfl) h
def L1n (s18 : Option Addr) (s18n : Nat) (s18c : Nat) (s19 : Int) (s20 : Int) (H : Heap) (R : Ending → Heap → Prop) : Prop :=
  iteB (decide (s20 < s19)) (
    idxD s18 s18n s20 fun a =>
    ldInt H (Addr.add a (Int.toNat s20 * 6)) .i64 fun n =>
    ldBool H (Addr.add (Addr.add a (Int.toNat s20 * 6)) 1) fun b =>
    ldInt H (Addr.add (Addr.add a (Int.toNat s20 * 6)) 2) .u32 fun n1 =>
    ldBool H (Addr.add (Addr.add a (Int.toNat s20 * 6)) 3) fun b1 =>
    ldStr H (Addr.add (Addr.add a (Int.toNat s20 * 6)) 4) fun s =>
    ldBool H (Addr.add (Addr.add a (Int.toNat s20 * 6)) 5) fun b2 =>
    newD H (.cells ⟨[(.int .i64 (0 : Int)), (.bool false), (.int .u32 (0 : Int)), (.bool false), (.string (ByteArray.mk #[])), (.bool false)]⟩ 38) fun r H1 =>
    st1 H1 ⟨r, 0, none⟩ (.int .i64 n) fun H2 =>
    st1 H2 ⟨r, 1, none⟩ (.bool b) fun H3 =>
    st1 H3 ⟨r, 2, none⟩ (.int .u32 n1) fun H4 =>
    st1 H4 ⟨r, 3, none⟩ (.bool b1) fun H5 =>
    st1 H5 ⟨r, 4, none⟩ (.string s) fun H6 =>
    st1 H6 ⟨r, 5, none⟩ (.bool b2) fun H7 =>
    ldBool H7 ⟨r, 1, none⟩ fun b3 =>
    iteB (!b3) (
      R (.returned (.bool false)) H7) <|
    ldStr H7 ⟨r, 4, none⟩ fun s1 =>
    iteB (decide (((ByteArray.size s1 : Nat) : Int) > (5000 : Int))) (
      R (.returned (.bool false)) H7) <|
    ldBool H7 ⟨r, 5, none⟩ fun b4 =>
    iteB (!b4) (
      ldStr H7 ⟨r, 4, none⟩ fun s2 =>
      iteB (!eqS s2 (ByteArray.mk #[])) (
        R (.returned (.bool false)) H7) <|
      ldInt H7 ⟨r, 0, none⟩ .i64 fun n2 =>
      iteB (n2 == (4 : Int)) (
        ldBool H7 ⟨r, 5, none⟩ fun b5 =>
        iteB b5 (
          R (.returned (.bool false)) H7) <|
        L2 s18 s18n s18c s19 s20 H7 R) <|
      L2 s18 s18n s18c s19 s20 H7 R) <|
    ldInt H7 ⟨r, 0, none⟩ .i64 fun n3 =>
    iteB (n3 == (4 : Int)) (
      ldBool H7 ⟨r, 5, none⟩ fun b6 =>
      iteB b6 (
        R (.returned (.bool false)) H7) <|
      L2 s18 s18n s18c s19 s20 H7 R) <|
    L2 s18 s18n s18c s19 s20 H7 R) <|
  R (.returned (.bool true)) H
theorem L1_step {s18 : Option Addr} {s18n : Nat} {s18c : Nat} {s19 : Int} {s20 : Int} {H : Heap} {R : Ending → Heap → Prop} (h : L1n s18 s18n s18c s19 s20 H R) : L1 s18 s18n s18c s19 s20 H R :=
  goL_of_den (an := an) (fuel := 100000) (X := L1n s18 s18n s18c s19 s20 H R) mixed fn (by kernel_rfl) (fun ρ0 => by kernel_rfl) h
def L2n (s18 : Option Addr) (s18n : Nat) (s18c : Nat) (s19 : Int) (s20 : Int) (H : Heap) (R : Ending → Heap → Prop) : Prop :=
  L1 s18 s18n s18c s19 (IntKind.wrap .i64 (s20 + (1 : Int))) H R
theorem L2_step {s18 : Option Addr} {s18n : Nat} {s18c : Nat} {s19 : Int} {s20 : Int} {H : Heap} {R : Ending → Heap → Prop} (h : L2n s18 s18n s18c s19 s20 H R) : L2 s18 s18n s18c s19 s20 H R :=
  goL_of_den (an := an) (fuel := 100000) (X := L2n s18 s18n s18c s19 s20 H R) mixed fn (by kernel_rfl) (fun ρ0 => by kernel_rfl) h
def go (recs : Option Addr) (recsn : Nat) (recsc : Nat) (offset : Int) (H : Heap) (R : Ending → Heap → Prop) : Prop :=
  iteB (decide (((recsn : Nat) : Int) > (60 : Int))) (
    R (.returned (.bool false)) H) <|
  iteB (decide (offset < (0 : Int))) (
    R (.returned (.bool false)) H) <|
  iteB (decide (offset > (1048576 : Int))) (
    R (.returned (.bool false)) H) <|
  L0 recs recsn recsc H R
theorem calls {recs : Option Addr} {recsn : Nat} {recsc : Nat} {offset : Int} {H : Heap} {R : Ending → Heap → Prop} (h : go recs recsn recsc offset H R) : CallsH Tryd.prog 7 ⟨[(.slice recs recsn recsc), (.int .i64 offset)]⟩ H R :=
  callsH_of_den (an := an) (fuel := 100000) (X := go recs recsn recsc offset H R) (c := body) mixed fn (by kernel_rfl) (by kernel_rfl) (by kernel_rfl) ok (by kernel_rfl) h
end F7
/-! ### 8 "pub-stadtholder/laws.waHeaded" -/
namespace F8
def an : Ann := { kinds := [], taus := [], pairs := [], lab := [] }
noncomputable def body : Code := (Tryd.f8.body).getD .skip
theorem fn : Tryd.prog.funcs[8]? = some Tryd.f8 := by kernel_rfl
theorem ok : codeOk an 7 body = true := by kernel_rfl
def go (recs : Option Addr) (recsn : Nat) (recsc : Nat) (H : Heap) (R : Ending → Heap → Prop) : Prop :=
  newD H (.cells ⟨[(.int .i64 (4 : Int)), (.bool true), (.int .u32 (0 : Int)), (.bool false), (.string (ByteArray.mk #[])), (.bool false)]⟩ 38) fun r H1 =>
  apD H1 6 48 [(.int .i64 (0 : Int)), (.bool false), (.int .u32 (0 : Int)), (.bool false), (.string (ByteArray.mk #[])), (.bool false)] 38 (some ⟨r, 0, none⟩) 1 1 recs recsn fun q qn qc H2 =>
  R (.returned (.slice q qn qc)) H2
theorem calls {recs : Option Addr} {recsn : Nat} {recsc : Nat} {H : Heap} {R : Ending → Heap → Prop} (h : go recs recsn recsc H R) : CallsH Tryd.prog 8 ⟨[(.slice recs recsn recsc)]⟩ H R :=
  callsH_of_den (an := an) (fuel := 100000) (X := go recs recsn recsc H R) (c := body) mixed fn (by kernel_rfl) (by kernel_rfl) (by kernel_rfl) ok (by kernel_rfl) h
end F8
/-! ### 9 "pub-stadtholder/impl.WalWrite" -/
namespace F9
def an : Ann := { kinds := [(12006, .loud)], taus := [], pairs := [], lab := [(40000006, [2, 8, 9, 10, 11]), (60000012, [2, 8, 9, 10, 11, 12]), (60000014, [2, 8, 9, 10, 11, 12]), (40000007, [2, 8, 9, 10, 11])] }
noncomputable def body : Code := (Tryd.f9.body).getD .skip
theorem fn : Tryd.prog.funcs[9]? = some Tryd.f9 := by kernel_rfl
theorem ok : codeOk an 70 body = true := by kernel_rfl
noncomputable def L0t : List Item := [.code (sub [1, 1, 1, 1, 0, 1, 0, 0] body), .inLoop (sub [1, 1, 1, 1, 0, 1, 0, 0] body), .inBlock 0, .code (sub [1, 1, 1, 1, 1] body)]
def L0 (s2 : Option Addr) (s2n : Nat) (s2c : Nat) (s8 : Nat) (s9 : Nat) (s10 : Int) (s11 : Int) (H : Heap) (R : Ending → Heap → Prop) : Prop :=
  GoL Tryd.prog 9 70 L0t [2, 8, 9, 10, 11] [(.slice s2 s2n s2c), (.pointer (some ⟨s8, 0, none⟩)), (.pointer (some ⟨s9, 0, none⟩)), (.int .i64 s10), (.int .i64 s11)] H R
noncomputable def L1t : List Item := [.code (sub [1, 1, 1, 1, 0, 1, 0, 0, 1, 0, 0, 1, 1] body), .inBlock 1, .code (sub [1, 1, 1, 1, 0, 1, 0, 0, 1, 1] body), .inLoop (sub [1, 1, 1, 1, 0, 1, 0, 0] body), .inBlock 0, .code (sub [1, 1, 1, 1, 1] body)]
def L1 (s2 : Option Addr) (s2n : Nat) (s2c : Nat) (s8 : Nat) (s9 : Nat) (s10 : Int) (s11 : Int) (s12 : Nat) (H : Heap) (R : Ending → Heap → Prop) : Prop :=
  GoL Tryd.prog 9 70 L1t [2, 8, 9, 10, 11, 12] [(.slice s2 s2n s2c), (.pointer (some ⟨s8, 0, none⟩)), (.pointer (some ⟨s9, 0, none⟩)), (.int .i64 s10), (.int .i64 s11), (.pointer (some ⟨s12, 0, none⟩))] H R
noncomputable def L2t : List Item := [.code (sub [1, 1, 1, 1, 0, 1, 0, 0, 1, 0, 0, 1, 1, 1] body), .inBlock 1, .code (sub [1, 1, 1, 1, 0, 1, 0, 0, 1, 1] body), .inLoop (sub [1, 1, 1, 1, 0, 1, 0, 0] body), .inBlock 0, .code (sub [1, 1, 1, 1, 1] body)]
def L2 (s2 : Option Addr) (s2n : Nat) (s2c : Nat) (s8 : Nat) (s9 : Nat) (s10 : Int) (s11 : Int) (s12 : Nat) (H : Heap) (R : Ending → Heap → Prop) : Prop :=
  GoL Tryd.prog 9 70 L2t [2, 8, 9, 10, 11, 12] [(.slice s2 s2n s2c), (.pointer (some ⟨s8, 0, none⟩)), (.pointer (some ⟨s9, 0, none⟩)), (.int .i64 s10), (.int .i64 s11), (.pointer (some ⟨s12, 0, none⟩))] H R
noncomputable def L3t : List Item := [.code (sub [1, 1, 1, 1, 0, 1, 0, 0, 1, 1] body), .inLoop (sub [1, 1, 1, 1, 0, 1, 0, 0] body), .inBlock 0, .code (sub [1, 1, 1, 1, 1] body)]
def L3 (s2 : Option Addr) (s2n : Nat) (s2c : Nat) (s8 : Nat) (s9 : Nat) (s10 : Int) (s11 : Int) (H : Heap) (R : Ending → Heap → Prop) : Prop :=
  GoL Tryd.prog 9 70 L3t [2, 8, 9, 10, 11] [(.slice s2 s2n s2c), (.pointer (some ⟨s8, 0, none⟩)), (.pointer (some ⟨s9, 0, none⟩)), (.int .i64 s10), (.int .i64 s11)] H R
def L0n (s2 : Option Addr) (s2n : Nat) (s2c : Nat) (s8 : Nat) (s9 : Nat) (s10 : Int) (s11 : Int) (H : Heap) (R : Ending → Heap → Prop) : Prop :=
  iteB (decide (s11 < ((s2n : Nat) : Int))) (
    newD H (.cells ⟨[(.pointer none), (.pointer none), (.slice none 0 0)]⟩ 60) fun r H1 =>
    idxD s2 s2n s11 fun a =>
    ldBool H1 (Addr.add (Addr.add a (Int.toNat s11 * 6)) 1) fun b =>
    iteB b (
      idxD s2 s2n s11 fun a1 =>
      ldInt H1 (Addr.add a1 (Int.toNat s11 * 6)) .i64 fun n =>
      newD H1 (.cells ⟨[(.int .i64 (0 : Int))]⟩ 2) fun r1 H2 =>
      st1 H2 ⟨r1, 0, none⟩ (.int .i64 n) fun H3 =>
      st1 H3 ⟨r, 0, none⟩ (.pointer (some ⟨r1, 0, none⟩)) fun H4 =>
      L1 s2 s2n s2c s8 s9 s10 s11 r H4 R) <|
    L1 s2 s2n s2c s8 s9 s10 s11 r H1 R) <|
  ldPtr H ⟨s9, 0, none⟩ fun p =>
  callD Tryd.prog 20 [(.agg ⟨[(.pointer p)]⟩)] H (panK R) fun v H5 =>
  tIf v fun i =>
  ldSl H5 ⟨s8, 0, none⟩ fun q qn qc =>
  R (.returned (.tuple ⟨[(.slice q qn qc), (.int .i64 s10)]⟩)) H5
theorem L0_step {s2 : Option Addr} {s2n : Nat} {s2c : Nat} {s8 : Nat} {s9 : Nat} {s10 : Int} {s11 : Int} {H : Heap} {R : Ending → Heap → Prop} (h : L0n s2 s2n s2c s8 s9 s10 s11 H R) : L0 s2 s2n s2c s8 s9 s10 s11 H R :=
  goL_of_den (an := an) (fuel := 100000) (X := L0n s2 s2n s2c s8 s9 s10 s11 H R) mixed fn (by kernel_rfl) (fun ρ0 => by kernel_rfl) h
def L1n (s2 : Option Addr) (s2n : Nat) (s2c : Nat) (s8 : Nat) (s9 : Nat) (s10 : Int) (s11 : Int) (s12 : Nat) (H : Heap) (R : Ending → Heap → Prop) : Prop :=
  idxD s2 s2n s11 fun a =>
  ldBool H (Addr.add (Addr.add a (Int.toNat s11 * 6)) 5) fun b =>
  iteB b (
    idxD s2 s2n s11 fun a1 =>
    ldStr H (Addr.add (Addr.add a1 (Int.toNat s11 * 6)) 4) fun s =>
    sbD H 5 s fun r c H1 =>
    st1 H1 ⟨s12, 2, none⟩ (.slice (some ⟨r, 0, none⟩) (ByteArray.size s) c) fun H2 =>
    L2 s2 s2n s2c s8 s9 s10 s11 s12 H2 R) <|
  L2 s2 s2n s2c s8 s9 s10 s11 s12 H R
theorem L1_step {s2 : Option Addr} {s2n : Nat} {s2c : Nat} {s8 : Nat} {s9 : Nat} {s10 : Int} {s11 : Int} {s12 : Nat} {H : Heap} {R : Ending → Heap → Prop} (h : L1n s2 s2n s2c s8 s9 s10 s11 s12 H R) : L1 s2 s2n s2c s8 s9 s10 s11 s12 H R :=
  goL_of_den (an := an) (fuel := 100000) (X := L1n s2 s2n s2c s8 s9 s10 s11 s12 H R) mixed fn (by kernel_rfl) (fun ρ0 => by kernel_rfl) h
def L2n (s2 : Option Addr) (s2n : Nat) (s2c : Nat) (s8 : Nat) (s9 : Nat) (s10 : Int) (s11 : Int) (s12 : Nat) (H : Heap) (R : Ending → Heap → Prop) : Prop :=
  ldPtr H ⟨s9, 0, none⟩ fun p =>
  callD Tryd.prog 19 [(.agg ⟨[(.pointer p)]⟩), (.pointer (some ⟨s12, 0, none⟩))] H (panK R) fun v H1 =>
  tIf v fun i =>
  ifNilD (IV.v i) fun b =>
  iteB (!b) (
    L3 s2 s2n s2c s8 s9 (IntKind.wrap .i64 (s10 + (1 : Int))) s11 H1 R) <|
  L3 s2 s2n s2c s8 s9 s10 s11 H1 R
theorem L2_step {s2 : Option Addr} {s2n : Nat} {s2c : Nat} {s8 : Nat} {s9 : Nat} {s10 : Int} {s11 : Int} {s12 : Nat} {H : Heap} {R : Ending → Heap → Prop} (h : L2n s2 s2n s2c s8 s9 s10 s11 s12 H R) : L2 s2 s2n s2c s8 s9 s10 s11 s12 H R :=
  goL_of_den (an := an) (fuel := 100000) (X := L2n s2 s2n s2c s8 s9 s10 s11 s12 H R) mixed fn (by kernel_rfl) (fun ρ0 => by kernel_rfl) h
def L3n (s2 : Option Addr) (s2n : Nat) (s2c : Nat) (s8 : Nat) (s9 : Nat) (s10 : Int) (s11 : Int) (H : Heap) (R : Ending → Heap → Prop) : Prop :=
  L0 s2 s2n s2c s8 s9 s10 (IntKind.wrap .i64 (s11 + (1 : Int))) H R
theorem L3_step {s2 : Option Addr} {s2n : Nat} {s2c : Nat} {s8 : Nat} {s9 : Nat} {s10 : Int} {s11 : Int} {H : Heap} {R : Ending → Heap → Prop} (h : L3n s2 s2n s2c s8 s9 s10 s11 H R) : L3 s2 s2n s2c s8 s9 s10 s11 H R :=
  goL_of_den (an := an) (fuel := 100000) (X := L3n s2 s2n s2c s8 s9 s10 s11 H R) mixed fn (by kernel_rfl) (fun ρ0 => by kernel_rfl) h
def go (s0 : Int) (s1 : Int) (s2 : Option Addr) (s2n : Nat) (s2c : Nat) (H : Heap) (R : Ending → Heap → Prop) : Prop :=
  newD H (.cells ⟨[(.slice none 0 0)]⟩ 51) fun r H1 =>
  callD Tryd.prog 18 [(.iface 49 (.pointer (some ⟨r, 0, none⟩))), (.int .u32 s0), (.int .i64 (if (0 : Int) > s1 then (0 : Int) else s1))] H1 (panK R) fun v H2 =>
  tAgg v fun l =>
  tCons l fun c l1 =>
  tPtr c fun p =>
  tNil l1 <|
  newD H2 (.cells ⟨[(.pointer none)]⟩ 54) fun r1 H3 =>
  st1 H3 ⟨r1, 0, none⟩ (.pointer p) fun H4 =>
  L0 s2 s2n s2c r r1 (0 : Int) (0 : Int) H4 R
theorem calls {s0 : Int} {s1 : Int} {s2 : Option Addr} {s2n : Nat} {s2c : Nat} {H : Heap} {R : Ending → Heap → Prop} (h : go s0 s1 s2 s2n s2c H R) : CallsH Tryd.prog 9 ⟨[(.int .u32 s0), (.int .i64 s1), (.slice s2 s2n s2c)]⟩ H R :=
  callsH_of_den (an := an) (fuel := 100000) (X := go s0 s1 s2 s2n s2c H R) (c := body) mixed fn (by kernel_rfl) (by kernel_rfl) (by kernel_rfl) ok (by kernel_rfl) h
end F9
/-! ### 10 "pub-stadtholder/impl.WalRead" -/
namespace F10
def an : Ann := { kinds := [(5005, .loud), (11007, .read), (13003, .grow), (13004, .grow)], taus := [(13, [[0, 2, 1, 3, 4, 5, 6, 7]]), (15, [[0, 1, 3, 4, 5, 2, 6]])], pairs := [], lab := [(40000004, [0, 1, 2, 3, 8, 9, 10]), (40000009, [1, 2, 3, 8, 11, 12]), (40000010, [1, 2, 3, 8, 11, 12]), (50000014, [1, 2, 3, 8, 11, 12, 13]), (50000016, [1, 2, 3, 8, 11, 12, 13]), (60000013, [8, 11, 12, 14]), (10000017, [8, 11, 12])] }
noncomputable def body : Code := (Tryd.f10.body).getD .skip
theorem fn : Tryd.prog.funcs[10]? = some Tryd.f10 := by kernel_rfl
theorem ok : codeOk an 89 body = true := by kernel_rfl
noncomputable def L0t : List Item := [.code (sub [1, 1, 0, 1, 0, 0] body), .inLoop (sub [1, 1, 0, 1, 0, 0] body), .inBlock 0, .code (sub [1, 1, 1] body)]
def L0 (s0 : Option Addr) (s0n : Nat) (s0c : Nat) (s1 : Int) (s2 : Bool) (s3 : Bool) (s8 : Nat) (s9 : Option Addr) (s9n : Nat) (s9c : Nat) (s10 : Int) (H : Heap) (R : Ending → Heap → Prop) : Prop :=
  GoL Tryd.prog 10 89 L0t [0, 1, 2, 3, 8, 9, 10] [(.slice s0 s0n s0c), (.int .i64 s1), (.bool s2), (.bool s3), (.pointer (some ⟨s8, 0, none⟩)), (.slice s9 s9n s9c), (.int .i64 s10)] H R
noncomputable def L1t : List Item := [.code (sub [1, 1, 1, 1, 1, 0, 0, 0] body), .inLoop (sub [1, 1, 1, 1, 1, 0, 0, 0] body), .inBlock 2, .code (sub [1, 1, 1, 1, 1, 1] body)]
def L1 (s1 : Int) (s2 : Bool) (s3 : Bool) (s8 : Nat) (s11 : IV) (s12 : Nat) (H : Heap) (R : Ending → Heap → Prop) : Prop :=
  GoL Tryd.prog 10 89 L1t [1, 2, 3, 8, 11, 12] [(.int .i64 s1), (.bool s2), (.bool s3), (.pointer (some ⟨s8, 0, none⟩)), (IV.v s11), (.pointer (some ⟨s12, 0, none⟩))] H R
noncomputable def L2t : List Item := [.code (sub [1, 1, 1, 1, 1, 0, 0, 0, 1] body), .inLoop (sub [1, 1, 1, 1, 1, 0, 0, 0] body), .inBlock 2, .code (sub [1, 1, 1, 1, 1, 1] body)]
def L2 (s1 : Int) (s2 : Bool) (s3 : Bool) (s8 : Nat) (s11 : IV) (s12 : Nat) (H : Heap) (R : Ending → Heap → Prop) : Prop :=
  GoL Tryd.prog 10 89 L2t [1, 2, 3, 8, 11, 12] [(.int .i64 s1), (.bool s2), (.bool s3), (.pointer (some ⟨s8, 0, none⟩)), (IV.v s11), (.pointer (some ⟨s12, 0, none⟩))] H R
noncomputable def L3t : List Item := [.code (sub [1, 1, 1, 1, 1, 0, 0, 0, 1, 0, 1, 1, 1] body), .inBlock 3, .inLoop (sub [1, 1, 1, 1, 1, 0, 0, 0] body), .inBlock 2, .code (sub [1, 1, 1, 1, 1, 1] body)]
def L3 (s1 : Int) (s2 : Bool) (s3 : Bool) (s8 : Nat) (s11 : IV) (s12 : Nat) (s13 : Nat) (H : Heap) (R : Ending → Heap → Prop) : Prop :=
  GoL Tryd.prog 10 89 L3t [1, 2, 3, 8, 11, 12, 13] [(.int .i64 s1), (.bool s2), (.bool s3), (.pointer (some ⟨s8, 0, none⟩)), (IV.v s11), (.pointer (some ⟨s12, 0, none⟩)), (.pointer (some ⟨s13, 0, none⟩))] H R
noncomputable def L4t : List Item := [.code (sub [1, 1, 1, 1, 1, 0, 0, 0, 1, 0, 1, 1, 1, 1, 1, 0] body), .inBlock 3, .inLoop (sub [1, 1, 1, 1, 1, 0, 0, 0] body), .inBlock 2, .code (sub [1, 1, 1, 1, 1, 1] body)]
def L4 (s1 : Int) (s2 : Bool) (s3 : Bool) (s8 : Nat) (s11 : IV) (s12 : Nat) (s13 : Nat) (H : Heap) (R : Ending → Heap → Prop) : Prop :=
  GoL Tryd.prog 10 89 L4t [1, 2, 3, 8, 11, 12, 13] [(.int .i64 s1), (.bool s2), (.bool s3), (.pointer (some ⟨s8, 0, none⟩)), (IV.v s11), (.pointer (some ⟨s12, 0, none⟩)), (.pointer (some ⟨s13, 0, none⟩))] H R
noncomputable def L5t : List Item := [.code (sub [1, 1, 1, 1, 1, 0, 0, 0, 1, 0, 1, 1, 0, 1, 0] body), .code (sub [1, 1, 1, 1, 1, 0, 0, 0, 1, 0, 1, 1, 1] body), .inBlock 3, .inLoop (sub [1, 1, 1, 1, 1, 0, 0, 0] body), .inBlock 2, .code (sub [1, 1, 1, 1, 1, 1] body)]
def L5 (s8 : Nat) (s11 : IV) (s12 : Nat) (s14 : IV) (H : Heap) (R : Ending → Heap → Prop) : Prop :=
  GoL Tryd.prog 10 89 L5t [8, 11, 12, 14] [(.pointer (some ⟨s8, 0, none⟩)), (IV.v s11), (.pointer (some ⟨s12, 0, none⟩)), (IV.v s14)] H R
noncomputable def L6t : List Item := [.code (sub [1, 1, 1, 1, 1, 1] body)]
def L6 (s8 : Nat) (s11 : IV) (s12 : Nat) (H : Heap) (R : Ending → Heap → Prop) : Prop :=
  GoL Tryd.prog 10 89 L6t [8, 11, 12] [(.pointer (some ⟨s8, 0, none⟩)), (IV.v s11), (.pointer (some ⟨s12, 0, none⟩))] H R
def L0n (s0 : Option Addr) (s0n : Nat) (s0c : Nat) (s1 : Int) (s2 : Bool) (s3 : Bool) (s8 : Nat) (s9 : Option Addr) (s9n : Nat) (s9c : Nat) (s10 : Int) (H : Heap) (R : Ending → Heap → Prop) : Prop :=
  iteB (decide (s10 < ((s0n : Nat) : Int))) (
    idxD s0 s0n s10 fun a =>
    ldStr H (Addr.add a (Int.toNat s10 * 1)) fun s =>
    sbD H 5 s fun r c H1 =>
    newD H1 (.cells ⟨[(.slice (some ⟨r, 0, none⟩) (ByteArray.size s) c)]⟩ 66) fun r1 H2 =>
    apD H2 1 24 [(.slice none 0 0)] 66 s9 s9n s9c (some ⟨r1, 0, none⟩) 1 fun q qn qc H3 =>
    L0 s0 s0n s0c s1 s2 s3 s8 q qn qc (IntKind.wrap .i64 (s10 + (1 : Int))) H3 R) <|
  callD Tryd.prog 21 [(.bool s3), (.slice s9 s9n s9c)] H (panK R) fun v H4 =>
  tIf v fun i =>
  newD H4 (.cells ⟨[(.slice none 0 0), (.int .i64 (0 : Int)), (.int .i64 (0 : Int)), (.int .u32 (0 : Int))]⟩ 31) fun r2 H5 =>
  st1 H5 ⟨r2, 0, none⟩ (.slice none 0 0) fun H6 =>
  st1 H6 ⟨r2, 1, none⟩ (.int .i64 (0 : Int)) fun H7 =>
  st1 H7 ⟨r2, 2, none⟩ (.int .i64 (0 : Int)) fun H8 =>
  st1 H8 ⟨r2, 3, none⟩ (.int .u32 (0 : Int)) fun H9 =>
  L1 s1 s2 s3 s8 i r2 H9 R
theorem L0_step {s0 : Option Addr} {s0n : Nat} {s0c : Nat} {s1 : Int} {s2 : Bool} {s3 : Bool} {s8 : Nat} {s9 : Option Addr} {s9n : Nat} {s9c : Nat} {s10 : Int} {H : Heap} {R : Ending → Heap → Prop} (h : L0n s0 s0n s0c s1 s2 s3 s8 s9 s9n s9c s10 H R) : L0 s0 s0n s0c s1 s2 s3 s8 s9 s9n s9c s10 H R :=
  goL_of_den (an := an) (fuel := 100000) (X := L0n s0 s0n s0c s1 s2 s3 s8 s9 s9n s9c s10 H R) mixed fn (by kernel_rfl) (fun ρ0 => by kernel_rfl) h
def L1n (s1 : Int) (s2 : Bool) (s3 : Bool) (s8 : Nat) (s11 : IV) (s12 : Nat) (H : Heap) (R : Ending → Heap → Prop) : Prop :=
  ldSl H ⟨s12, 0, none⟩ fun q qn qc =>
  iteB (decide (((qn : Nat) : Int) < s1)) (
    ldInt H ⟨s12, 1, none⟩ .i64 fun n =>
    iteB (n == (0 : Int)) (
      L2 s1 s2 s3 s8 s11 s12 H R) <|
    L6 s8 s11 s12 H R) <|
  L6 s8 s11 s12 H R
theorem L1_step {s1 : Int} {s2 : Bool} {s3 : Bool} {s8 : Nat} {s11 : IV} {s12 : Nat} {H : Heap} {R : Ending → Heap → Prop} (h : L1n s1 s2 s3 s8 s11 s12 H R) : L1 s1 s2 s3 s8 s11 s12 H R :=
  goL_of_den (an := an) (fuel := 100000) (X := L1n s1 s2 s3 s8 s11 s12 H R) mixed fn (by kernel_rfl) (fun ρ0 => by kernel_rfl) h
def L2n (s1 : Int) (s2 : Bool) (s3 : Bool) (s8 : Nat) (s11 : IV) (s12 : Nat) (H : Heap) (R : Ending → Heap → Prop) : Prop :=
  newD H (.cells ⟨[(.pointer none), (.pointer none), (.slice none 0 0)]⟩ 60) fun r H1 =>
  callI Tryd.prog (IV.v s11) "Decode" [(.pointer (some ⟨r, 0, none⟩))] H1 (panK R) fun v H2 =>
  tIf v fun i =>
  ifNilD (IV.v i) fun b =>
  iteB (!b) (
    iteB s3 (
      rawR Tryd.prog H2 .eql 62 (IV.v i) (.iface 70 (.string (ByteArray.mk #[119, 97, 108, 112, 98, 58, 32, 99, 114, 99, 32, 109, 105, 115, 109, 97, 116, 99, 104]))) fun b1 =>
      iteB (!b1) (
        L5 s8 s11 s12 i H2 R) <|
      L3 s1 s2 s3 s8 s11 s12 r H2 R) <|
    iteB (!false) (
      L5 s8 s11 s12 i H2 R) <|
    L3 s1 s2 s3 s8 s11 s12 r H2 R) <|
  L3 s1 s2 s3 s8 s11 s12 r H2 R
theorem L2_step {s1 : Int} {s2 : Bool} {s3 : Bool} {s8 : Nat} {s11 : IV} {s12 : Nat} {H : Heap} {R : Ending → Heap → Prop} (h : L2n s1 s2 s3 s8 s11 s12 H R) : L2 s1 s2 s3 s8 s11 s12 H R :=
  goL_of_den (an := an) (fuel := 100000) (X := L2n s1 s2 s3 s8 s11 s12 H R) mixed fn (by kernel_rfl) (fun ρ0 => by kernel_rfl) h
def L3n (s1 : Int) (s2 : Bool) (s3 : Bool) (s8 : Nat) (s11 : IV) (s12 : Nat) (s13 : Nat) (H : Heap) (R : Ending → Heap → Prop) : Prop :=
  ldSl H ⟨s12, 0, none⟩ fun q qn qc =>
  callD Tryd.prog 23 [(.pointer (some ⟨s13, 0, none⟩))] H nope fun v H1 =>
  tAgg v fun l =>
  tCons l fun c l1 =>
  tInt c .i64 fun n =>
  tCons l1 fun c1 l2 =>
  tBool c1 fun b =>
  tCons l2 fun c2 l3 =>
  tInt c2 .u32 fun n1 =>
  tCons l3 fun c3 l4 =>
  tBool c3 fun b1 =>
  tCons l4 fun c4 l5 =>
  tStr c4 fun s =>
  tCons l5 fun c5 l6 =>
  tBool c5 fun b2 =>
  tNil l6 <|
  andD (ExtH H H1) <|
  newD H1 (.cells ⟨[(.int .i64 n), (.bool b), (.int .u32 n1), (.bool b1), (.string s), (.bool b2)]⟩ 38) fun r H2 =>
  apD H2 6 48 [(.int .i64 (0 : Int)), (.bool false), (.int .u32 (0 : Int)), (.bool false), (.string (ByteArray.mk #[])), (.bool false)] 38 q qn qc (some ⟨r, 0, none⟩) 1 fun q1 q1n q1c H3 =>
  st1 H3 ⟨s12, 0, none⟩ (.slice q1 q1n q1c) fun H4 =>
  iteB s2 (
    callD Tryd.prog 24 [(.pointer (some ⟨s13, 0, none⟩))] H4 (panK R) fun v1 H5 =>
    tInt v1 .i64 fun n2 =>
    iteB (n2 == (4 : Int)) (
      L4 s1 s2 s3 s8 s11 s12 s13 H5 R) <|
    L1 s1 s2 s3 s8 s11 s12 H5 R) <|
  L1 s1 s2 s3 s8 s11 s12 H4 R
theorem L3_step {s1 : Int} {s2 : Bool} {s3 : Bool} {s8 : Nat} {s11 : IV} {s12 : Nat} {s13 : Nat} {H : Heap} {R : Ending → Heap → Prop} (h : L3n s1 s2 s3 s8 s11 s12 s13 H R) : L3 s1 s2 s3 s8 s11 s12 s13 H R :=
  goL_of_den (an := an) (fuel := 100000) (X := L3n s1 s2 s3 s8 s11 s12 s13 H R) mixed fn (by kernel_rfl) (fun ρ0 => by kernel_rfl) h
def L4n (s1 : Int) (s2 : Bool) (s3 : Bool) (s8 : Nat) (s11 : IV) (s12 : Nat) (s13 : Nat) (H : Heap) (R : Ending → Heap → Prop) : Prop :=
  nilM Tryd.prog "UpdateCRC" ⟨[(IV.v s11)]⟩ <|
  callD Tryd.prog 25 [(.pointer (some ⟨s13, 0, none⟩))] H (panK R) fun v H1 =>
  tInt v .u32 fun n =>
  callI Tryd.prog (IV.v s11) "UpdateCRC" [(.int .u32 n)] H1 (panK R) fun v1 H2 =>
  tTup v1 fun l =>
  tNil l <|
  L1 s1 s2 s3 s8 s11 s12 H2 R
theorem L4_step {s1 : Int} {s2 : Bool} {s3 : Bool} {s8 : Nat} {s11 : IV} {s12 : Nat} {s13 : Nat} {H : Heap} {R : Ending → Heap → Prop} (h : L4n s1 s2 s3 s8 s11 s12 s13 H R) : L4 s1 s2 s3 s8 s11 s12 s13 H R :=
  goL_of_den (an := an) (fuel := 100000) (X := L4n s1 s2 s3 s8 s11 s12 s13 H R) mixed fn (by kernel_rfl) (fun ρ0 => by kernel_rfl) h
def L5n (s8 : Nat) (s11 : IV) (s12 : Nat) (s14 : IV) (H : Heap) (R : Ending → Heap → Prop) : Prop :=
  callD Tryd.prog 22 [(IV.v s14)] H (panK R) fun v H1 =>
  tInt v .i64 fun n =>
  st1 H1 ⟨s12, 1, none⟩ (.int .i64 n) fun H2 =>
  L6 s8 s11 s12 H2 R
theorem L5_step {s8 : Nat} {s11 : IV} {s12 : Nat} {s14 : IV} {H : Heap} {R : Ending → Heap → Prop} (h : L5n s8 s11 s12 s14 H R) : L5 s8 s11 s12 s14 H R :=
  goL_of_den (an := an) (fuel := 100000) (X := L5n s8 s11 s12 s14 H R) mixed fn (by kernel_rfl) (fun ρ0 => by kernel_rfl) h
def L6n (s8 : Nat) (s11 : IV) (s12 : Nat) (H : Heap) (R : Ending → Heap → Prop) : Prop :=
  callI Tryd.prog (IV.v s11) "LastOffset" [] H (panK R) fun v H1 =>
  tInt v .i64 fun n =>
  st1 H1 ⟨s12, 2, none⟩ (.int .i64 n) fun H2 =>
  callI Tryd.prog (IV.v s11) "LastCRC" [] H2 (panK R) fun v1 H3 =>
  tInt v1 .u32 fun n1 =>
  st1 H3 ⟨s12, 3, none⟩ (.int .u32 n1) fun H4 =>
  ldSl H4 ⟨s12, 0, none⟩ fun q qn qc =>
  ldInt H4 ⟨s12, 1, none⟩ .i64 fun n2 =>
  ldInt H4 ⟨s12, 2, none⟩ .i64 fun n3 =>
  ldInt H4 ⟨s12, 3, none⟩ .u32 fun n4 =>
  st1 H4 ⟨s8, 0, none⟩ (.slice q qn qc) fun H5 =>
  st1 H5 ⟨s8, 1, none⟩ (.int .i64 n2) fun H6 =>
  st1 H6 ⟨s8, 2, none⟩ (.int .i64 n3) fun H7 =>
  st1 H7 ⟨s8, 3, none⟩ (.int .u32 n4) fun H8 =>
  ldSl H8 ⟨s8, 0, none⟩ fun q1 q1n q1c =>
  ldInt H8 ⟨s8, 1, none⟩ .i64 fun n5 =>
  ldInt H8 ⟨s8, 2, none⟩ .i64 fun n6 =>
  ldInt H8 ⟨s8, 3, none⟩ .u32 fun n7 =>
  R (.returned (.agg ⟨[(.slice q1 q1n q1c), (.int .i64 n5), (.int .i64 n6), (.int .u32 n7)]⟩)) H8
theorem L6_step {s8 : Nat} {s11 : IV} {s12 : Nat} {H : Heap} {R : Ending → Heap → Prop} (h : L6n s8 s11 s12 H R) : L6 s8 s11 s12 H R :=
  goL_of_den (an := an) (fuel := 100000) (X := L6n s8 s11 s12 H R) mixed fn (by kernel_rfl) (fun ρ0 => by kernel_rfl) h
def go (s0 : Option Addr) (s0n : Nat) (s0c : Nat) (s1 : Int) (s2 : Bool) (s3 : Bool) (H : Heap) (R : Ending → Heap → Prop) : Prop :=
  newD H (.cells ⟨[(.slice none 0 0), (.int .i64 (0 : Int)), (.int .i64 (0 : Int)), (.int .u32 (0 : Int))]⟩ 31) fun r H1 =>
  L0 s0 s0n s0c s1 s2 s3 r none 0 0 (0 : Int) H1 R
theorem calls {s0 : Option Addr} {s0n : Nat} {s0c : Nat} {s1 : Int} {s2 : Bool} {s3 : Bool} {H : Heap} {R : Ending → Heap → Prop} (h : go s0 s0n s0c s1 s2 s3 H R) : CallsH Tryd.prog 10 ⟨[(.slice s0 s0n s0c), (.int .i64 s1), (.bool s2), (.bool s3)]⟩ H R :=
  callsH_of_den (an := an) (fuel := 100000) (X := go s0 s0n s0c s1 s2 s3 H R) (c := body) mixed fn (by kernel_rfl) (by kernel_rfl) (by kernel_rfl) ok (by kernel_rfl) h
end F10
/-! ### 11 "pub-stadtholder/laws.waSame" -/
namespace F11
def an : Ann := { kinds := [], taus := [(8, [[0, 1, 2, 3, 4, 6, 5, 7, 8, 9, 10, 11, 13, 12, 14, 15, 16, 17, 18, 19, 20, 21, 22, 23, 25, 26, 27, 24, 28, 29, 30]])], pairs := [], lab := [(40000006, [0, 8, 23, 24, 25]), (40000011, [0, 8, 23, 24, 25])] }
noncomputable def body : Code := (Tryd.f11.body).getD .skip
theorem fn : Tryd.prog.funcs[11]? = some Tryd.f11 := by kernel_rfl
theorem ok : codeOk an 66 body = true := by kernel_rfl
noncomputable def L0t : List Item := [.code (sub [1, 1, 1, 0, 1, 0, 0] body), .inLoop (sub [1, 1, 1, 0, 1, 0, 0] body), .inBlock 0, .code (sub [1, 1, 1, 1] body)]
def L0 (s0 : Option Addr) (s0n : Nat) (s0c : Nat) (s8 : Option Addr) (s8n : Nat) (s8c : Nat) (s23 : Option Addr) (s23n : Nat) (s23c : Nat) (s24 : Int) (s25 : Int) (H : Heap) (R : Ending → Heap → Prop) : Prop :=
  GoL Tryd.prog 11 66 L0t [0, 8, 23, 24, 25] [(.slice s0 s0n s0c), (.slice s8 s8n s8c), (.slice s23 s23n s23c), (.int .i64 s24), (.int .i64 s25)] H R
noncomputable def L1t : List Item := [.code (sub [1, 1, 1, 0, 1, 0, 0, 1, 1, 1] body), .inLoop (sub [1, 1, 1, 0, 1, 0, 0] body), .inBlock 0, .code (sub [1, 1, 1, 1] body)]
def L1 (s0 : Option Addr) (s0n : Nat) (s0c : Nat) (s8 : Option Addr) (s8n : Nat) (s8c : Nat) (s23 : Option Addr) (s23n : Nat) (s23c : Nat) (s24 : Int) (s25 : Int) (H : Heap) (R : Ending → Heap → Prop) : Prop :=
  GoL Tryd.prog 11 66 L1t [0, 8, 23, 24, 25] [(.slice s0 s0n s0c), (.slice s8 s8n s8c), (.slice s23 s23n s23c), (.int .i64 s24), (.int .i64 s25)] H R
def L0n (s0 : Option Addr) (s0n : Nat) (s0c : Nat) (s8 : Option Addr) (s8n : Nat) (s8c : Nat) (s23 : Option Addr) (s23n : Nat) (s23c : Nat) (s24 : Int) (s25 : Int) (H : Heap) (R : Ending → Heap → Prop) : Prop :=
  iteB (decide (s25 < s24)) (
    idxD s23 s23n s25 fun a =>
    ldInt H (Addr.add a (Int.toNat s25 * 6)) .i64 fun n =>
    ldBool H (Addr.add (Addr.add a (Int.toNat s25 * 6)) 1) fun b =>
    ldInt H (Addr.add (Addr.add a (Int.toNat s25 * 6)) 2) .u32 fun n1 =>
    ldBool H (Addr.add (Addr.add a (Int.toNat s25 * 6)) 3) fun b1 =>
    ldStr H (Addr.add (Addr.add a (Int.toNat s25 * 6)) 4) fun s =>
    ldBool H (Addr.add (Addr.add a (Int.toNat s25 * 6)) 5) fun b2 =>
    newD H (.cells ⟨[(.int .i64 (0 : Int)), (.bool false), (.int .u32 (0 : Int)), (.bool false), (.string (ByteArray.mk #[])), (.bool false)]⟩ 38) fun r H1 =>
    st1 H1 ⟨r, 0, none⟩ (.int .i64 n) fun H2 =>
    st1 H2 ⟨r, 1, none⟩ (.bool b) fun H3 =>
    st1 H3 ⟨r, 2, none⟩ (.int .u32 n1) fun H4 =>
    st1 H4 ⟨r, 3, none⟩ (.bool b1) fun H5 =>
    st1 H5 ⟨r, 4, none⟩ (.string s) fun H6 =>
    st1 H6 ⟨r, 5, none⟩ (.bool b2) fun H7 =>
    idxD s0 s0n s25 fun a1 =>
    ldInt H7 (Addr.add a1 (Int.toNat s25 * 6)) .i64 fun n2 =>
    ldBool H7 (Addr.add (Addr.add a1 (Int.toNat s25 * 6)) 1) fun b3 =>
    ldInt H7 (Addr.add (Addr.add a1 (Int.toNat s25 * 6)) 2) .u32 fun n3 =>
    ldBool H7 (Addr.add (Addr.add a1 (Int.toNat s25 * 6)) 3) fun b4 =>
    ldStr H7 (Addr.add (Addr.add a1 (Int.toNat s25 * 6)) 4) fun s1 =>
    ldBool H7 (Addr.add (Addr.add a1 (Int.toNat s25 * 6)) 5) fun b5 =>
    newD H7 (.cells ⟨[(.int .i64 (0 : Int)), (.bool false), (.int .u32 (0 : Int)), (.bool false), (.string (ByteArray.mk #[])), (.bool false)]⟩ 38) fun r1 H8 =>
    st1 H8 ⟨r1, 0, none⟩ (.int .i64 n2) fun H9 =>
    st1 H9 ⟨r1, 1, none⟩ (.bool b3) fun H10 =>
    st1 H10 ⟨r1, 2, none⟩ (.int .u32 n3) fun H11 =>
    st1 H11 ⟨r1, 3, none⟩ (.bool b4) fun H12 =>
    st1 H12 ⟨r1, 4, none⟩ (.string s1) fun H13 =>
    st1 H13 ⟨r1, 5, none⟩ (.bool b5) fun H14 =>
    ldBool H14 ⟨r1, 1, none⟩ fun b6 =>
    iteB (!b6) (
      R (.returned (.bool false)) H14) <|
    ldInt H14 ⟨r1, 0, none⟩ .i64 fun n4 =>
    ldInt H14 ⟨r, 0, none⟩ .i64 fun n5 =>
    iteB (n4 != n5) (
      R (.returned (.bool false)) H14) <|
    ldStr H14 ⟨r1, 4, none⟩ fun s2 =>
    ldStr H14 ⟨r, 4, none⟩ fun s3 =>
    iteB (!eqS s2 s3) (
      R (.returned (.bool false)) H14) <|
    ldBool H14 ⟨r1, 3, none⟩ fun b7 =>
    iteB (!b7) (
      R (.returned (.bool false)) H14) <|
    idxD s8 s8n s25 fun a2 =>
    ldInt H14 ⟨r1, 2, none⟩ .u32 fun n6 =>
    ldInt H14 (Addr.add a2 (Int.toNat s25 * 1)) .u32 fun n7 =>
    iteB (n6 != n7) (
      R (.returned (.bool false)) H14) <|
    L1 s0 s0n s0c s8 s8n s8c s23 s23n s23c s24 s25 H14 R) <|
  R (.returned (.bool true)) H
theorem L0_step {s0 : Option Addr} {s0n : Nat} {s0c : Nat} {s8 : Option Addr} {s8n : Nat} {s8c : Nat} {s23 : Option Addr} {s23n : Nat} {s23c : Nat} {s24 : Int} {s25 : Int} {H : Heap} {R : Ending → Heap → Prop} (h : L0n s0 s0n s0c s8 s8n s8c s23 s23n s23c s24 s25 H R) : L0 s0 s0n s0c s8 s8n s8c s23 s23n s23c s24 s25 H R :=
  goL_of_den (an := an) (fuel := 100000) (X := L0n s0 s0n s0c s8 s8n s8c s23 s23n s23c s24 s25 H R) mixed fn (by kernel_rfl) (fun ρ0 => by kernel_rfl) h
def L1n (s0 : Option Addr) (s0n : Nat) (s0c : Nat) (s8 : Option Addr) (s8n : Nat) (s8c : Nat) (s23 : Option Addr) (s23n : Nat) (s23c : Nat) (s24 : Int) (s25 : Int) (H : Heap) (R : Ending → Heap → Prop) : Prop :=
  L0 s0 s0n s0c s8 s8n s8c s23 s23n s23c s24 (IntKind.wrap .i64 (s25 + (1 : Int))) H R
theorem L1_step {s0 : Option Addr} {s0n : Nat} {s0c : Nat} {s8 : Option Addr} {s8n : Nat} {s8c : Nat} {s23 : Option Addr} {s23n : Nat} {s23c : Nat} {s24 : Int} {s25 : Int} {H : Heap} {R : Ending → Heap → Prop} (h : L1n s0 s0n s0c s8 s8n s8c s23 s23n s23c s24 s25 H R) : L1 s0 s0n s0c s8 s8n s8c s23 s23n s23c s24 s25 H R :=
  goL_of_den (an := an) (fuel := 100000) (X := L1n s0 s0n s0c s8 s8n s8c s23 s23n s23c s24 s25 H R) mixed fn (by kernel_rfl) (fun ρ0 => by kernel_rfl) h
def go (s0 : Option Addr) (s0n : Nat) (s0c : Nat) (s1 : Option Addr) (s1n : Nat) (s1c : Nat) (s2 : Int) (H : Heap) (R : Ending → Heap → Prop) : Prop :=
  iteB (((s0n : Nat) : Int) != ((s1n : Nat) : Int)) (
    R (.returned (.bool false)) H) <|
  callD Tryd.prog 15 [(.int .u32 s2), (.slice s1 s1n s1c)] H (panK R) fun v H1 =>
  tTup v fun l =>
  tCons l fun c l1 =>
  tSl c fun q qn qc =>
  tCons l1 fun c1 l2 =>
  tSl c1 fun q1 q1n q1c =>
  tNil l2 <|
  L0 s0 s0n s0c q1 q1n q1c s1 s1n s1c ((s1n : Nat) : Int) (0 : Int) H1 R
theorem calls {s0 : Option Addr} {s0n : Nat} {s0c : Nat} {s1 : Option Addr} {s1n : Nat} {s1c : Nat} {s2 : Int} {H : Heap} {R : Ending → Heap → Prop} (h : go s0 s0n s0c s1 s1n s1c s2 H R) : CallsH Tryd.prog 11 ⟨[(.slice s0 s0n s0c), (.slice s1 s1n s1c), (.int .u32 s2)]⟩ H R :=
  callsH_of_den (an := an) (fuel := 100000) (X := go s0 s0n s0c s1 s1n s1c s2 H R) (c := body) mixed fn (by kernel_rfl) (by kernel_rfl) (by kernel_rfl) ok (by kernel_rfl) h
end F11
/-! ### 12 "pub-stadtholder/laws.waLast" -/
namespace F12
def an : Ann := { kinds := [], taus := [], pairs := [], lab := [(40000003, [0, 7, 8, 9])] }
noncomputable def body : Code := (Tryd.f12.body).getD .skip
theorem fn : Tryd.prog.funcs[12]? = some Tryd.f12 := by kernel_rfl
theorem ok : codeOk an 19 body = true := by kernel_rfl
noncomputable def L0t : List Item := [.code (sub [1, 0, 1, 0, 0] body), .inLoop (sub [1, 0, 1, 0, 0] body), .inBlock 0, .code (sub [1, 1] body)]
def L0 (prev : Int) (s7 : Option Addr) (s7n : Nat) (s7c : Nat) (s8 : Int) (s9 : Int) (H : Heap) (R : Ending → Heap → Prop) : Prop :=
  GoL Tryd.prog 12 19 L0t [0, 7, 8, 9] [(.int .u32 prev), (.slice s7 s7n s7c), (.int .i64 s8), (.int .i64 s9)] H R
def L0n (prev : Int) (s7 : Option Addr) (s7n : Nat) (s7c : Nat) (s8 : Int) (s9 : Int) (H : Heap) (R : Ending → Heap → Prop) : Prop :=
  iteB (decide (s9 < s8)) (
    idxD s7 s7n s9 fun a =>
    ldInt H (Addr.add a (Int.toNat s9 * 6)) .i64 fun n =>
    ldBool H (Addr.add (Addr.add a (Int.toNat s9 * 6)) 1) fun b =>
    ldInt H (Addr.add (Addr.add a (Int.toNat s9 * 6)) 2) .u32 fun n1 =>
    ldBool H (Addr.add (Addr.add a (Int.toNat s9 * 6)) 3) fun b1 =>
    ldStr H (Addr.add (Addr.add a (Int.toNat s9 * 6)) 4) fun s =>
    ldBool H (Addr.add (Addr.add a (Int.toNat s9 * 6)) 5) fun b2 =>
    newD H (.cells ⟨[(.int .i64 (0 : Int)), (.bool false), (.int .u32 (0 : Int)), (.bool false), (.string (ByteArray.mk #[])), (.bool false)]⟩ 38) fun r H1 =>
    st1 H1 ⟨r, 0, none⟩ (.int .i64 n) fun H2 =>
    st1 H2 ⟨r, 1, none⟩ (.bool b) fun H3 =>
    st1 H3 ⟨r, 2, none⟩ (.int .u32 n1) fun H4 =>
    st1 H4 ⟨r, 3, none⟩ (.bool b1) fun H5 =>
    st1 H5 ⟨r, 4, none⟩ (.string s) fun H6 =>
    st1 H6 ⟨r, 5, none⟩ (.bool b2) fun H7 =>
    ldStr H7 ⟨r, 4, none⟩ fun s1 =>
    callD Tryd.prog 26 [(.int .u32 prev), (.string s1)] H7 (panK R) fun v H8 =>
    tInt v .u32 fun n2 =>
    L0 n2 s7 s7n s7c s8 (IntKind.wrap .i64 (s9 + (1 : Int))) H8 R) <|
  R (.returned (.int .u32 prev)) H
theorem L0_step {prev : Int} {s7 : Option Addr} {s7n : Nat} {s7c : Nat} {s8 : Int} {s9 : Int} {H : Heap} {R : Ending → Heap → Prop} (h : L0n prev s7 s7n s7c s8 s9 H R) : L0 prev s7 s7n s7c s8 s9 H R :=
  goL_of_den (an := an) (fuel := 100000) (X := L0n prev s7 s7n s7c s8 s9 H R) mixed fn (by kernel_rfl) (fun ρ0 => by kernel_rfl) h
def go (prev : Int) (recs : Option Addr) (recsn : Nat) (recsc : Nat) (H : Heap) (R : Ending → Heap → Prop) : Prop :=
  L0 prev recs recsn recsc ((recsn : Nat) : Int) (0 : Int) H R
theorem calls {prev : Int} {recs : Option Addr} {recsn : Nat} {recsc : Nat} {H : Heap} {R : Ending → Heap → Prop} (h : go prev recs recsn recsc H R) : CallsH Tryd.prog 12 ⟨[(.int .u32 prev), (.slice recs recsn recsc)]⟩ H R :=
  callsH_of_den (an := an) (fuel := 100000) (X := go prev recs recsn recsc H R) (c := body) mixed fn (by kernel_rfl) (by kernel_rfl) (by kernel_rfl) ok (by kernel_rfl) h
end F12
/-! ### 13 "pub-stadtholder/laws.waPieces" -/
namespace F13
def an : Ann := { kinds := [(10008, .read)], taus := [], pairs := [], lab := [(40000007, [8, 9, 12, 13, 29, 30, 31])] }
noncomputable def body : Code := (Tryd.f13.body).getD .skip
theorem fn : Tryd.prog.funcs[13]? = some Tryd.f13 := by kernel_rfl
theorem ok : codeOk an 67 body = true := by kernel_rfl
noncomputable def L0t : List Item := [.code (sub [1, 1, 1, 1, 1, 0, 1, 0, 0] body), .inLoop (sub [1, 1, 1, 1, 1, 0, 1, 0, 0] body), .inBlock 0, .code (sub [1, 1, 1, 1, 1, 1] body)]
def L0 (s8 : Option Addr) (s8n : Nat) (s8c : Nat) (s9 : Int) (s12 : Option Addr) (s12n : Nat) (s12c : Nat) (s13 : Int) (s29 : Option Addr) (s29n : Nat) (s29c : Nat) (s30 : Int) (s31 : Int) (H : Heap) (R : Ending → Heap → Prop) : Prop :=
  GoL Tryd.prog 13 67 L0t [8, 9, 12, 13, 29, 30, 31] [(.slice s8 s8n s8c), (.int .i64 s9), (.slice s12 s12n s12c), (.int .i64 s13), (.slice s29 s29n s29c), (.int .i64 s30), (.int .i64 s31)] H R
def L0n (s8 : Option Addr) (s8n : Nat) (s8c : Nat) (s9 : Int) (s12 : Option Addr) (s12n : Nat) (s12c : Nat) (s13 : Int) (s29 : Option Addr) (s29n : Nat) (s29c : Nat) (s30 : Int) (s31 : Int) (H : Heap) (R : Ending → Heap → Prop) : Prop :=
  iteB (decide (s31 < s30)) (
    idxD s29 s29n s31 fun a =>
    ldStr H (Addr.add a (Int.toNat s31 * 1)) fun s =>
    iteB (decide ((IntKind.wrap .i64 (s13 + ((ByteArray.size s : Nat) : Int))) > ((s8n : Nat) : Int))) (
      R (.returned (.tuple ⟨[(.slice none 0 0), (.bool false)]⟩)) H) <|
    bndD (IntKind.wrap .i64 (s13 + ((ByteArray.size s : Nat) : Int))) s8c fun k =>
    bndD s13 k fun k1 =>
    bsD H (slP s8 k1 s8c 1) (k - k1) fun s1 =>
    newD H (.cells ⟨[(.string s1)]⟩ 9) fun r H1 =>
    apD H1 1 16 [(.string (ByteArray.mk #[]))] 9 s12 s12n s12c (some ⟨r, 0, none⟩) 1 fun q qn qc H2 =>
    L0 s8 s8n s8c s9 q qn qc (IntKind.wrap .i64 (s13 + ((ByteArray.size s : Nat) : Int))) s29 s29n s29c s30 (IntKind.wrap .i64 (s31 + (1 : Int))) H2 R) <|
  iteB (s9 == (0 : Int)) (
    R (.returned (.tuple ⟨[(.slice s12 s12n s12c), (.bool (s13 == ((s8n : Nat) : Int)))]⟩)) H) <|
  R (.returned (.tuple ⟨[(.slice s12 s12n s12c), (.bool false)]⟩)) H
theorem L0_step {s8 : Option Addr} {s8n : Nat} {s8c : Nat} {s9 : Int} {s12 : Option Addr} {s12n : Nat} {s12c : Nat} {s13 : Int} {s29 : Option Addr} {s29n : Nat} {s29c : Nat} {s30 : Int} {s31 : Int} {H : Heap} {R : Ending → Heap → Prop} (h : L0n s8 s8n s8c s9 s12 s12n s12c s13 s29 s29n s29c s30 s31 H R) : L0 s8 s8n s8c s9 s12 s12n s12c s13 s29 s29n s29c s30 s31 H R :=
  goL_of_den (an := an) (fuel := 100000) (X := L0n s8 s8n s8c s9 s12 s12n s12c s13 s29 s29n s29c s30 s31 H R) mixed fn (by kernel_rfl) (fun ρ0 => by kernel_rfl) h
def go (s0 : Int) (s1 : Int) (s2 : Option Addr) (s2n : Nat) (s2c : Nat) (H : Heap) (R : Ending → Heap → Prop) : Prop :=
  callD Tryd.prog 9 [(.int .u32 s0), (.int .i64 s1), (.slice s2 s2n s2c)] H (panK R) fun v H1 =>
  tTup v fun l =>
  tCons l fun c l1 =>
  tSl c fun q qn qc =>
  tCons l1 fun c1 l2 =>
  tInt c1 .i64 fun n =>
  tNil l2 <|
  callD Tryd.prog 15 [(.int .u32 s0), (.slice s2 s2n s2c)] H1 (panK R) fun v1 H2 =>
  tTup v1 fun l3 =>
  tCons l3 fun c2 l4 =>
  tSl c2 fun q1 q1n q1c =>
  tCons l4 fun c3 l5 =>
  tSl c3 fun q2 q2n q2c =>
  tNil l5 <|
  L0 q qn qc n none 0 0 (0 : Int) q1 q1n q1c ((q1n : Nat) : Int) (0 : Int) H2 R
theorem calls {s0 : Int} {s1 : Int} {s2 : Option Addr} {s2n : Nat} {s2c : Nat} {H : Heap} {R : Ending → Heap → Prop} (h : go s0 s1 s2 s2n s2c H R) : CallsH Tryd.prog 13 ⟨[(.int .u32 s0), (.int .i64 s1), (.slice s2 s2n s2c)]⟩ H R :=
  callsH_of_den (an := an) (fuel := 100000) (X := go s0 s1 s2 s2n s2c H R) (c := body) mixed fn (by kernel_rfl) (by kernel_rfl) (by kernel_rfl) ok (by kernel_rfl) h
end F13
/-! ### 14 "pub-stadtholder/laws.waJoin" -/
namespace F14
def an : Ann := { kinds := [], taus := [], pairs := [], lab := [(40000004, [3, 6, 7, 8])] }
noncomputable def body : Code := (Tryd.f14.body).getD .skip
theorem fn : Tryd.prog.funcs[14]? = some Tryd.f14 := by kernel_rfl
theorem ok : codeOk an 17 body = true := by kernel_rfl
noncomputable def L0t : List Item := [.code (sub [1, 1, 0, 1, 0, 0] body), .inLoop (sub [1, 1, 0, 1, 0, 0] body), .inBlock 0, .code (sub [1, 1, 1] body)]
def L0 (out : ByteArray) (s6 : Option Addr) (s6n : Nat) (s6c : Nat) (s7 : Int) (s8 : Int) (H : Heap) (R : Ending → Heap → Prop) : Prop :=
  GoL Tryd.prog 14 17 L0t [3, 6, 7, 8] [(.string out), (.slice s6 s6n s6c), (.int .i64 s7), (.int .i64 s8)] H R
def L0n (out : ByteArray) (s6 : Option Addr) (s6n : Nat) (s6c : Nat) (s7 : Int) (s8 : Int) (H : Heap) (R : Ending → Heap → Prop) : Prop :=
  iteB (decide (s8 < s7)) (
    idxD s6 s6n s8 fun a =>
    ldStr H (Addr.add a (Int.toNat s8 * 1)) fun s =>
    catD out s fun s1 =>
    L0 s1 s6 s6n s6c s7 (IntKind.wrap .i64 (s8 + (1 : Int))) H R) <|
  R (.returned (.string out)) H
theorem L0_step {out : ByteArray} {s6 : Option Addr} {s6n : Nat} {s6c : Nat} {s7 : Int} {s8 : Int} {H : Heap} {R : Ending → Heap → Prop} (h : L0n out s6 s6n s6c s7 s8 H R) : L0 out s6 s6n s6c s7 s8 H R :=
  goL_of_den (an := an) (fuel := 100000) (X := L0n out s6 s6n s6c s7 s8 H R) mixed fn (by kernel_rfl) (fun ρ0 => by kernel_rfl) h
def go (l : Option Addr) (ln : Nat) (lc : Nat) (H : Heap) (R : Ending → Heap → Prop) : Prop :=
  L0 (ByteArray.mk #[]) l ln lc ((ln : Nat) : Int) (0 : Int) H R
theorem calls {l : Option Addr} {ln : Nat} {lc : Nat} {H : Heap} {R : Ending → Heap → Prop} (h : go l ln lc H R) : CallsH Tryd.prog 14 ⟨[(.slice l ln lc)]⟩ H R :=
  callsH_of_den (an := an) (fuel := 100000) (X := go l ln lc H R) (c := body) mixed fn (by kernel_rfl) (by kernel_rfl) (by kernel_rfl) ok (by kernel_rfl) h
end F14
/-! ### 15 "pub-stadtholder/spec.WalBytes" -/
namespace F15
def an : Ann := { kinds := [], taus := [], pairs := [], lab := [(40000005, [0, 6, 7, 10, 11, 12])] }
noncomputable def body : Code := (Tryd.f15.body).getD .skip
theorem fn : Tryd.prog.funcs[15]? = some Tryd.f15 := by kernel_rfl
theorem ok : codeOk an 34 body = true := by kernel_rfl
noncomputable def L0t : List Item := [.code (sub [1, 1, 1, 0, 1, 0, 0] body), .inLoop (sub [1, 1, 1, 0, 1, 0, 0] body), .inBlock 0, .code (sub [1, 1, 1, 1] body)]
def L0 (prev : Int) (out : Option Addr) (outn : Nat) (outc : Nat) (sums : Option Addr) (sumsn : Nat) (sumsc : Nat) (s10 : Option Addr) (s10n : Nat) (s10c : Nat) (s11 : Int) (s12 : Int) (H : Heap) (R : Ending → Heap → Prop) : Prop :=
  GoL Tryd.prog 15 34 L0t [0, 6, 7, 10, 11, 12] [(.int .u32 prev), (.slice out outn outc), (.slice sums sumsn sumsc), (.slice s10 s10n s10c), (.int .i64 s11), (.int .i64 s12)] H R
def L0n (prev : Int) (out : Option Addr) (outn : Nat) (outc : Nat) (sums : Option Addr) (sumsn : Nat) (sumsc : Nat) (s10 : Option Addr) (s10n : Nat) (s10c : Nat) (s11 : Int) (s12 : Int) (H : Heap) (R : Ending → Heap → Prop) : Prop :=
  iteB (decide (s12 < s11)) (
    idxD s10 s10n s12 fun a =>
    ldInt H (Addr.add a (Int.toNat s12 * 6)) .i64 fun n =>
    ldBool H (Addr.add (Addr.add a (Int.toNat s12 * 6)) 1) fun b =>
    ldInt H (Addr.add (Addr.add a (Int.toNat s12 * 6)) 2) .u32 fun n1 =>
    ldBool H (Addr.add (Addr.add a (Int.toNat s12 * 6)) 3) fun b1 =>
    ldStr H (Addr.add (Addr.add a (Int.toNat s12 * 6)) 4) fun s =>
    ldBool H (Addr.add (Addr.add a (Int.toNat s12 * 6)) 5) fun b2 =>
    newD H (.cells ⟨[(.int .i64 (0 : Int)), (.bool false), (.int .u32 (0 : Int)), (.bool false), (.string (ByteArray.mk #[])), (.bool false)]⟩ 38) fun r H1 =>
    st1 H1 ⟨r, 0, none⟩ (.int .i64 n) fun H2 =>
    st1 H2 ⟨r, 1, none⟩ (.bool b) fun H3 =>
    st1 H3 ⟨r, 2, none⟩ (.int .u32 n1) fun H4 =>
    st1 H4 ⟨r, 3, none⟩ (.bool b1) fun H5 =>
    st1 H5 ⟨r, 4, none⟩ (.string s) fun H6 =>
    st1 H6 ⟨r, 5, none⟩ (.bool b2) fun H7 =>
    ldStr H7 ⟨r, 4, none⟩ fun s1 =>
    callD Tryd.prog 26 [(.int .u32 prev), (.string s1)] H7 (panK R) fun v H8 =>
    tInt v .u32 fun n2 =>
    ldInt H8 ⟨r, 0, none⟩ .i64 fun n3 =>
    ldBool H8 ⟨r, 1, none⟩ fun b3 =>
    ldInt H8 ⟨r, 2, none⟩ .u32 fun n4 =>
    ldBool H8 ⟨r, 3, none⟩ fun b4 =>
    ldStr H8 ⟨r, 4, none⟩ fun s2 =>
    ldBool H8 ⟨r, 5, none⟩ fun b5 =>
    callD Tryd.prog 16 [(.agg ⟨[(.int .i64 n3), (.bool b3), (.int .u32 n4), (.bool b4), (.string s2), (.bool b5)]⟩), (.int .u32 n2)] H8 (panK R) fun v1 H9 =>
    tStr v1 fun s3 =>
    callD Tryd.prog 27 [(.string s3)] H9 (panK R) fun v2 H10 =>
    tStr v2 fun s4 =>
    newD H10 (.cells ⟨[(.string s4)]⟩ 9) fun r1 H11 =>
    apD H11 1 16 [(.string (ByteArray.mk #[]))] 9 out outn outc (some ⟨r1, 0, none⟩) 1 fun q qn qc H12 =>
    newD H12 (.cells ⟨[(.int .u32 n2)]⟩ 22) fun r2 H13 =>
    apD H13 1 4 [(.int .u32 (0 : Int))] 22 sums sumsn sumsc (some ⟨r2, 0, none⟩) 1 fun q1 q1n q1c H14 =>
    L0 n2 q qn qc q1 q1n q1c s10 s10n s10c s11 (IntKind.wrap .i64 (s12 + (1 : Int))) H14 R) <|
  R (.returned (.tuple ⟨[(.slice out outn outc), (.slice sums sumsn sumsc)]⟩)) H
theorem L0_step {prev : Int} {out : Option Addr} {outn : Nat} {outc : Nat} {sums : Option Addr} {sumsn : Nat} {sumsc : Nat} {s10 : Option Addr} {s10n : Nat} {s10c : Nat} {s11 : Int} {s12 : Int} {H : Heap} {R : Ending → Heap → Prop} (h : L0n prev out outn outc sums sumsn sumsc s10 s10n s10c s11 s12 H R) : L0 prev out outn outc sums sumsn sumsc s10 s10n s10c s11 s12 H R :=
  goL_of_den (an := an) (fuel := 100000) (X := L0n prev out outn outc sums sumsn sumsc s10 s10n s10c s11 s12 H R) mixed fn (by kernel_rfl) (fun ρ0 => by kernel_rfl) h
def go (prev : Int) (recs : Option Addr) (recsn : Nat) (recsc : Nat) (H : Heap) (R : Ending → Heap → Prop) : Prop :=
  L0 prev none 0 0 none 0 0 recs recsn recsc ((recsn : Nat) : Int) (0 : Int) H R
theorem calls {prev : Int} {recs : Option Addr} {recsn : Nat} {recsc : Nat} {H : Heap} {R : Ending → Heap → Prop} (h : go prev recs recsn recsc H R) : CallsH Tryd.prog 15 ⟨[(.int .u32 prev), (.slice recs recsn recsc)]⟩ H R :=
  callsH_of_den (an := an) (fuel := 100000) (X := go prev recs recsn recsc H R) (c := body) mixed fn (by kernel_rfl) (by kernel_rfl) (by kernel_rfl) ok (by kernel_rfl) h
end F15
/-! ### 16 "pub-stadtholder/spec.WalBody" -/
namespace F16
def an : Ann := { kinds := [(3005, .grow)], taus := [(3, [[0, 1, 7, 2, 3, 4, 8, 5, 6, 9, 10, 11]])], pairs := [], lab := [] }
noncomputable def body : Code := (Tryd.f16.body).getD .skip
theorem fn : Tryd.prog.funcs[16]? = some Tryd.f16 := by kernel_rfl
theorem ok : codeOk an 30 body = true := by kernel_rfl
def go (r_0 : Int) (r_1 : Bool) (r_2 : Int) (r_3 : Bool) (r_4 : ByteArray) (r_5 : Bool) (sum : Int) (H : Heap) (R : Ending → Heap → Prop) : Prop :=
  newD H (.cells ⟨[(.int .i64 r_0), (.bool r_1), (.int .u32 r_2), (.bool r_3), (.string r_4), (.bool r_5)]⟩ 38) fun r H1 =>
  ldInt H1 ⟨r, 0, none⟩ .i64 fun n =>
  callD Tryd.prog 28 [(.int .u64 (IntKind.wrap .u64 n))] H1 (panK R) fun v H2 =>
  tStr v fun s =>
  catD (ByteArray.mk #[8]) s fun s1 =>
  catD s1 (ByteArray.mk #[16]) fun s2 =>
  callD Tryd.prog 28 [(.int .u64 (IntKind.wrap .u64 sum))] H2 (panK R) fun v1 H3 =>
  tStr v1 fun s3 =>
  catD s2 s3 fun s4 =>
  ldBool H3 ⟨r, 5, none⟩ fun b =>
  iteB b (
    ldStr H3 ⟨r, 4, none⟩ fun s5 =>
    ldStr H3 ⟨r, 4, none⟩ fun s6 =>
    callD Tryd.prog 28 [(.int .u64 (IntKind.wrap .u64 ((ByteArray.size s5 : Nat) : Int)))] H3 nope fun v2 H4 =>
    tStr v2 fun s7 =>
    andD (ExtH H3 H4) <|
    catD (ByteArray.mk #[26]) s7 fun s8 =>
    catD s8 s6 fun s9 =>
    catD s4 s9 fun s10 =>
    R (.returned (.string s10)) H4) <|
  R (.returned (.string s4)) H3
theorem calls {r_0 : Int} {r_1 : Bool} {r_2 : Int} {r_3 : Bool} {r_4 : ByteArray} {r_5 : Bool} {sum : Int} {H : Heap} {R : Ending → Heap → Prop} (h : go r_0 r_1 r_2 r_3 r_4 r_5 sum H R) : CallsH Tryd.prog 16 ⟨[(.agg ⟨[(.int .i64 r_0), (.bool r_1), (.int .u32 r_2), (.bool r_3), (.string r_4), (.bool r_5)]⟩), (.int .u32 sum)]⟩ H R :=
  callsH_of_den (an := an) (fuel := 100000) (X := go r_0 r_1 r_2 r_3 r_4 r_5 sum H R) (c := body) mixed fn (by kernel_rfl) (by kernel_rfl) (by kernel_rfl) ok (by kernel_rfl) h
end F16
/-! ### 17 "pub-stadtholder/laws.zzFits40" -/
namespace F17
def an : Ann := { kinds := [], taus := [], pairs := [], lab := [] }
noncomputable def body : Code := (Tryd.f17.body).getD .skip
theorem fn : Tryd.prog.funcs[17]? = some Tryd.f17 := by kernel_rfl
theorem ok : codeOk an 7 body = true := by kernel_rfl
def go (x_0 : Int) (x_1 : Bool) (x_2 : Int) (x_3 : Bool) (x_4 : ByteArray) (x_5 : Bool) (H : Heap) (R : Ending → Heap → Prop) : Prop :=
  newD H (.cells ⟨[(.int .i64 x_0), (.bool x_1), (.int .u32 x_2), (.bool x_3), (.string x_4), (.bool x_5)]⟩ 38) fun r H1 =>
  ldStr H1 ⟨r, 4, none⟩ fun s =>
  iteB (decide (((ByteArray.size s : Nat) : Int) > (2147483647 : Int))) (
    R (.returned (.bool false)) H1) <|
  R (.returned (.bool true)) H1
theorem calls {x_0 : Int} {x_1 : Bool} {x_2 : Int} {x_3 : Bool} {x_4 : ByteArray} {x_5 : Bool} {H : Heap} {R : Ending → Heap → Prop} (h : go x_0 x_1 x_2 x_3 x_4 x_5 H R) : CallsH Tryd.prog 17 ⟨[(.agg ⟨[(.int .i64 x_0), (.bool x_1), (.int .u32 x_2), (.bool x_3), (.string x_4), (.bool x_5)]⟩)]⟩ H R :=
  callsH_of_den (an := an) (fuel := 100000) (X := go x_0 x_1 x_2 x_3 x_4 x_5 H R) (c := body) mixed fn (by kernel_rfl) (by kernel_rfl) (by kernel_rfl) ok (by kernel_rfl) h
end F17
/-! ### 26 "pub-stadtholder/spec.Sum32" -/
namespace F26
def an : Ann := { kinds := [], taus := [], pairs := [], lab := [(40000004, [1, 5, 11, 12]), (80000008, [1, 5, 11, 12, 21]), (80000013, [1, 5, 11, 12, 21])] }
noncomputable def body : Code := (Tryd.f26.body).getD .skip
theorem fn : Tryd.prog.funcs[26]? = some Tryd.f26 := by kernel_rfl
theorem ok : codeOk an 35 body = true := by kernel_rfl
noncomputable def L0t : List Item := [.code (sub [1, 1, 0, 1, 0, 0] body), .inLoop (sub [1, 1, 0, 1, 0, 0] body), .inBlock 0, .code (sub [1, 1, 1] body)]
def L0 (s : ByteArray) (c : Int) (s11 : Int) (s12 : Int) (H : Heap) (R : Ending → Heap → Prop) : Prop :=
  GoL Tryd.prog 26 35 L0t [1, 5, 11, 12] [(.string s), (.int .u32 c), (.int .i64 s11), (.int .i64 s12)] H R
noncomputable def L1t : List Item := [.code (sub [1, 1, 0, 1, 0, 0, 1, 1, 0, 0, 1, 1, 1, 0, 0] body), .inLoop (sub [1, 1, 0, 1, 0, 0, 1, 1, 0, 0, 1, 1, 1, 0, 0] body), .inBlock 2, .inBlock 1, .code (sub [1, 1, 0, 1, 0, 0, 1, 1, 1] body), .inLoop (sub [1, 1, 0, 1, 0, 0] body), .inBlock 0, .code (sub [1, 1, 1] body)]
def L1 (s : ByteArray) (c : Int) (s11 : Int) (s12 : Int) (s21 : Int) (H : Heap) (R : Ending → Heap → Prop) : Prop :=
  GoL Tryd.prog 26 35 L1t [1, 5, 11, 12, 21] [(.string s), (.int .u32 c), (.int .i64 s11), (.int .i64 s12), (.int .i64 s21)] H R
noncomputable def L2t : List Item := [.code (sub [1, 1, 0, 1, 0, 0, 1, 1, 0, 0, 1, 1, 1, 0, 0, 1, 1, 1] body), .inLoop (sub [1, 1, 0, 1, 0, 0, 1, 1, 0, 0, 1, 1, 1, 0, 0] body), .inBlock 2, .inBlock 1, .code (sub [1, 1, 0, 1, 0, 0, 1, 1, 1] body), .inLoop (sub [1, 1, 0, 1, 0, 0] body), .inBlock 0, .code (sub [1, 1, 1] body)]
def L2 (s : ByteArray) (c : Int) (s11 : Int) (s12 : Int) (s21 : Int) (H : Heap) (R : Ending → Heap → Prop) : Prop :=
  GoL Tryd.prog 26 35 L2t [1, 5, 11, 12, 21] [(.string s), (.int .u32 c), (.int .i64 s11), (.int .i64 s12), (.int .i64 s21)] H R
def L0n (s : ByteArray) (c : Int) (s11 : Int) (s12 : Int) (H : Heap) (R : Ending → Heap → Prop) : Prop :=
  iteB (decide (s12 < s11)) (
    ixS s s12 fun b =>
    L1 s (xorZ .u32 c (IntKind.wrap .u32 ((UInt8.toNat b : Nat) : Int))) s11 s12 (0 : Int) H R) <|
  R (.returned (.int .u32 (xorZ .u32 (IntKind.max .u32) c))) H
theorem L0_step {s : ByteArray} {c : Int} {s11 : Int} {s12 : Int} {H : Heap} {R : Ending → Heap → Prop} (h : L0n s c s11 s12 H R) : L0 s c s11 s12 H R :=
  goL_of_den (an := an) (fuel := 100000) (X := L0n s c s11 s12 H R) mixed fn (by kernel_rfl) (fun ρ0 => by kernel_rfl) h
def L1n (s : ByteArray) (c : Int) (s11 : Int) (s12 : Int) (s21 : Int) (H : Heap) (R : Ending → Heap → Prop) : Prop :=
  iteB (decide (s21 < (8 : Int))) (
    shD (1 : Int) <|
    iteB ((andZ .u32 c (1 : Int)) == (1 : Int)) (
      L2 s (xorZ .u32 (shrZ .u32 c (1 : Int)) (2197175160 : Int)) s11 s12 s21 H R) <|
    L2 s (shrZ .u32 c (1 : Int)) s11 s12 s21 H R) <|
  L0 s c s11 (IntKind.wrap .i64 (s12 + (1 : Int))) H R
theorem L1_step {s : ByteArray} {c : Int} {s11 : Int} {s12 : Int} {s21 : Int} {H : Heap} {R : Ending → Heap → Prop} (h : L1n s c s11 s12 s21 H R) : L1 s c s11 s12 s21 H R :=
  goL_of_den (an := an) (fuel := 100000) (X := L1n s c s11 s12 s21 H R) mixed fn (by kernel_rfl) (fun ρ0 => by kernel_rfl) h
def L2n (s : ByteArray) (c : Int) (s11 : Int) (s12 : Int) (s21 : Int) (H : Heap) (R : Ending → Heap → Prop) : Prop :=
  L1 s c s11 s12 (IntKind.wrap .i64 (s21 + (1 : Int))) H R
theorem L2_step {s : ByteArray} {c : Int} {s11 : Int} {s12 : Int} {s21 : Int} {H : Heap} {R : Ending → Heap → Prop} (h : L2n s c s11 s12 s21 H R) : L2 s c s11 s12 s21 H R :=
  goL_of_den (an := an) (fuel := 100000) (X := L2n s c s11 s12 s21 H R) mixed fn (by kernel_rfl) (fun ρ0 => by kernel_rfl) h
def go (prev : Int) (s : ByteArray) (H : Heap) (R : Ending → Heap → Prop) : Prop :=
  L0 s (xorZ .u32 (IntKind.max .u32) prev) ((ByteArray.size s : Nat) : Int) (0 : Int) H R
theorem calls {prev : Int} {s : ByteArray} {H : Heap} {R : Ending → Heap → Prop} (h : go prev s H R) : CallsH Tryd.prog 26 ⟨[(.int .u32 prev), (.string s)]⟩ H R :=
  callsH_of_den (an := an) (fuel := 100000) (X := go prev s H R) (c := body) mixed fn (by kernel_rfl) (by kernel_rfl) (by kernel_rfl) ok (by kernel_rfl) h
end F26
/-! ### 27 "pub-stadtholder/spec.WalFrame" -/
namespace F27
def an : Ann := { kinds := [(11002, .grow), (11004, .read), (11008, .grow), (11009, .read)], taus := [(11, [[0, 1, 5, 7, 2, 8, 9, 3, 4, 6, 10, 11], [0, 1, 5, 7, 2, 8, 3, 4, 6, 9, 10, 11], [0, 1, 5, 7, 2, 3, 8, 4, 6, 9, 10, 11], [0, 1, 5, 7, 2, 3, 4, 6, 8, 9, 10, 11], [0, 1, 5, 7, 8, 2, 9, 3, 4, 6, 10, 11], [0, 1, 5, 7, 8, 2, 3, 4, 6, 9, 10, 11], [0, 1, 5, 7, 8, 9, 2, 3, 4, 6, 10, 11]])], pairs := [(11, [(2, 8), (2, 9), (8, 3), (8, 4), (9, 3)])], lab := [(40000005, [0, 3, 4, 12]), (10000012, [0, 3, 4, 6])] }
noncomputable def body : Code := (Tryd.f27.body).getD .skip
theorem fn : Tryd.prog.funcs[27]? = some Tryd.f27 := by kernel_rfl
theorem ok : codeOk an 42 body = true := by kernel_rfl
noncomputable def L0t : List Item := [.code (sub [1, 1, 1, 0, 1, 0, 0] body), .inLoop (sub [1, 1, 1, 0, 1, 0, 0] body), .inBlock 0, .code (sub [1, 1, 1, 1] body)]
def L0 (body1 : ByteArray) (pad : Int) (b : Option Addr) (bn : Nat) (bc : Nat) (s12 : Int) (H : Heap) (R : Ending → Heap → Prop) : Prop :=
  GoL Tryd.prog 27 42 L0t [0, 3, 4, 12] [(.string body1), (.int .i64 pad), (.slice b bn bc), (.int .i64 s12)] H R
noncomputable def L1t : List Item := [.code (sub [1, 1, 1, 1, 1, 1] body)]
def L1 (body1 : ByteArray) (pad : Int) (b : Option Addr) (bn : Nat) (bc : Nat) (top : Int) (H : Heap) (R : Ending → Heap → Prop) : Prop :=
  GoL Tryd.prog 27 42 L1t [0, 3, 4, 6] [(.string body1), (.int .i64 pad), (.slice b bn bc), (.int .u8 top)] H R
def L0n (body1 : ByteArray) (pad : Int) (b : Option Addr) (bn : Nat) (bc : Nat) (s12 : Int) (H : Heap) (R : Ending → Heap → Prop) : Prop :=
  iteB (decide (s12 < (7 : Int))) (
    shD (IntKind.wrap .i64 ((8 : Int) * s12)) <|
    newD H (.cells ⟨[(.int .u8 (IntKind.wrap .u8 (shrZ .u64 (IntKind.wrap .u64 ((ByteArray.size body1 : Nat) : Int)) (IntKind.wrap .i64 ((8 : Int) * s12)))))]⟩ 5) fun r H1 =>
    apD H1 1 1 [(.int .u8 (0 : Int))] 5 b bn bc (some ⟨r, 0, none⟩) 1 fun q qn qc H2 =>
    L0 body1 pad q qn qc (IntKind.wrap .i64 (s12 + (1 : Int))) H2 R) <|
  iteB (decide (pad > (0 : Int))) (
    L1 body1 pad b bn bc (orZ .u8 (128 : Int) (IntKind.wrap .u8 pad)) H R) <|
  L1 body1 pad b bn bc (0 : Int) H R
theorem L0_step {body1 : ByteArray} {pad : Int} {b : Option Addr} {bn : Nat} {bc : Nat} {s12 : Int} {H : Heap} {R : Ending → Heap → Prop} (h : L0n body1 pad b bn bc s12 H R) : L0 body1 pad b bn bc s12 H R :=
  goL_of_den (an := an) (fuel := 100000) (X := L0n body1 pad b bn bc s12 H R) mixed fn (by kernel_rfl) (fun ρ0 => by kernel_rfl) h
def L1n (body1 : ByteArray) (pad : Int) (b : Option Addr) (bn : Nat) (bc : Nat) (top : Int) (H : Heap) (R : Ending → Heap → Prop) : Prop :=
  (
    newD H (.cells ⟨[(.int .u8 top)]⟩ 5) fun r H1 =>
    mkD H1 1 [(.int .u8 (0 : Int))] 5 pad pad fun r1 k c H2 =>
    bsD H2 (some ⟨r1, 0, none⟩) k fun s =>
    apD H2 1 1 [(.int .u8 (0 : Int))] 5 b bn bc (some ⟨r, 0, none⟩) 1 fun q qn qc H3 =>
    bsD H3 q qn fun s1 =>
    catD s1 body1 fun s2 =>
    catD s2 s fun s3 =>
    R (.returned (.string s3)) H3) ∧
  (
    newD H (.cells ⟨[(.int .u8 top)]⟩ 5) fun r2 H4 =>
    mkD H4 1 [(.int .u8 (0 : Int))] 5 pad pad fun r3 k1 c1 H5 =>
    apD H5 1 1 [(.int .u8 (0 : Int))] 5 b bn bc (some ⟨r2, 0, none⟩) 1 fun q1 q1n q1c H6 =>
    bsD H6 q1 q1n fun s4 =>
    catD s4 body1 fun s5 =>
    bsD H6 (some ⟨r3, 0, none⟩) k1 fun s6 =>
    catD s5 s6 fun s7 =>
    R (.returned (.string s7)) H6) ∧
  (
    newD H (.cells ⟨[(.int .u8 top)]⟩ 5) fun r4 H7 =>
    apD H7 1 1 [(.int .u8 (0 : Int))] 5 b bn bc (some ⟨r4, 0, none⟩) 1 fun q2 q2n q2c H8 =>
    mkD H8 1 [(.int .u8 (0 : Int))] 5 pad pad fun r5 k2 c2 H9 =>
    bsD H9 q2 q2n fun s8 =>
    catD s8 body1 fun s9 =>
    bsD H9 (some ⟨r5, 0, none⟩) k2 fun s10 =>
    catD s9 s10 fun s11 =>
    R (.returned (.string s11)) H9) ∧
  (
    newD H (.cells ⟨[(.int .u8 top)]⟩ 5) fun r6 H10 =>
    apD H10 1 1 [(.int .u8 (0 : Int))] 5 b bn bc (some ⟨r6, 0, none⟩) 1 fun q3 q3n q3c H11 =>
    bsD H11 q3 q3n fun s12 =>
    catD s12 body1 fun s13 =>
    mkD H11 1 [(.int .u8 (0 : Int))] 5 pad pad fun r7 k3 c3 H12 =>
    bsD H12 (some ⟨r7, 0, none⟩) k3 fun s14 =>
    catD s13 s14 fun s15 =>
    R (.returned (.string s15)) H12) ∧
  (
    mkD H 1 [(.int .u8 (0 : Int))] 5 pad pad fun r8 k4 c4 H13 =>
    newD H13 (.cells ⟨[(.int .u8 top)]⟩ 5) fun r9 H14 =>
    bsD H14 (some ⟨r8, 0, none⟩) k4 fun s16 =>
    apD H14 1 1 [(.int .u8 (0 : Int))] 5 b bn bc (some ⟨r9, 0, none⟩) 1 fun q4 q4n q4c H15 =>
    bsD H15 q4 q4n fun s17 =>
    catD s17 body1 fun s18 =>
    catD s18 s16 fun s19 =>
    R (.returned (.string s19)) H15) ∧
  (
    mkD H 1 [(.int .u8 (0 : Int))] 5 pad pad fun r10 k5 c5 H16 =>
    newD H16 (.cells ⟨[(.int .u8 top)]⟩ 5) fun r11 H17 =>
    apD H17 1 1 [(.int .u8 (0 : Int))] 5 b bn bc (some ⟨r11, 0, none⟩) 1 fun q5 q5n q5c H18 =>
    bsD H18 q5 q5n fun s20 =>
    catD s20 body1 fun s21 =>
    bsD H18 (some ⟨r10, 0, none⟩) k5 fun s22 =>
    catD s21 s22 fun s23 =>
    R (.returned (.string s23)) H18) ∧
  (
    mkD H 1 [(.int .u8 (0 : Int))] 5 pad pad fun r12 k6 c6 H19 =>
    bsD H19 (some ⟨r12, 0, none⟩) k6 fun s24 =>
    newD H19 (.cells ⟨[(.int .u8 top)]⟩ 5) fun r13 H20 =>
    apD H20 1 1 [(.int .u8 (0 : Int))] 5 b bn bc (some ⟨r13, 0, none⟩) 1 fun q6 q6n q6c H21 =>
    bsD H21 q6 q6n fun s25 =>
    catD s25 body1 fun s26 =>
    catD s26 s24 fun s27 =>
    R (.returned (.string s27)) H21)
theorem L1_step {body1 : ByteArray} {pad : Int} {b : Option Addr} {bn : Nat} {bc : Nat} {top : Int} {H : Heap} {R : Ending → Heap → Prop} (h : L1n body1 pad b bn bc top H R) : L1 body1 pad b bn bc top H R :=
  goL_of_den (an := an) (fuel := 100000) (X := L1n body1 pad b bn bc top H R) mixed fn (by kernel_rfl) (fun ρ0 => by kernel_rfl) h
def go (body1 : ByteArray) (H : Heap) (R : Ending → Heap → Prop) : Prop :=
  divD (8 : Int) <|
  divD (8 : Int) <|
  L0 body1 (Int.tmod (IntKind.wrap .i64 ((8 : Int) - (Int.tmod ((ByteArray.size body1 : Nat) : Int) (8 : Int)))) (8 : Int)) none 0 0 (0 : Int) H R
theorem calls {body1 : ByteArray} {H : Heap} {R : Ending → Heap → Prop} (h : go body1 H R) : CallsH Tryd.prog 27 ⟨[(.string body1)]⟩ H R :=
  callsH_of_den (an := an) (fuel := 100000) (X := go body1 H R) (c := body) mixed fn (by kernel_rfl) (by kernel_rfl) (by kernel_rfl) ok (by kernel_rfl) h
end F27
/-! ### 28 "pub-stadtholder/spec.varint" -/
namespace F28
def an : Ann := { kinds := [(5005, .read)], taus := [], pairs := [], lab := [(40000003, [0, 3])] }
noncomputable def body : Code := (Tryd.f28.body).getD .skip
theorem fn : Tryd.prog.funcs[28]? = some Tryd.f28 := by kernel_rfl
theorem ok : codeOk an 20 body = true := by kernel_rfl
noncomputable def L0t : List Item := [.code (sub [1, 1, 0, 0, 0] body), .inLoop (sub [1, 1, 0, 0, 0] body), .inBlock 0, .code (sub [1, 1, 1] body)]
def L0 (n : Int) (b : Option Addr) (bn : Nat) (bc : Nat) (H : Heap) (R : Ending → Heap → Prop) : Prop :=
  GoL Tryd.prog 28 20 L0t [0, 3] [(.int .u64 n), (.slice b bn bc)] H R
def L0n (n : Int) (b : Option Addr) (bn : Nat) (bc : Nat) (H : Heap) (R : Ending → Heap → Prop) : Prop :=
  iteB (decide (n ≥ (128 : Int))) (
    newD H (.cells ⟨[(.int .u8 (orZ .u8 (IntKind.wrap .u8 n) (128 : Int)))]⟩ 5) fun r H1 =>
    apD H1 1 1 [(.int .u8 (0 : Int))] 5 b bn bc (some ⟨r, 0, none⟩) 1 fun q qn qc H2 =>
    shD (7 : Int) <|
    L0 (shrZ .u64 n (7 : Int)) q qn qc H2 R) <|
  newD H (.cells ⟨[(.int .u8 (IntKind.wrap .u8 n))]⟩ 5) fun r1 H3 =>
  apD H3 1 1 [(.int .u8 (0 : Int))] 5 b bn bc (some ⟨r1, 0, none⟩) 1 fun q1 q1n q1c H4 =>
  bsD H4 q1 q1n fun s =>
  R (.returned (.string s)) H4
theorem L0_step {n : Int} {b : Option Addr} {bn : Nat} {bc : Nat} {H : Heap} {R : Ending → Heap → Prop} (h : L0n n b bn bc H R) : L0 n b bn bc H R :=
  goL_of_den (an := an) (fuel := 100000) (X := L0n n b bn bc H R) mixed fn (by kernel_rfl) (fun ρ0 => by kernel_rfl) h
def go (n : Int) (H : Heap) (R : Ending → Heap → Prop) : Prop :=
  L0 n none 0 0 H R
theorem calls {n : Int} {H : Heap} {R : Ending → Heap → Prop} (h : go n H R) : CallsH Tryd.prog 28 ⟨[(.int .u64 n)]⟩ H R :=
  callsH_of_den (an := an) (fuel := 100000) (X := go n H R) (c := body) mixed fn (by kernel_rfl) (by kernel_rfl) (by kernel_rfl) ok (by kernel_rfl) h
end F28
end Go.Proofs.YtkejocbhmcphiaaDoor
