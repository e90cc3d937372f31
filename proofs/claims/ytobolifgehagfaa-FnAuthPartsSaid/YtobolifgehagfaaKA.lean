/- What functions of this seat do, each proved by a walk; no condition. -/
import Derived.Test.YtobolifgehagfaaJB
import Derived.KernelRfl
set_option linter.unusedVariables false
namespace Go.Proofs.Ytobolifgehagfaa
open Go Go.Den Go.Proofs
/-! ### 3 "pub-stadtholder/laws.FnAuthParts" -/
namespace F3
def an : Ann := { kinds := [], taus := [], pairs := [], lab := [(10000004, [0, 1, 2, 3, 4]), (10000006, [0, 1, 2, 3, 4])] }
noncomputable def body : Code := (Try.f3.body).getD .skip
theorem fn : Try.prog.funcs[3]? = some Try.f3 := by kernel_rfl
theorem ok : codeOk an 107 body = true := by kernel_rfl
noncomputable def L0t : List Item := [.code (sub [1, 1] body)]
def L0 (s0 : Option Addr) (s0n : Nat) (s0c : Nat) (s1 : ByteArray) (s2 : ByteArray) (s3 : ByteArray) (s4 : Int) (H : Heap) (R : Ending → Heap → Prop) : Prop :=
  GoL Try.prog 3 107 L0t [0, 1, 2, 3, 4] [(.slice s0 s0n s0c), (.string s1), (.string s2), (.string s3), (.int .i64 s4)] H R
noncomputable def L1t : List Item := [.code (sub [1, 1, 1] body)]
def L1 (s0 : Option Addr) (s0n : Nat) (s0c : Nat) (s1 : ByteArray) (s2 : ByteArray) (s3 : ByteArray) (s4 : Int) (H : Heap) (R : Ending → Heap → Prop) : Prop :=
  GoL Try.prog 3 107 L1t [0, 1, 2, 3, 4] [(.slice s0 s0n s0c), (.string s1), (.string s2), (.string s3), (.int .i64 s4)] H R
def L0n (s0 : Option Addr) (s0n : Nat) (s0c : Nat) (s1 : ByteArray) (s2 : ByteArray) (s3 : ByteArray) (s4 : Int) (H : Heap) (R : Ending → Heap → Prop) : Prop :=
  callD Try.prog 10 [(.slice s0 s0n s0c)] H (panK R) fun v H1 =>
  tBool v fun b =>
  iteB (!b) (
    R (.returned (.bool true)) H1) <|
  iteB (decide (s4 < (0 : Int))) (
    R (.returned (.bool true)) H1) <|
  iteB (decide (s4 > (1 : Int))) (
    R (.returned (.bool true)) H1) <|
  iteB (eqS s1 (ByteArray.mk #[])) (
    R (.returned (.bool true)) H1) <|
  iteB (ltS s2 s1 || eqS s2 s1) (
    R (.returned (.bool true)) H1) <|
  iteB (eqS s2 (ByteArray.mk #[0])) (
    R (.returned (.bool true)) H1) <|
  iteB (!eqS s3 (ByteArray.mk #[0])) (
    iteB (ltS s3 s2 || eqS s3 s2) (
      R (.returned (.bool true)) H1) <|
    callD Try.prog 11 [(.string s1)] H1 (panK R) fun v1 H2 =>
    tBool v1 fun b1 =>
    iteB (!b1) (
      R (.returned (.bool true)) H2) <|
    callD Try.prog 11 [(.string s2)] H2 (panK R) fun v2 H3 =>
    tBool v2 fun b2 =>
    iteB (!b2) (
      R (.returned (.bool true)) H3) <|
    callD Try.prog 11 [(.string s3)] H3 (panK R) fun v3 H4 =>
    tBool v3 fun b3 =>
    iteB (!b3) (
      R (.returned (.bool true)) H4) <|
    L1 s0 s0n s0c s1 s2 s3 s4 H4 R) <|
  callD Try.prog 11 [(.string s1)] H1 (panK R) fun v4 H5 =>
  tBool v4 fun b4 =>
  iteB (!b4) (
    R (.returned (.bool true)) H5) <|
  callD Try.prog 11 [(.string s2)] H5 (panK R) fun v5 H6 =>
  tBool v5 fun b5 =>
  iteB (!b5) (
    R (.returned (.bool true)) H6) <|
  callD Try.prog 11 [(.string s3)] H6 (panK R) fun v6 H7 =>
  tBool v6 fun b6 =>
  iteB (!b6) (
    R (.returned (.bool true)) H7) <|
  L1 s0 s0n s0c s1 s2 s3 s4 H7 R
theorem L0_step {s0 : Option Addr} {s0n : Nat} {s0c : Nat} {s1 : ByteArray} {s2 : ByteArray} {s3 : ByteArray} {s4 : Int} {H : Heap} {R : Ending → Heap → Prop} (h : L0n s0 s0n s0c s1 s2 s3 s4 H R) : L0 s0 s0n s0c s1 s2 s3 s4 H R :=
  goL_of_den (an := an) (fuel := 100000) (X := L0n s0 s0n s0c s1 s2 s3 s4 H R) mixed fn (by kernel_rfl) (fun ρ0 => by kernel_rfl) h
def L1n (s0 : Option Addr) (s0n : Nat) (s0c : Nat) (s1 : ByteArray) (s2 : ByteArray) (s3 : ByteArray) (s4 : Int) (H : Heap) (R : Ending → Heap → Prop) : Prop :=
  callD Try.prog 12 [(.slice s0 s0n s0c), (.string s1), (.string s3), (.int .i64 s4)] H (panK R) fun v H1 =>
  tBool v fun b =>
  callD Try.prog 12 [(.slice s0 s0n s0c), (.string s1), (.string s2), (.int .i64 s4)] H1 (panK R) fun v1 H2 =>
  tBool v1 fun b1 =>
  iteB b1 (
    callD Try.prog 12 [(.slice s0 s0n s0c), (.string s2), (.string s3), (.int .i64 s4)] H2 (panK R) fun v2 H3 =>
    tBool v2 fun b2 =>
    iteB (b == b2) (
      newD H3 (.cells ⟨[(.int .i64 (2 : Int)), (.string s1), (.string s3)]⟩ 27) fun r H4 =>
      callD Try.prog 12 [(.slice (some ⟨r, 0, none⟩) 1 1), (.string s1), (.string s2), (.int .i64 s4)] H4 (panK R) fun v3 H5 =>
      tBool v3 fun b3 =>
      R (.returned (.bool b3)) H5) <|
    R (.returned (.bool false)) H3) <|
  iteB (b == false) (
    newD H2 (.cells ⟨[(.int .i64 (2 : Int)), (.string s1), (.string s3)]⟩ 27) fun r1 H6 =>
    callD Try.prog 12 [(.slice (some ⟨r1, 0, none⟩) 1 1), (.string s1), (.string s2), (.int .i64 s4)] H6 (panK R) fun v4 H7 =>
    tBool v4 fun b4 =>
    R (.returned (.bool b4)) H7) <|
  R (.returned (.bool false)) H2
theorem L1_step {s0 : Option Addr} {s0n : Nat} {s0c : Nat} {s1 : ByteArray} {s2 : ByteArray} {s3 : ByteArray} {s4 : Int} {H : Heap} {R : Ending → Heap → Prop} (h : L1n s0 s0n s0c s1 s2 s3 s4 H R) : L1 s0 s0n s0c s1 s2 s3 s4 H R :=
  goL_of_den (an := an) (fuel := 100000) (X := L1n s0 s0n s0c s1 s2 s3 s4 H R) mixed fn (by kernel_rfl) (fun ρ0 => by kernel_rfl) h
def go (s0 : Option Addr) (s0n : Nat) (s0c : Nat) (s1 : ByteArray) (s2 : ByteArray) (s3 : ByteArray) (s4 : Int) (H : Heap) (R : Ending → Heap → Prop) : Prop :=
  callD Try.prog 9 [(.slice s0 s0n s0c)] H (panK R) fun v H1 =>
  tBool v fun b =>
  iteB (!b) (
    R (.returned (.bool true)) H1) <|
  iteB (decide (((ByteArray.size s1 : Nat) : Int) > (2147483647 : Int))) (
    R (.returned (.bool true)) H1) <|
  iteB (decide (((ByteArray.size s2 : Nat) : Int) > (2147483647 : Int))) (
    R (.returned (.bool true)) H1) <|
  iteB (decide (((ByteArray.size s3 : Nat) : Int) > (2147483647 : Int))) (
    R (.returned (.bool true)) H1) <|
  L0 s0 s0n s0c s1 s2 s3 s4 H1 R
theorem calls {s0 : Option Addr} {s0n : Nat} {s0c : Nat} {s1 : ByteArray} {s2 : ByteArray} {s3 : ByteArray} {s4 : Int} {H : Heap} {R : Ending → Heap → Prop} (h : go s0 s0n s0c s1 s2 s3 s4 H R) : CallsH Try.prog 3 ⟨[(.slice s0 s0n s0c), (.string s1), (.string s2), (.string s3), (.int .i64 s4)]⟩ H R :=
  callsH_of_den (an := an) (fuel := 100000) (X := go s0 s0n s0c s1 s2 s3 s4 H R) (c := body) mixed fn (by kernel_rfl) (by kernel_rfl) (by kernel_rfl) ok (by kernel_rfl) h
end F3
/-! ### 4 "pub-stadtholder/laws.FnAuthPoint" -/
namespace F4
def an : Ann := { kinds := [], taus := [], pairs := [], lab := [(10000004, [0, 1, 2]), (10000006, [0, 1, 2]), (40000008, [0, 1, 2, 7, 38, 39, 40]), (40000011, [0, 1, 2, 7, 38, 39, 40])] }
noncomputable def body : Code := (Try.f4.body).getD .skip
theorem fn : Try.prog.funcs[4]? = some Try.f4 := by kernel_rfl
theorem ok : codeOk an 106 body = true := by kernel_rfl
noncomputable def L0t : List Item := [.code (sub [1, 1] body)]
def L0 (s0 : Option Addr) (s0n : Nat) (s0c : Nat) (s1 : ByteArray) (s2 : Int) (H : Heap) (R : Ending → Heap → Prop) : Prop :=
  GoL Try.prog 4 106 L0t [0, 1, 2] [(.slice s0 s0n s0c), (.string s1), (.int .i64 s2)] H R
noncomputable def L1t : List Item := [.code (sub [1, 1, 1] body)]
def L1 (s0 : Option Addr) (s0n : Nat) (s0c : Nat) (s1 : ByteArray) (s2 : Int) (H : Heap) (R : Ending → Heap → Prop) : Prop :=
  GoL Try.prog 4 106 L1t [0, 1, 2] [(.slice s0 s0n s0c), (.string s1), (.int .i64 s2)] H R
noncomputable def L2t : List Item := [.code (sub [1, 1, 1, 1, 0, 1, 0, 0] body), .inLoop (sub [1, 1, 1, 1, 0, 1, 0, 0] body), .inBlock 0, .code (sub [1, 1, 1, 1, 1] body)]
def L2 (s0 : Option Addr) (s0n : Nat) (s0c : Nat) (s1 : ByteArray) (s2 : Int) (s7 : Bool) (s38 : Option Addr) (s38n : Nat) (s38c : Nat) (s39 : Int) (s40 : Int) (H : Heap) (R : Ending → Heap → Prop) : Prop :=
  GoL Try.prog 4 106 L2t [0, 1, 2, 7, 38, 39, 40] [(.slice s0 s0n s0c), (.string s1), (.int .i64 s2), (.bool s7), (.slice s38 s38n s38c), (.int .i64 s39), (.int .i64 s40)] H R
noncomputable def L3t : List Item := [.code (sub [1, 1, 1, 1, 0, 1, 0, 0, 1, 1, 1] body), .inLoop (sub [1, 1, 1, 1, 0, 1, 0, 0] body), .inBlock 0, .code (sub [1, 1, 1, 1, 1] body)]
def L3 (s0 : Option Addr) (s0n : Nat) (s0c : Nat) (s1 : ByteArray) (s2 : Int) (s7 : Bool) (s38 : Option Addr) (s38n : Nat) (s38c : Nat) (s39 : Int) (s40 : Int) (H : Heap) (R : Ending → Heap → Prop) : Prop :=
  GoL Try.prog 4 106 L3t [0, 1, 2, 7, 38, 39, 40] [(.slice s0 s0n s0c), (.string s1), (.int .i64 s2), (.bool s7), (.slice s38 s38n s38c), (.int .i64 s39), (.int .i64 s40)] H R
def L0n (s0 : Option Addr) (s0n : Nat) (s0c : Nat) (s1 : ByteArray) (s2 : Int) (H : Heap) (R : Ending → Heap → Prop) : Prop :=
  callD Try.prog 10 [(.slice s0 s0n s0c)] H (panK R) fun v H1 =>
  tBool v fun b =>
  iteB (!b) (
    R (.returned (.bool true)) H1) <|
  callD Try.prog 11 [(.string s1)] H1 (panK R) fun v1 H2 =>
  tBool v1 fun b1 =>
  iteB (!b1) (
    R (.returned (.bool true)) H2) <|
  iteB (eqS s1 (ByteArray.mk #[])) (
    R (.returned (.bool true)) H2) <|
  iteB (decide (s2 < (0 : Int))) (
    R (.returned (.bool true)) H2) <|
  iteB (decide (s2 > (1 : Int))) (
    R (.returned (.bool true)) H2) <|
  L1 s0 s0n s0c s1 s2 H2 R
theorem L0_step {s0 : Option Addr} {s0n : Nat} {s0c : Nat} {s1 : ByteArray} {s2 : Int} {H : Heap} {R : Ending → Heap → Prop} (h : L0n s0 s0n s0c s1 s2 H R) : L0 s0 s0n s0c s1 s2 H R :=
  goL_of_den (an := an) (fuel := 100000) (X := L0n s0 s0n s0c s1 s2 H R) mixed fn (by kernel_rfl) (fun ρ0 => by kernel_rfl) h
def L1n (s0 : Option Addr) (s0n : Nat) (s0c : Nat) (s1 : ByteArray) (s2 : Int) (H : Heap) (R : Ending → Heap → Prop) : Prop :=
  L2 s0 s0n s0c s1 s2 false s0 s0n s0c ((s0n : Nat) : Int) (0 : Int) H R
theorem L1_step {s0 : Option Addr} {s0n : Nat} {s0c : Nat} {s1 : ByteArray} {s2 : Int} {H : Heap} {R : Ending → Heap → Prop} (h : L1n s0 s0n s0c s1 s2 H R) : L1 s0 s0n s0c s1 s2 H R :=
  goL_of_den (an := an) (fuel := 100000) (X := L1n s0 s0n s0c s1 s2 H R) mixed fn (by kernel_rfl) (fun ρ0 => by kernel_rfl) h
def L2n (s0 : Option Addr) (s0n : Nat) (s0c : Nat) (s1 : ByteArray) (s2 : Int) (s7 : Bool) (s38 : Option Addr) (s38n : Nat) (s38c : Nat) (s39 : Int) (s40 : Int) (H : Heap) (R : Ending → Heap → Prop) : Prop :=
  iteB (decide (s40 < s39)) (
    idxD s38 s38n s40 fun a =>
    ldInt H (Addr.add a (Int.toNat s40 * 3)) .i64 fun n =>
    ldStr H (Addr.add (Addr.add a (Int.toNat s40 * 3)) 1) fun s =>
    ldStr H (Addr.add (Addr.add a (Int.toNat s40 * 3)) 2) fun s3 =>
    newD H (.cells ⟨[(.int .i64 (0 : Int)), (.string (ByteArray.mk #[])), (.string (ByteArray.mk #[]))]⟩ 27) fun r H1 =>
    st1 H1 ⟨r, 0, none⟩ (.int .i64 n) fun H2 =>
    st1 H2 ⟨r, 1, none⟩ (.string s) fun H3 =>
    st1 H3 ⟨r, 2, none⟩ (.string s3) fun H4 =>
    iteB s7 (
      L3 s0 s0n s0c s1 s2 true s38 s38n s38c s39 s40 H4 R) <|
    ldInt H4 ⟨r, 0, none⟩ .i64 fun n1 =>
    ldStr H4 ⟨r, 1, none⟩ fun s4 =>
    ldStr H4 ⟨r, 2, none⟩ fun s5 =>
    callD Try.prog 13 [(.agg ⟨[(.int .i64 n1), (.string s4), (.string s5)]⟩), (.int .i64 s2)] H4 (panK R) fun v H5 =>
    tBool v fun b =>
    iteB b (
      ldStr H5 ⟨r, 2, none⟩ fun s6 =>
      iteB (eqS s6 (ByteArray.mk #[])) (
        ldStr H5 ⟨r, 1, none⟩ fun s8 =>
        iteB (eqS s8 s1) (
          L3 s0 s0n s0c s1 s2 true s38 s38n s38c s39 s40 H5 R) <|
        ldStr H5 ⟨r, 2, none⟩ fun s9 =>
        iteB (eqS s9 (ByteArray.mk #[0])) (
          ldStr H5 ⟨r, 1, none⟩ fun s10 =>
          iteB (ltS s10 s1 || eqS s10 s1) (
            L3 s0 s0n s0c s1 s2 true s38 s38n s38c s39 s40 H5 R) <|
          ldStr H5 ⟨r, 2, none⟩ fun s11 =>
          iteB (!eqS s11 (ByteArray.mk #[])) (
            ldStr H5 ⟨r, 2, none⟩ fun s12 =>
            iteB (!eqS s12 (ByteArray.mk #[0])) (
              ldStr H5 ⟨r, 1, none⟩ fun s13 =>
              iteB (ltS s13 s1 || eqS s13 s1) (
                ldStr H5 ⟨r, 2, none⟩ fun s14 =>
                L3 s0 s0n s0c s1 s2 (ltS s1 s14) s38 s38n s38c s39 s40 H5 R) <|
              L3 s0 s0n s0c s1 s2 false s38 s38n s38c s39 s40 H5 R) <|
            L3 s0 s0n s0c s1 s2 false s38 s38n s38c s39 s40 H5 R) <|
          L3 s0 s0n s0c s1 s2 false s38 s38n s38c s39 s40 H5 R) <|
        ldStr H5 ⟨r, 2, none⟩ fun s15 =>
        iteB (!eqS s15 (ByteArray.mk #[])) (
          ldStr H5 ⟨r, 2, none⟩ fun s16 =>
          iteB (!eqS s16 (ByteArray.mk #[0])) (
            ldStr H5 ⟨r, 1, none⟩ fun s17 =>
            iteB (ltS s17 s1 || eqS s17 s1) (
              ldStr H5 ⟨r, 2, none⟩ fun s18 =>
              L3 s0 s0n s0c s1 s2 (ltS s1 s18) s38 s38n s38c s39 s40 H5 R) <|
            L3 s0 s0n s0c s1 s2 false s38 s38n s38c s39 s40 H5 R) <|
          L3 s0 s0n s0c s1 s2 false s38 s38n s38c s39 s40 H5 R) <|
        L3 s0 s0n s0c s1 s2 false s38 s38n s38c s39 s40 H5 R) <|
      ldStr H5 ⟨r, 2, none⟩ fun s19 =>
      iteB (eqS s19 (ByteArray.mk #[0])) (
        ldStr H5 ⟨r, 1, none⟩ fun s20 =>
        iteB (ltS s20 s1 || eqS s20 s1) (
          L3 s0 s0n s0c s1 s2 true s38 s38n s38c s39 s40 H5 R) <|
        ldStr H5 ⟨r, 2, none⟩ fun s21 =>
        iteB (!eqS s21 (ByteArray.mk #[])) (
          ldStr H5 ⟨r, 2, none⟩ fun s22 =>
          iteB (!eqS s22 (ByteArray.mk #[0])) (
            ldStr H5 ⟨r, 1, none⟩ fun s23 =>
            iteB (ltS s23 s1 || eqS s23 s1) (
              ldStr H5 ⟨r, 2, none⟩ fun s24 =>
              L3 s0 s0n s0c s1 s2 (ltS s1 s24) s38 s38n s38c s39 s40 H5 R) <|
            L3 s0 s0n s0c s1 s2 false s38 s38n s38c s39 s40 H5 R) <|
          L3 s0 s0n s0c s1 s2 false s38 s38n s38c s39 s40 H5 R) <|
        L3 s0 s0n s0c s1 s2 false s38 s38n s38c s39 s40 H5 R) <|
      ldStr H5 ⟨r, 2, none⟩ fun s25 =>
      iteB (!eqS s25 (ByteArray.mk #[])) (
        ldStr H5 ⟨r, 2, none⟩ fun s26 =>
        iteB (!eqS s26 (ByteArray.mk #[0])) (
          ldStr H5 ⟨r, 1, none⟩ fun s27 =>
          iteB (ltS s27 s1 || eqS s27 s1) (
            ldStr H5 ⟨r, 2, none⟩ fun s28 =>
            L3 s0 s0n s0c s1 s2 (ltS s1 s28) s38 s38n s38c s39 s40 H5 R) <|
          L3 s0 s0n s0c s1 s2 false s38 s38n s38c s39 s40 H5 R) <|
        L3 s0 s0n s0c s1 s2 false s38 s38n s38c s39 s40 H5 R) <|
      L3 s0 s0n s0c s1 s2 false s38 s38n s38c s39 s40 H5 R) <|
    L3 s0 s0n s0c s1 s2 false s38 s38n s38c s39 s40 H5 R) <|
  callD Try.prog 12 [(.slice s0 s0n s0c), (.string s1), (.string (ByteArray.mk #[])), (.int .i64 s2)] H (panK R) fun v1 H6 =>
  tBool v1 fun b1 =>
  iteB (b1 == s7) (
    newD H6 (.cells ⟨[(.int .i64 (0 : Int)), (.string (ByteArray.mk #[107])), (.string (ByteArray.mk #[]))]⟩ 27) fun r1 H7 =>
    callD Try.prog 12 [(.slice (some ⟨r1, 0, none⟩) 1 1), (.string (ByteArray.mk #[107])), (.string (ByteArray.mk #[])), (.int .i64 (0 : Int))] H7 (panK R) fun v2 H8 =>
    tBool v2 fun b2 =>
    R (.returned (.bool b2)) H8) <|
  R (.returned (.bool false)) H6
theorem L2_step {s0 : Option Addr} {s0n : Nat} {s0c : Nat} {s1 : ByteArray} {s2 : Int} {s7 : Bool} {s38 : Option Addr} {s38n : Nat} {s38c : Nat} {s39 : Int} {s40 : Int} {H : Heap} {R : Ending → Heap → Prop} (h : L2n s0 s0n s0c s1 s2 s7 s38 s38n s38c s39 s40 H R) : L2 s0 s0n s0c s1 s2 s7 s38 s38n s38c s39 s40 H R :=
  goL_of_den (an := an) (fuel := 100000) (X := L2n s0 s0n s0c s1 s2 s7 s38 s38n s38c s39 s40 H R) mixed fn (by kernel_rfl) (fun ρ0 => by kernel_rfl) h
def L3n (s0 : Option Addr) (s0n : Nat) (s0c : Nat) (s1 : ByteArray) (s2 : Int) (s7 : Bool) (s38 : Option Addr) (s38n : Nat) (s38c : Nat) (s39 : Int) (s40 : Int) (H : Heap) (R : Ending → Heap → Prop) : Prop :=
  L2 s0 s0n s0c s1 s2 s7 s38 s38n s38c s39 (IntKind.wrap .i64 (s40 + (1 : Int))) H R
theorem L3_step {s0 : Option Addr} {s0n : Nat} {s0c : Nat} {s1 : ByteArray} {s2 : Int} {s7 : Bool} {s38 : Option Addr} {s38n : Nat} {s38c : Nat} {s39 : Int} {s40 : Int} {H : Heap} {R : Ending → Heap → Prop} (h : L3n s0 s0n s0c s1 s2 s7 s38 s38n s38c s39 s40 H R) : L3 s0 s0n s0c s1 s2 s7 s38 s38n s38c s39 s40 H R :=
  goL_of_den (an := an) (fuel := 100000) (X := L3n s0 s0n s0c s1 s2 s7 s38 s38n s38c s39 s40 H R) mixed fn (by kernel_rfl) (fun ρ0 => by kernel_rfl) h
def go (s0 : Option Addr) (s0n : Nat) (s0c : Nat) (s1 : ByteArray) (s2 : Int) (H : Heap) (R : Ending → Heap → Prop) : Prop :=
  callD Try.prog 9 [(.slice s0 s0n s0c)] H (panK R) fun v H1 =>
  tBool v fun b =>
  iteB (!b) (
    R (.returned (.bool true)) H1) <|
  iteB (decide (((ByteArray.size s1 : Nat) : Int) > (2147483647 : Int))) (
    R (.returned (.bool true)) H1) <|
  L0 s0 s0n s0c s1 s2 H1 R
theorem calls {s0 : Option Addr} {s0n : Nat} {s0c : Nat} {s1 : ByteArray} {s2 : Int} {H : Heap} {R : Ending → Heap → Prop} (h : go s0 s0n s0c s1 s2 H R) : CallsH Try.prog 4 ⟨[(.slice s0 s0n s0c), (.string s1), (.int .i64 s2)]⟩ H R :=
  callsH_of_den (an := an) (fuel := 100000) (X := go s0 s0n s0c s1 s2 H R) (c := body) mixed fn (by kernel_rfl) (by kernel_rfl) (by kernel_rfl) ok (by kernel_rfl) h
end F4
/-! ### 9 "pub-stadtholder/laws.zzFits4" -/
namespace F9
def an : Ann := { kinds := [], taus := [], pairs := [], lab := [(40000005, [8, 9, 10])] }
noncomputable def body : Code := (Try.f9.body).getD .skip
theorem fn : Try.prog.funcs[9]? = some Try.f9 := by kernel_rfl
theorem ok : codeOk an 18 body = true := by kernel_rfl
noncomputable def L0t : List Item := [.code (sub [1, 1, 0, 1, 0, 0] body), .inLoop (sub [1, 1, 0, 1, 0, 0] body), .inBlock 0, .code (sub [1, 1, 1] body)]
def L0 (s8 : Option Addr) (s8n : Nat) (s8c : Nat) (s9 : Int) (s10 : Int) (H : Heap) (R : Ending → Heap → Prop) : Prop :=
  GoL Try.prog 9 18 L0t [8, 9, 10] [(.slice s8 s8n s8c), (.int .i64 s9), (.int .i64 s10)] H R
def L0n (s8 : Option Addr) (s8n : Nat) (s8c : Nat) (s9 : Int) (s10 : Int) (H : Heap) (R : Ending → Heap → Prop) : Prop :=
  iteB (decide (s10 < s9)) (
    idxD s8 s8n s10 fun a =>
    ldInt H (Addr.add a (Int.toNat s10 * 3)) .i64 fun n =>
    ldStr H (Addr.add (Addr.add a (Int.toNat s10 * 3)) 1) fun s =>
    ldStr H (Addr.add (Addr.add a (Int.toNat s10 * 3)) 2) fun s1 =>
    newD H (.cells ⟨[(.int .i64 (0 : Int)), (.string (ByteArray.mk #[])), (.string (ByteArray.mk #[]))]⟩ 27) fun r H1 =>
    st1 H1 ⟨r, 0, none⟩ (.int .i64 n) fun H2 =>
    st1 H2 ⟨r, 1, none⟩ (.string s) fun H3 =>
    st1 H3 ⟨r, 2, none⟩ (.string s1) fun H4 =>
    ldInt H4 ⟨r, 0, none⟩ .i64 fun n1 =>
    ldStr H4 ⟨r, 1, none⟩ fun s2 =>
    ldStr H4 ⟨r, 2, none⟩ fun s3 =>
    callD Try.prog 30 [(.agg ⟨[(.int .i64 n1), (.string s2), (.string s3)]⟩)] H4 (panK R) fun v H5 =>
    tBool v fun b =>
    iteB (!b) (
      R (.returned (.bool false)) H5) <|
    L0 s8 s8n s8c s9 (IntKind.wrap .i64 (s10 + (1 : Int))) H5 R) <|
  R (.returned (.bool true)) H
theorem L0_step {s8 : Option Addr} {s8n : Nat} {s8c : Nat} {s9 : Int} {s10 : Int} {H : Heap} {R : Ending → Heap → Prop} (h : L0n s8 s8n s8c s9 s10 H R) : L0 s8 s8n s8c s9 s10 H R :=
  goL_of_den (an := an) (fuel := 100000) (X := L0n s8 s8n s8c s9 s10 H R) mixed fn (by kernel_rfl) (fun ρ0 => by kernel_rfl) h
def go (x : Option Addr) (xn : Nat) (xc : Nat) (H : Heap) (R : Ending → Heap → Prop) : Prop :=
  iteB (decide (((xn : Nat) : Int) > (2147483647 : Int))) (
    R (.returned (.bool false)) H) <|
  L0 x xn xc ((xn : Nat) : Int) (0 : Int) H R
theorem calls {x : Option Addr} {xn : Nat} {xc : Nat} {H : Heap} {R : Ending → Heap → Prop} (h : go x xn xc H R) : CallsH Try.prog 9 ⟨[(.slice x xn xc)]⟩ H R :=
  callsH_of_den (an := an) (fuel := 100000) (X := go x xn xc H R) (c := body) mixed fn (by kernel_rfl) (by kernel_rfl) (by kernel_rfl) ok (by kernel_rfl) h
end F9
/-! ### 10 "pub-stadtholder/laws.authPerms" -/
namespace F10
def an : Ann := { kinds := [], taus := [], pairs := [], lab := [(40000003, [0, 5, 6, 7]), (40000007, [0, 5, 6, 7])] }
noncomputable def body : Code := (Try.f10.body).getD .skip
theorem fn : Try.prog.funcs[10]? = some Try.f10 := by kernel_rfl
theorem ok : codeOk an 43 body = true := by kernel_rfl
noncomputable def L0t : List Item := [.code (sub [1, 0, 1, 0, 0] body), .inLoop (sub [1, 0, 1, 0, 0] body), .inBlock 0, .code (sub [1, 1] body)]
def L0 (l : Option Addr) (ln : Nat) (lc : Nat) (s5 : Option Addr) (s5n : Nat) (s5c : Nat) (s6 : Int) (s7 : Int) (H : Heap) (R : Ending → Heap → Prop) : Prop :=
  GoL Try.prog 10 43 L0t [0, 5, 6, 7] [(.slice l ln lc), (.slice s5 s5n s5c), (.int .i64 s6), (.int .i64 s7)] H R
noncomputable def L1t : List Item := [.code (sub [1, 0, 1, 0, 0, 1, 1, 1] body), .inLoop (sub [1, 0, 1, 0, 0] body), .inBlock 0, .code (sub [1, 1] body)]
def L1 (l : Option Addr) (ln : Nat) (lc : Nat) (s5 : Option Addr) (s5n : Nat) (s5c : Nat) (s6 : Int) (s7 : Int) (H : Heap) (R : Ending → Heap → Prop) : Prop :=
  GoL Try.prog 10 43 L1t [0, 5, 6, 7] [(.slice l ln lc), (.slice s5 s5n s5c), (.int .i64 s6), (.int .i64 s7)] H R
def L0n (l : Option Addr) (ln : Nat) (lc : Nat) (s5 : Option Addr) (s5n : Nat) (s5c : Nat) (s6 : Int) (s7 : Int) (H : Heap) (R : Ending → Heap → Prop) : Prop :=
  iteB (decide (s7 < s6)) (
    idxD s5 s5n s7 fun a =>
    ldInt H (Addr.add a (Int.toNat s7 * 3)) .i64 fun n =>
    ldStr H (Addr.add (Addr.add a (Int.toNat s7 * 3)) 1) fun s =>
    ldStr H (Addr.add (Addr.add a (Int.toNat s7 * 3)) 2) fun s1 =>
    newD H (.cells ⟨[(.int .i64 (0 : Int)), (.string (ByteArray.mk #[])), (.string (ByteArray.mk #[]))]⟩ 27) fun r H1 =>
    st1 H1 ⟨r, 0, none⟩ (.int .i64 n) fun H2 =>
    st1 H2 ⟨r, 1, none⟩ (.string s) fun H3 =>
    st1 H3 ⟨r, 2, none⟩ (.string s1) fun H4 =>
    ldInt H4 ⟨r, 0, none⟩ .i64 fun n1 =>
    iteB (decide (n1 < (0 : Int))) (
      R (.returned (.bool false)) H4) <|
    ldInt H4 ⟨r, 0, none⟩ .i64 fun n2 =>
    iteB (decide (n2 > (2 : Int))) (
      R (.returned (.bool false)) H4) <|
    ldStr H4 ⟨r, 1, none⟩ fun s2 =>
    callD Try.prog 11 [(.string s2)] H4 (panK R) fun v H5 =>
    tBool v fun b =>
    iteB (!b) (
      R (.returned (.bool false)) H5) <|
    ldStr H5 ⟨r, 2, none⟩ fun s3 =>
    callD Try.prog 11 [(.string s3)] H5 (panK R) fun v1 H6 =>
    tBool v1 fun b1 =>
    iteB (!b1) (
      R (.returned (.bool false)) H6) <|
    ldStr H6 ⟨r, 1, none⟩ fun s4 =>
    ldStr H6 ⟨r, 2, none⟩ fun s8 =>
    callD Try.prog 31 [(.string s4), (.string s8)] H6 (panK R) fun v2 H7 =>
    tBool v2 fun b2 =>
    iteB (!b2) (
      R (.returned (.bool false)) H7) <|
    L1 l ln lc s5 s5n s5c s6 s7 H7 R) <|
  R (.returned (.bool (decide (((ln : Nat) : Int) ≤ (12 : Int))))) H
theorem L0_step {l : Option Addr} {ln : Nat} {lc : Nat} {s5 : Option Addr} {s5n : Nat} {s5c : Nat} {s6 : Int} {s7 : Int} {H : Heap} {R : Ending → Heap → Prop} (h : L0n l ln lc s5 s5n s5c s6 s7 H R) : L0 l ln lc s5 s5n s5c s6 s7 H R :=
  goL_of_den (an := an) (fuel := 100000) (X := L0n l ln lc s5 s5n s5c s6 s7 H R) mixed fn (by kernel_rfl) (fun ρ0 => by kernel_rfl) h
def L1n (l : Option Addr) (ln : Nat) (lc : Nat) (s5 : Option Addr) (s5n : Nat) (s5c : Nat) (s6 : Int) (s7 : Int) (H : Heap) (R : Ending → Heap → Prop) : Prop :=
  L0 l ln lc s5 s5n s5c s6 (IntKind.wrap .i64 (s7 + (1 : Int))) H R
theorem L1_step {l : Option Addr} {ln : Nat} {lc : Nat} {s5 : Option Addr} {s5n : Nat} {s5c : Nat} {s6 : Int} {s7 : Int} {H : Heap} {R : Ending → Heap → Prop} (h : L1n l ln lc s5 s5n s5c s6 s7 H R) : L1 l ln lc s5 s5n s5c s6 s7 H R :=
  goL_of_den (an := an) (fuel := 100000) (X := L1n l ln lc s5 s5n s5c s6 s7 H R) mixed fn (by kernel_rfl) (fun ρ0 => by kernel_rfl) h
def go (l : Option Addr) (ln : Nat) (lc : Nat) (H : Heap) (R : Ending → Heap → Prop) : Prop :=
  L0 l ln lc l ln lc ((ln : Nat) : Int) (0 : Int) H R
theorem calls {l : Option Addr} {ln : Nat} {lc : Nat} {H : Heap} {R : Ending → Heap → Prop} (h : go l ln lc H R) : CallsH Try.prog 10 ⟨[(.slice l ln lc)]⟩ H R :=
  callsH_of_den (an := an) (fuel := 100000) (X := go l ln lc H R) (c := body) mixed fn (by kernel_rfl) (by kernel_rfl) (by kernel_rfl) ok (by kernel_rfl) h
end F10
/-! ### 11 "pub-stadtholder/laws.authKey" -/
namespace F11
def an : Ann := { kinds := [], taus := [], pairs := [], lab := [] }
noncomputable def body : Code := (Try.f11.body).getD .skip
theorem fn : Try.prog.funcs[11]? = some Try.f11 := by kernel_rfl
theorem ok : codeOk an 6 body = true := by kernel_rfl
def go (s : ByteArray) (H : Heap) (R : Ending → Heap → Prop) : Prop :=
  R (.returned (.bool (decide (((ByteArray.size s : Nat) : Int) ≤ (64 : Int))))) H
theorem calls {s : ByteArray} {H : Heap} {R : Ending → Heap → Prop} (h : go s H R) : CallsH Try.prog 11 ⟨[(.string s)]⟩ H R :=
  callsH_of_den (an := an) (fuel := 100000) (X := go s H R) (c := body) mixed fn (by kernel_rfl) (by kernel_rfl) (by kernel_rfl) ok (by kernel_rfl) h
end F11
/-! ### 12 "pub-stadtholder/impl.Permits" -/
namespace F12
def an : Ann := { kinds := [(8002, .loud), (8004, .loud)], taus := [], pairs := [], lab := [(40000004, [0, 1, 2, 3, 9, 10]), (10000009, [1, 2, 3, 9])] }
noncomputable def body : Code := (Try.f12.body).getD .skip
theorem fn : Try.prog.funcs[12]? = some Try.f12 := by kernel_rfl
theorem ok : codeOk an 39 body = true := by kernel_rfl
noncomputable def L0t : List Item := [.code (sub [1, 1, 0, 1, 0, 0] body), .inLoop (sub [1, 1, 0, 1, 0, 0] body), .inBlock 0, .code (sub [1, 1, 1] body)]
def L0 (perms : Option Addr) (permsn : Nat) (permsc : Nat) (key : ByteArray) (xend : ByteArray) (kind : Int) (l : Option Addr) (ln : Nat) (lc : Nat) (i : Int) (H : Heap) (R : Ending → Heap → Prop) : Prop :=
  GoL Try.prog 12 39 L0t [0, 1, 2, 3, 9, 10] [(.slice perms permsn permsc), (.string key), (.string xend), (.int .i64 kind), (.slice l ln lc), (.int .i64 i)] H R
noncomputable def L1t : List Item := [.code (sub [1, 1, 1, 1] body)]
def L1 (key : ByteArray) (xend : ByteArray) (kind : Int) (l : Option Addr) (ln : Nat) (lc : Nat) (H : Heap) (R : Ending → Heap → Prop) : Prop :=
  GoL Try.prog 12 39 L1t [1, 2, 3, 9] [(.string key), (.string xend), (.int .i64 kind), (.slice l ln lc)] H R
def L0n (perms : Option Addr) (permsn : Nat) (permsc : Nat) (key : ByteArray) (xend : ByteArray) (kind : Int) (l : Option Addr) (ln : Nat) (lc : Nat) (i : Int) (H : Heap) (R : Ending → Heap → Prop) : Prop :=
  iteB (decide (i < ((permsn : Nat) : Int))) (
    idxD perms permsn i fun a =>
    ldInt H (Addr.add a (Int.toNat i * 3)) .i64 fun n =>
    ldStr H (Addr.add (Addr.add a (Int.toNat i * 3)) 1) fun s =>
    ldStr H (Addr.add (Addr.add a (Int.toNat i * 3)) 2) fun s1 =>
    callD Try.prog 32 [(.agg ⟨[(.int .i64 n), (.string s), (.string s1)]⟩)] H (panK R) fun v H1 =>
    tPtr v fun p =>
    newD H1 (.cells ⟨[(.pointer p)]⟩ 75) fun r H2 =>
    apD H2 1 8 [(.pointer none)] 75 l ln lc (some ⟨r, 0, none⟩) 1 fun q qn qc H3 =>
    L0 perms permsn permsc key xend kind q qn qc (IntKind.wrap .i64 (i + (1 : Int))) H3 R) <|
  iteB (kind != (0 : Int)) (
    iteB (kind != (1 : Int)) (
      R (.returned (.bool false)) H) <|
    L1 key xend kind l ln lc H R) <|
  L1 key xend kind l ln lc H R
theorem L0_step {perms : Option Addr} {permsn : Nat} {permsc : Nat} {key : ByteArray} {xend : ByteArray} {kind : Int} {l : Option Addr} {ln : Nat} {lc : Nat} {i : Int} {H : Heap} {R : Ending → Heap → Prop} (h : L0n perms permsn permsc key xend kind l ln lc i H R) : L0 perms permsn permsc key xend kind l ln lc i H R :=
  goL_of_den (an := an) (fuel := 100000) (X := L0n perms permsn permsc key xend kind l ln lc i H R) mixed fn (by kernel_rfl) (fun ρ0 => by kernel_rfl) h
def L1n (key : ByteArray) (xend : ByteArray) (kind : Int) (l : Option Addr) (ln : Nat) (lc : Nat) (H : Heap) (R : Ending → Heap → Prop) : Prop :=
  sbD H 5 key fun r c H1 =>
  sbD H1 5 xend fun r1 c1 H2 =>
  callD Try.prog 33 [(.slice l ln lc), (.slice (some ⟨r, 0, none⟩) (ByteArray.size key) c), (.slice (some ⟨r1, 0, none⟩) (ByteArray.size xend) c1), (.int .i32 (IntKind.wrap .i32 kind))] H2 (panK R) fun v H3 =>
  tBool v fun b =>
  R (.returned (.bool b)) H3
theorem L1_step {key : ByteArray} {xend : ByteArray} {kind : Int} {l : Option Addr} {ln : Nat} {lc : Nat} {H : Heap} {R : Ending → Heap → Prop} (h : L1n key xend kind l ln lc H R) : L1 key xend kind l ln lc H R :=
  goL_of_den (an := an) (fuel := 100000) (X := L1n key xend kind l ln lc H R) mixed fn (by kernel_rfl) (fun ρ0 => by kernel_rfl) h
def go (perms : Option Addr) (permsn : Nat) (permsc : Nat) (key : ByteArray) (xend : ByteArray) (kind : Int) (H : Heap) (R : Ending → Heap → Prop) : Prop :=
  L0 perms permsn permsc key xend kind none 0 0 (0 : Int) H R
theorem calls {perms : Option Addr} {permsn : Nat} {permsc : Nat} {key : ByteArray} {xend : ByteArray} {kind : Int} {H : Heap} {R : Ending → Heap → Prop} (h : go perms permsn permsc key xend kind H R) : CallsH Try.prog 12 ⟨[(.slice perms permsn permsc), (.string key), (.string xend), (.int .i64 kind)]⟩ H R :=
  callsH_of_den (an := an) (fuel := 100000) (X := go perms permsn permsc key xend kind H R) (c := body) mixed fn (by kernel_rfl) (by kernel_rfl) (by kernel_rfl) ok (by kernel_rfl) h
end F12
/-! ### 13 "pub-stadtholder/spec.PermAllows" -/
namespace F13
def an : Ann := { kinds := [], taus := [], pairs := [], lab := [] }
noncomputable def body : Code := (Try.f13.body).getD .skip
theorem fn : Try.prog.funcs[13]? = some Try.f13 := by kernel_rfl
theorem ok : codeOk an 14 body = true := by kernel_rfl
def go (p_0 : Int) (p_1 : ByteArray) (p_2 : ByteArray) (kind : Int) (H : Heap) (R : Ending → Heap → Prop) : Prop :=
  newD H (.cells ⟨[(.int .i64 p_0), (.string p_1), (.string p_2)]⟩ 27) fun r H1 =>
  ldInt H1 ⟨r, 0, none⟩ .i64 fun n =>
  iteB (n == kind) (
    R (.returned (.bool true)) H1) <|
  ldInt H1 ⟨r, 0, none⟩ .i64 fun n1 =>
  R (.returned (.bool (n1 == (2 : Int)))) H1
theorem calls {p_0 : Int} {p_1 : ByteArray} {p_2 : ByteArray} {kind : Int} {H : Heap} {R : Ending → Heap → Prop} (h : go p_0 p_1 p_2 kind H R) : CallsH Try.prog 13 ⟨[(.agg ⟨[(.int .i64 p_0), (.string p_1), (.string p_2)]⟩), (.int .i64 kind)]⟩ H R :=
  callsH_of_den (an := an) (fuel := 100000) (X := go p_0 p_1 p_2 kind H R) (c := body) mixed fn (by kernel_rfl) (by kernel_rfl) (by kernel_rfl) ok (by kernel_rfl) h
end F13
/-! ### 30 "pub-stadtholder/laws.zzFits3" -/
namespace F30
def an : Ann := { kinds := [], taus := [], pairs := [], lab := [] }
noncomputable def body : Code := (Try.f30.body).getD .skip
theorem fn : Try.prog.funcs[30]? = some Try.f30 := by kernel_rfl
theorem ok : codeOk an 11 body = true := by kernel_rfl
def go (x_0 : Int) (x_1 : ByteArray) (x_2 : ByteArray) (H : Heap) (R : Ending → Heap → Prop) : Prop :=
  newD H (.cells ⟨[(.int .i64 x_0), (.string x_1), (.string x_2)]⟩ 27) fun r H1 =>
  ldStr H1 ⟨r, 1, none⟩ fun s =>
  iteB (decide (((ByteArray.size s : Nat) : Int) > (2147483647 : Int))) (
    R (.returned (.bool false)) H1) <|
  ldStr H1 ⟨r, 2, none⟩ fun s1 =>
  iteB (decide (((ByteArray.size s1 : Nat) : Int) > (2147483647 : Int))) (
    R (.returned (.bool false)) H1) <|
  R (.returned (.bool true)) H1
theorem calls {x_0 : Int} {x_1 : ByteArray} {x_2 : ByteArray} {H : Heap} {R : Ending → Heap → Prop} (h : go x_0 x_1 x_2 H R) : CallsH Try.prog 30 ⟨[(.agg ⟨[(.int .i64 x_0), (.string x_1), (.string x_2)]⟩)]⟩ H R :=
  callsH_of_den (an := an) (fuel := 100000) (X := go x_0 x_1 x_2 H R) (c := body) mixed fn (by kernel_rfl) (by kernel_rfl) (by kernel_rfl) ok (by kernel_rfl) h
end F30
/-! ### 31 "pub-stadtholder/spec.ValidRange" -/
namespace F31
def an : Ann := { kinds := [], taus := [], pairs := [], lab := [] }
noncomputable def body : Code := (Try.f31.body).getD .skip
theorem fn : Try.prog.funcs[31]? = some Try.f31 := by kernel_rfl
theorem ok : codeOk an 20 body = true := by kernel_rfl
def go (key : ByteArray) (xend : ByteArray) (H : Heap) (R : Ending → Heap → Prop) : Prop :=
  iteB (!eqS key (ByteArray.mk #[])) (
    iteB (eqS xend (ByteArray.mk #[])) (
      R (.returned (.bool true)) H) <|
    iteB (eqS xend (ByteArray.mk #[0])) (
      R (.returned (.bool true)) H) <|
    R (.returned (.bool (ltS key xend))) H) <|
  R (.returned (.bool false)) H
theorem calls {key : ByteArray} {xend : ByteArray} {H : Heap} {R : Ending → Heap → Prop} (h : go key xend H R) : CallsH Try.prog 31 ⟨[(.string key), (.string xend)]⟩ H R :=
  callsH_of_den (an := an) (fuel := 100000) (X := go key xend H R) (c := body) mixed fn (by kernel_rfl) (by kernel_rfl) (by kernel_rfl) ok (by kernel_rfl) h
end F31
/-! ### 32 "pub-stadtholder/impl.permIn" -/
namespace F32
def an : Ann := { kinds := [(1002, .grow), (1005, .grow), (1008, .grow), (1010, .grow)], taus := [(1, [[0, 3, 6, 1, 4, 7, 2, 5, 8, 9, 10, 11], [0, 3, 6, 1, 4, 7, 2, 8, 5, 9, 10, 11], [0, 3, 6, 1, 4, 7, 8, 2, 5, 9, 10, 11], [0, 3, 6, 1, 4, 7, 5, 2, 8, 9, 10, 11], [0, 3, 6, 1, 4, 7, 5, 8, 2, 9, 10, 11], [0, 3, 6, 1, 4, 7, 8, 5, 2, 9, 10, 11]])], pairs := [(1, [(2, 5), (2, 8), (5, 8)])], lab := [] }
noncomputable def body : Code := (Try.f32.body).getD .skip
theorem fn : Try.prog.funcs[32]? = some Try.f32 := by kernel_rfl
theorem ok : codeOk an 14 body = true := by kernel_rfl
def go (p_0 : Int) (p_1 : ByteArray) (p_2 : ByteArray) (H : Heap) (R : Ending → Heap → Prop) : Prop :=
  newD H (.cells ⟨[(.int .i64 p_0), (.string p_1), (.string p_2)]⟩ 27) fun r H1 =>
  (
    ldInt H1 ⟨r, 0, none⟩ .i64 fun n =>
    ldStr H1 ⟨r, 1, none⟩ fun s =>
    ldStr H1 ⟨r, 2, none⟩ fun s1 =>
    callD Try.prog 58 [(.int .i64 n)] H1 nope fun v H2 =>
    tInt v .i32 fun n1 =>
    andD (ExtH H1 H2) <|
    sbD H2 5 s fun r1 c H3 =>
    sbD H3 5 s1 fun r2 c1 H4 =>
    newD H4 (.cells ⟨[(.int .i32 n1), (.slice (some ⟨r1, 0, none⟩) (ByteArray.size s) c), (.slice (some ⟨r2, 0, none⟩) (ByteArray.size s1) c1)]⟩ 121) fun r3 H5 =>
    R (.returned (.pointer (some ⟨r3, 0, none⟩))) H5) ∧
  (
    ldInt H1 ⟨r, 0, none⟩ .i64 fun n2 =>
    ldStr H1 ⟨r, 1, none⟩ fun s2 =>
    ldStr H1 ⟨r, 2, none⟩ fun s3 =>
    callD Try.prog 58 [(.int .i64 n2)] H1 nope fun v1 H6 =>
    tInt v1 .i32 fun n3 =>
    andD (ExtH H1 H6) <|
    sbD H6 5 s3 fun r4 c2 H7 =>
    sbD H7 5 s2 fun r5 c3 H8 =>
    newD H8 (.cells ⟨[(.int .i32 n3), (.slice (some ⟨r5, 0, none⟩) (ByteArray.size s2) c3), (.slice (some ⟨r4, 0, none⟩) (ByteArray.size s3) c2)]⟩ 121) fun r6 H9 =>
    R (.returned (.pointer (some ⟨r6, 0, none⟩))) H9) ∧
  (
    ldInt H1 ⟨r, 0, none⟩ .i64 fun n4 =>
    ldStr H1 ⟨r, 1, none⟩ fun s4 =>
    ldStr H1 ⟨r, 2, none⟩ fun s5 =>
    sbD H1 5 s5 fun r7 c4 H10 =>
    callD Try.prog 58 [(.int .i64 n4)] H10 nope fun v2 H11 =>
    tInt v2 .i32 fun n5 =>
    andD (ExtH H10 H11) <|
    sbD H11 5 s4 fun r8 c5 H12 =>
    newD H12 (.cells ⟨[(.int .i32 n5), (.slice (some ⟨r8, 0, none⟩) (ByteArray.size s4) c5), (.slice (some ⟨r7, 0, none⟩) (ByteArray.size s5) c4)]⟩ 121) fun r9 H13 =>
    R (.returned (.pointer (some ⟨r9, 0, none⟩))) H13) ∧
  (
    ldInt H1 ⟨r, 0, none⟩ .i64 fun n6 =>
    ldStr H1 ⟨r, 1, none⟩ fun s6 =>
    ldStr H1 ⟨r, 2, none⟩ fun s7 =>
    sbD H1 5 s6 fun r10 c6 H14 =>
    callD Try.prog 58 [(.int .i64 n6)] H14 nope fun v3 H15 =>
    tInt v3 .i32 fun n7 =>
    andD (ExtH H14 H15) <|
    sbD H15 5 s7 fun r11 c7 H16 =>
    newD H16 (.cells ⟨[(.int .i32 n7), (.slice (some ⟨r10, 0, none⟩) (ByteArray.size s6) c6), (.slice (some ⟨r11, 0, none⟩) (ByteArray.size s7) c7)]⟩ 121) fun r12 H17 =>
    R (.returned (.pointer (some ⟨r12, 0, none⟩))) H17) ∧
  (
    ldInt H1 ⟨r, 0, none⟩ .i64 fun n8 =>
    ldStr H1 ⟨r, 1, none⟩ fun s8 =>
    ldStr H1 ⟨r, 2, none⟩ fun s9 =>
    sbD H1 5 s8 fun r13 c8 H18 =>
    sbD H18 5 s9 fun r14 c9 H19 =>
    callD Try.prog 58 [(.int .i64 n8)] H19 nope fun v4 H20 =>
    tInt v4 .i32 fun n9 =>
    andD (ExtH H19 H20) <|
    newD H20 (.cells ⟨[(.int .i32 n9), (.slice (some ⟨r13, 0, none⟩) (ByteArray.size s8) c8), (.slice (some ⟨r14, 0, none⟩) (ByteArray.size s9) c9)]⟩ 121) fun r15 H21 =>
    R (.returned (.pointer (some ⟨r15, 0, none⟩))) H21) ∧
  (
    ldInt H1 ⟨r, 0, none⟩ .i64 fun n10 =>
    ldStr H1 ⟨r, 1, none⟩ fun s10 =>
    ldStr H1 ⟨r, 2, none⟩ fun s11 =>
    sbD H1 5 s11 fun r16 c10 H22 =>
    sbD H22 5 s10 fun r17 c11 H23 =>
    callD Try.prog 58 [(.int .i64 n10)] H23 nope fun v5 H24 =>
    tInt v5 .i32 fun n11 =>
    andD (ExtH H23 H24) <|
    newD H24 (.cells ⟨[(.int .i32 n11), (.slice (some ⟨r17, 0, none⟩) (ByteArray.size s10) c11), (.slice (some ⟨r16, 0, none⟩) (ByteArray.size s11) c10)]⟩ 121) fun r18 H25 =>
    R (.returned (.pointer (some ⟨r18, 0, none⟩))) H25)
theorem calls {p_0 : Int} {p_1 : ByteArray} {p_2 : ByteArray} {H : Heap} {R : Ending → Heap → Prop} (h : go p_0 p_1 p_2 H R) : CallsH Try.prog 32 ⟨[(.agg ⟨[(.int .i64 p_0), (.string p_1), (.string p_2)]⟩)]⟩ H R :=
  callsH_of_den (an := an) (fuel := 100000) (X := go p_0 p_1 p_2 H R) (c := body) mixed fn (by kernel_rfl) (by kernel_rfl) (by kernel_rfl) ok (by kernel_rfl) h
end F32
/-! ### 33 "pub-stadtholder/pub/etcdserver/auth.ZzPermits" -/
namespace F33
def an : Ann := { kinds := [], taus := [], pairs := [], lab := [] }
noncomputable def body : Code := (Try.f33.body).getD .skip
theorem fn : Try.prog.funcs[33]? = some Try.f33 := by kernel_rfl
theorem ok : codeOk an 26 body = true := by kernel_rfl
def go (perms : Option Addr) (permsn : Nat) (permsc : Nat) (key : Option Addr) (keyn : Nat) (keyc : Nat) (rangeEnd : Option Addr) (rangeEndn : Nat) (rangeEndc : Nat) (permtyp : Int) (H : Heap) (R : Ending → Heap → Prop) : Prop :=
  callD Try.prog 59 [(.iface 125 (.agg ⟨[(.slice perms permsn permsc)]⟩)), (.string (ByteArray.mk #[117]))] H (panK R) fun v H1 =>
  tPtr v fun p =>
  iteB (((rangeEndn : Nat) : Int) == (0 : Int)) (
    callD Try.prog 60 [(.pointer none), (.pointer p), (.slice key keyn keyc), (.int .i32 permtyp)] H1 (panK R) fun v1 H2 =>
    tBool v1 fun b =>
    R (.returned (.bool b)) H2) <|
  callD Try.prog 61 [(.pointer none), (.pointer p), (.slice key keyn keyc), (.slice rangeEnd rangeEndn rangeEndc), (.int .i32 permtyp)] H1 (panK R) fun v2 H3 =>
  tBool v2 fun b1 =>
  R (.returned (.bool b1)) H3
theorem calls {perms : Option Addr} {permsn : Nat} {permsc : Nat} {key : Option Addr} {keyn : Nat} {keyc : Nat} {rangeEnd : Option Addr} {rangeEndn : Nat} {rangeEndc : Nat} {permtyp : Int} {H : Heap} {R : Ending → Heap → Prop} (h : go perms permsn permsc key keyn keyc rangeEnd rangeEndn rangeEndc permtyp H R) : CallsH Try.prog 33 ⟨[(.slice perms permsn permsc), (.slice key keyn keyc), (.slice rangeEnd rangeEndn rangeEndc), (.int .i32 permtyp)]⟩ H R :=
  callsH_of_den (an := an) (fuel := 100000) (X := go perms permsn permsc key keyn keyc rangeEnd rangeEndn rangeEndc permtyp H R) (c := body) mixed fn (by kernel_rfl) (by kernel_rfl) (by kernel_rfl) ok (by kernel_rfl) h
end F33
/-! ### 58 "pub-stadtholder/impl.order" -/
namespace F58
def an : Ann := { kinds := [], taus := [], pairs := [], lab := [] }
noncomputable def body : Code := (Try.f58.body).getD .skip
theorem fn : Try.prog.funcs[58]? = some Try.f58 := by kernel_rfl
theorem ok : codeOk an 11 body = true := by kernel_rfl
def go (n : Int) (H : Heap) (R : Ending → Heap → Prop) : Prop :=
  iteB (decide (n < (-2147483648 : Int))) (
    R (.returned (.int .i32 (-1 : Int))) H) <|
  iteB (decide (n > (2147483647 : Int))) (
    R (.returned (.int .i32 (-1 : Int))) H) <|
  R (.returned (.int .i32 (IntKind.wrap .i32 n))) H
theorem calls {n : Int} {H : Heap} {R : Ending → Heap → Prop} (h : go n H R) : CallsH Try.prog 58 ⟨[(.int .i64 n)]⟩ H R :=
  callsH_of_den (an := an) (fuel := 100000) (X := go n H R) (c := body) mixed fn (by kernel_rfl) (by kernel_rfl) (by kernel_rfl) ok (by kernel_rfl) h
end F58
/-! ### 59 "pub-stadtholder/pub/etcdserver/auth.getMergedPerms" -/
namespace F59
def an : Ann := { kinds := [], taus := [], pairs := [], lab := [(40000008, [0, 6, 7, 25, 26, 27]), (80000013, [0, 6, 7, 25, 26, 27, 39, 40, 41]), (110000018, [0, 6, 7, 12, 13, 25, 26, 27, 39, 40, 41]), (100000019, [0, 6, 7, 12, 13, 14, 25, 26, 27, 39, 40, 41]), (100000022, [0, 6, 7, 12, 13, 25, 26, 27, 39, 40, 41]), (80000030, [0, 6, 7, 25, 26, 27, 39, 40, 41]), (40000031, [0, 6, 7, 25, 26, 27])] }
noncomputable def body : Code := (Try.f59.body).getD .skip
theorem fn : Try.prog.funcs[59]? = some Try.f59 := by kernel_rfl
theorem ok : codeOk an 117 body = true := by kernel_rfl
noncomputable def L0t : List Item := [.code (sub [1, 1, 1, 1, 1, 0, 1, 0, 0] body), .inLoop (sub [1, 1, 1, 1, 1, 0, 1, 0, 0] body), .inBlock 0, .code (sub [1, 1, 1, 1, 1, 1] body)]
def L0 (s0 : IV) (s6 : IV) (s7 : IV) (s25 : Option Addr) (s25n : Nat) (s25c : Nat) (s26 : Int) (s27 : Int) (H : Heap) (R : Ending → Heap → Prop) : Prop :=
  GoL Try.prog 59 117 L0t [0, 6, 7, 25, 26, 27] [(IV.v s0), (IV.v s6), (IV.v s7), (.slice s25 s25n s25c), (.int .i64 s26), (.int .i64 s27)] H R
noncomputable def L1t : List Item := [.code (sub [1, 1, 1, 1, 1, 0, 1, 0, 0, 1, 1, 0, 0, 1, 1, 1, 1, 0, 0] body), .inLoop (sub [1, 1, 1, 1, 1, 0, 1, 0, 0, 1, 1, 0, 0, 1, 1, 1, 1, 0, 0] body), .inBlock 2, .inBlock 1, .code (sub [1, 1, 1, 1, 1, 0, 1, 0, 0, 1, 1, 1] body), .inLoop (sub [1, 1, 1, 1, 1, 0, 1, 0, 0] body), .inBlock 0, .code (sub [1, 1, 1, 1, 1, 1] body)]
def L1 (s0 : IV) (s6 : IV) (s7 : IV) (s25 : Option Addr) (s25n : Nat) (s25c : Nat) (s26 : Int) (s27 : Int) (s39 : Option Addr) (s39n : Nat) (s39c : Nat) (s40 : Int) (s41 : Int) (H : Heap) (R : Ending → Heap → Prop) : Prop :=
  GoL Try.prog 59 117 L1t [0, 6, 7, 25, 26, 27, 39, 40, 41] [(IV.v s0), (IV.v s6), (IV.v s7), (.slice s25 s25n s25c), (.int .i64 s26), (.int .i64 s27), (.slice s39 s39n s39c), (.int .i64 s40), (.int .i64 s41)] H R
noncomputable def L2t : List Item := [.code (sub [1, 1, 1, 1, 1, 0, 1, 0, 0, 1, 1, 0, 0, 1, 1, 1, 1, 0, 0, 1, 1, 0, 0, 1, 1, 1, 0, 1, 0] body), .code (sub [1, 1, 1, 1, 1, 0, 1, 0, 0, 1, 1, 0, 0, 1, 1, 1, 1, 0, 0, 1, 1, 0, 0, 1, 1, 1, 1] body), .inBlock 3, .code (sub [1, 1, 1, 1, 1, 0, 1, 0, 0, 1, 1, 0, 0, 1, 1, 1, 1, 0, 0, 1, 1, 1] body), .inLoop (sub [1, 1, 1, 1, 1, 0, 1, 0, 0, 1, 1, 0, 0, 1, 1, 1, 1, 0, 0] body), .inBlock 2, .inBlock 1, .code (sub [1, 1, 1, 1, 1, 0, 1, 0, 0, 1, 1, 1] body), .inLoop (sub [1, 1, 1, 1, 1, 0, 1, 0, 0] body), .inBlock 0, .code (sub [1, 1, 1, 1, 1, 1] body)]
def L2 (s0 : IV) (s6 : IV) (s7 : IV) (s12 : Option Addr) (s13 : Nat) (s25 : Option Addr) (s25n : Nat) (s25c : Nat) (s26 : Int) (s27 : Int) (s39 : Option Addr) (s39n : Nat) (s39c : Nat) (s40 : Int) (s41 : Int) (H : Heap) (R : Ending → Heap → Prop) : Prop :=
  GoL Try.prog 59 117 L2t [0, 6, 7, 12, 13, 25, 26, 27, 39, 40, 41] [(IV.v s0), (IV.v s6), (IV.v s7), (.pointer s12), (.pointer (some ⟨s13, 0, none⟩)), (.slice s25 s25n s25c), (.int .i64 s26), (.int .i64 s27), (.slice s39 s39n s39c), (.int .i64 s40), (.int .i64 s41)] H R
noncomputable def L3t : List Item := [.code (sub [1, 1, 1, 1, 1, 0, 1, 0, 0, 1, 1, 0, 0, 1, 1, 1, 1, 0, 0, 1, 1, 0, 0, 1, 1, 1, 1] body), .inBlock 3, .code (sub [1, 1, 1, 1, 1, 0, 1, 0, 0, 1, 1, 0, 0, 1, 1, 1, 1, 0, 0, 1, 1, 1] body), .inLoop (sub [1, 1, 1, 1, 1, 0, 1, 0, 0, 1, 1, 0, 0, 1, 1, 1, 1, 0, 0] body), .inBlock 2, .inBlock 1, .code (sub [1, 1, 1, 1, 1, 0, 1, 0, 0, 1, 1, 1] body), .inLoop (sub [1, 1, 1, 1, 1, 0, 1, 0, 0] body), .inBlock 0, .code (sub [1, 1, 1, 1, 1, 1] body)]
def L3 (s0 : IV) (s6 : IV) (s7 : IV) (s12 : Option Addr) (s13 : Nat) (s14 : Option Addr) (s14n : Nat) (s14c : Nat) (s25 : Option Addr) (s25n : Nat) (s25c : Nat) (s26 : Int) (s27 : Int) (s39 : Option Addr) (s39n : Nat) (s39c : Nat) (s40 : Int) (s41 : Int) (H : Heap) (R : Ending → Heap → Prop) : Prop :=
  GoL Try.prog 59 117 L3t [0, 6, 7, 12, 13, 14, 25, 26, 27, 39, 40, 41] [(IV.v s0), (IV.v s6), (IV.v s7), (.pointer s12), (.pointer (some ⟨s13, 0, none⟩)), (.slice s14 s14n s14c), (.slice s25 s25n s25c), (.int .i64 s26), (.int .i64 s27), (.slice s39 s39n s39c), (.int .i64 s40), (.int .i64 s41)] H R
noncomputable def L4t : List Item := [.code (sub [1, 1, 1, 1, 1, 0, 1, 0, 0, 1, 1, 0, 0, 1, 1, 1, 1, 0, 0, 1, 1, 0, 0, 1, 1, 1, 1, 1] body), .inBlock 3, .code (sub [1, 1, 1, 1, 1, 0, 1, 0, 0, 1, 1, 0, 0, 1, 1, 1, 1, 0, 0, 1, 1, 1] body), .inLoop (sub [1, 1, 1, 1, 1, 0, 1, 0, 0, 1, 1, 0, 0, 1, 1, 1, 1, 0, 0] body), .inBlock 2, .inBlock 1, .code (sub [1, 1, 1, 1, 1, 0, 1, 0, 0, 1, 1, 1] body), .inLoop (sub [1, 1, 1, 1, 1, 0, 1, 0, 0] body), .inBlock 0, .code (sub [1, 1, 1, 1, 1, 1] body)]
def L4 (s0 : IV) (s6 : IV) (s7 : IV) (s12 : Option Addr) (s13 : Nat) (s25 : Option Addr) (s25n : Nat) (s25c : Nat) (s26 : Int) (s27 : Int) (s39 : Option Addr) (s39n : Nat) (s39c : Nat) (s40 : Int) (s41 : Int) (H : Heap) (R : Ending → Heap → Prop) : Prop :=
  GoL Try.prog 59 117 L4t [0, 6, 7, 12, 13, 25, 26, 27, 39, 40, 41] [(IV.v s0), (IV.v s6), (IV.v s7), (.pointer s12), (.pointer (some ⟨s13, 0, none⟩)), (.slice s25 s25n s25c), (.int .i64 s26), (.int .i64 s27), (.slice s39 s39n s39c), (.int .i64 s40), (.int .i64 s41)] H R
noncomputable def L5t : List Item := [.code (sub [1, 1, 1, 1, 1, 0, 1, 0, 0, 1, 1, 0, 0, 1, 1, 1, 1, 0, 0, 1, 1, 1] body), .inLoop (sub [1, 1, 1, 1, 1, 0, 1, 0, 0, 1, 1, 0, 0, 1, 1, 1, 1, 0, 0] body), .inBlock 2, .inBlock 1, .code (sub [1, 1, 1, 1, 1, 0, 1, 0, 0, 1, 1, 1] body), .inLoop (sub [1, 1, 1, 1, 1, 0, 1, 0, 0] body), .inBlock 0, .code (sub [1, 1, 1, 1, 1, 1] body)]
def L5 (s0 : IV) (s6 : IV) (s7 : IV) (s25 : Option Addr) (s25n : Nat) (s25c : Nat) (s26 : Int) (s27 : Int) (s39 : Option Addr) (s39n : Nat) (s39c : Nat) (s40 : Int) (s41 : Int) (H : Heap) (R : Ending → Heap → Prop) : Prop :=
  GoL Try.prog 59 117 L5t [0, 6, 7, 25, 26, 27, 39, 40, 41] [(IV.v s0), (IV.v s6), (IV.v s7), (.slice s25 s25n s25c), (.int .i64 s26), (.int .i64 s27), (.slice s39 s39n s39c), (.int .i64 s40), (.int .i64 s41)] H R
noncomputable def L6t : List Item := [.code (sub [1, 1, 1, 1, 1, 0, 1, 0, 0, 1, 1, 1] body), .inLoop (sub [1, 1, 1, 1, 1, 0, 1, 0, 0] body), .inBlock 0, .code (sub [1, 1, 1, 1, 1, 1] body)]
def L6 (s0 : IV) (s6 : IV) (s7 : IV) (s25 : Option Addr) (s25n : Nat) (s25c : Nat) (s26 : Int) (s27 : Int) (H : Heap) (R : Ending → Heap → Prop) : Prop :=
  GoL Try.prog 59 117 L6t [0, 6, 7, 25, 26, 27] [(IV.v s0), (IV.v s6), (IV.v s7), (.slice s25 s25n s25c), (.int .i64 s26), (.int .i64 s27)] H R
def L0n (s0 : IV) (s6 : IV) (s7 : IV) (s25 : Option Addr) (s25n : Nat) (s25c : Nat) (s26 : Int) (s27 : Int) (H : Heap) (R : Ending → Heap → Prop) : Prop :=
  iteB (decide (s27 < s26)) (
    idxD s25 s25n s27 fun a =>
    ldStr H (Addr.add a (Int.toNat s27 * 1)) fun s =>
    callI Try.prog (IV.v s0) "UnsafeGetRole" [(.string s)] H (panK R) fun v H1 =>
    tPtr v fun p =>
    iteB (Option.isNone p) (
      L6 s0 s6 s7 s25 s25n s25c s26 s27 H1 R) <|
    nilD p fun a1 =>
    ldSl H1 (Addr.add a1 1) fun q qn qc =>
    L1 s0 s6 s7 s25 s25n s25c s26 s27 q qn qc ((qn : Nat) : Int) (0 : Int) H1 R) <|
  guardB (isCell (IV.v s6)) <|
  guardB (isCell (IV.v s7)) <|
  newD H (.cells ⟨[(IV.v s6), (IV.v s7)]⟩ 200) fun r H2 =>
  R (.returned (.pointer (some ⟨r, 0, none⟩))) H2
theorem L0_step {s0 : IV} {s6 : IV} {s7 : IV} {s25 : Option Addr} {s25n : Nat} {s25c : Nat} {s26 : Int} {s27 : Int} {H : Heap} {R : Ending → Heap → Prop} (h : L0n s0 s6 s7 s25 s25n s25c s26 s27 H R) : L0 s0 s6 s7 s25 s25n s25c s26 s27 H R :=
  goL_of_den (an := an) (fuel := 100000) (X := L0n s0 s6 s7 s25 s25n s25c s26 s27 H R) mixed fn (by kernel_rfl) (fun ρ0 => by kernel_rfl) h
def L1n (s0 : IV) (s6 : IV) (s7 : IV) (s25 : Option Addr) (s25n : Nat) (s25c : Nat) (s26 : Int) (s27 : Int) (s39 : Option Addr) (s39n : Nat) (s39c : Nat) (s40 : Int) (s41 : Int) (H : Heap) (R : Ending → Heap → Prop) : Prop :=
  iteB (decide (s41 < s40)) (
    idxD s39 s39n s41 fun a =>
    ldPtr H (Addr.add a (Int.toNat s41 * 1)) fun p =>
    newD H (.cells ⟨[.nilIface, .nilIface]⟩ 109) fun r H1 =>
    nilD p fun a1 =>
    ldSl H1 (Addr.add a1 2) fun q qn qc =>
    iteB (((qn : Nat) : Int) != (1 : Int)) (
      L2 s0 s6 s7 p r s25 s25n s25c s26 s27 s39 s39n s39c s40 s41 H1 R) <|
    nilD p fun a2 =>
    ldSl H1 (Addr.add a2 2) fun q1 q1n q1c =>
    idxD q1 q1n (0 : Int) fun a3 =>
    ldInt H1 (Addr.add a3 (Int.toNat (0 : Int) * 1)) .u8 fun n =>
    iteB (n != (0 : Int)) (
      L2 s0 s6 s7 p r s25 s25n s25c s26 s27 s39 s39n s39c s40 s41 H1 R) <|
    L3 s0 s6 s7 p r none 0 0 s25 s25n s25c s26 s27 s39 s39n s39c s40 s41 H1 R) <|
  L6 s0 s6 s7 s25 s25n s25c s26 s27 H R
theorem L1_step {s0 : IV} {s6 : IV} {s7 : IV} {s25 : Option Addr} {s25n : Nat} {s25c : Nat} {s26 : Int} {s27 : Int} {s39 : Option Addr} {s39n : Nat} {s39c : Nat} {s40 : Int} {s41 : Int} {H : Heap} {R : Ending → Heap → Prop} (h : L1n s0 s6 s7 s25 s25n s25c s26 s27 s39 s39n s39c s40 s41 H R) : L1 s0 s6 s7 s25 s25n s25c s26 s27 s39 s39n s39c s40 s41 H R :=
  goL_of_den (an := an) (fuel := 100000) (X := L1n s0 s6 s7 s25 s25n s25c s26 s27 s39 s39n s39c s40 s41 H R) mixed fn (by kernel_rfl) (fun ρ0 => by kernel_rfl) h
def L2n (s0 : IV) (s6 : IV) (s7 : IV) (s12 : Option Addr) (s13 : Nat) (s25 : Option Addr) (s25n : Nat) (s25c : Nat) (s26 : Int) (s27 : Int) (s39 : Option Addr) (s39n : Nat) (s39c : Nat) (s40 : Int) (s41 : Int) (H : Heap) (R : Ending → Heap → Prop) : Prop :=
  nilD s12 fun a =>
  ldSl H (Addr.add a 2) fun q qn qc =>
  L3 s0 s6 s7 s12 s13 q qn qc s25 s25n s25c s26 s27 s39 s39n s39c s40 s41 H R
theorem L2_step {s0 : IV} {s6 : IV} {s7 : IV} {s12 : Option Addr} {s13 : Nat} {s25 : Option Addr} {s25n : Nat} {s25c : Nat} {s26 : Int} {s27 : Int} {s39 : Option Addr} {s39n : Nat} {s39c : Nat} {s40 : Int} {s41 : Int} {H : Heap} {R : Ending → Heap → Prop} (h : L2n s0 s6 s7 s12 s13 s25 s25n s25c s26 s27 s39 s39n s39c s40 s41 H R) : L2 s0 s6 s7 s12 s13 s25 s25n s25c s26 s27 s39 s39n s39c s40 s41 H R :=
  goL_of_den (an := an) (fuel := 100000) (X := L2n s0 s6 s7 s12 s13 s25 s25n s25c s26 s27 s39 s39n s39c s40 s41 H R) mixed fn (by kernel_rfl) (fun ρ0 => by kernel_rfl) h
def L3n (s0 : IV) (s6 : IV) (s7 : IV) (s12 : Option Addr) (s13 : Nat) (s14 : Option Addr) (s14n : Nat) (s14c : Nat) (s25 : Option Addr) (s25n : Nat) (s25c : Nat) (s26 : Int) (s27 : Int) (s39 : Option Addr) (s39n : Nat) (s39c : Nat) (s40 : Int) (s41 : Int) (H : Heap) (R : Ending → Heap → Prop) : Prop :=
  nilD s12 fun a =>
  ldSl H (Addr.add a 2) fun q qn qc =>
  iteB (((qn : Nat) : Int) != (0 : Int)) (
    nilD s12 fun a1 =>
    ldSl H (Addr.add a1 1) fun q1 q1n q1c =>
    callD Try.prog 83 [(.slice q1 q1n q1c), (.slice s14 s14n s14c)] H (panK R) fun v H1 =>
    tAgg v fun l =>
    tCons l fun c l1 =>
    tIf c fun i =>
    tCons l1 fun c1 l2 =>
    tIf c1 fun i1 =>
    tNil l2 <|
    st1 H1 ⟨s13, 0, none⟩ (IV.v i) fun H2 =>
    st1 H2 ⟨s13, 1, none⟩ (IV.v i1) fun H3 =>
    L4 s0 s6 s7 s12 s13 s25 s25n s25c s26 s27 s39 s39n s39c s40 s41 H3 R) <|
  nilD s12 fun a2 =>
  ldSl H (Addr.add a2 1) fun q2 q2n q2c =>
  callD Try.prog 84 [(.slice q2 q2n q2c)] H (panK R) fun v1 H4 =>
  tAgg v1 fun l3 =>
  tCons l3 fun c2 l4 =>
  tIf c2 fun i2 =>
  tCons l4 fun c3 l5 =>
  tIf c3 fun i3 =>
  tNil l5 <|
  st1 H4 ⟨s13, 0, none⟩ (IV.v i2) fun H5 =>
  st1 H5 ⟨s13, 1, none⟩ (IV.v i3) fun H6 =>
  L4 s0 s6 s7 s12 s13 s25 s25n s25c s26 s27 s39 s39n s39c s40 s41 H6 R
theorem L3_step {s0 : IV} {s6 : IV} {s7 : IV} {s12 : Option Addr} {s13 : Nat} {s14 : Option Addr} {s14n : Nat} {s14c : Nat} {s25 : Option Addr} {s25n : Nat} {s25c : Nat} {s26 : Int} {s27 : Int} {s39 : Option Addr} {s39n : Nat} {s39c : Nat} {s40 : Int} {s41 : Int} {H : Heap} {R : Ending → Heap → Prop} (h : L3n s0 s6 s7 s12 s13 s14 s14n s14c s25 s25n s25c s26 s27 s39 s39n s39c s40 s41 H R) : L3 s0 s6 s7 s12 s13 s14 s14n s14c s25 s25n s25c s26 s27 s39 s39n s39c s40 s41 H R :=
  goL_of_den (an := an) (fuel := 100000) (X := L3n s0 s6 s7 s12 s13 s14 s14n s14c s25 s25n s25c s26 s27 s39 s39n s39c s40 s41 H R) mixed fn (by kernel_rfl) (fun ρ0 => by kernel_rfl) h
def L4n (s0 : IV) (s6 : IV) (s7 : IV) (s12 : Option Addr) (s13 : Nat) (s25 : Option Addr) (s25n : Nat) (s25c : Nat) (s26 : Int) (s27 : Int) (s39 : Option Addr) (s39n : Nat) (s39c : Nat) (s40 : Int) (s41 : Int) (H : Heap) (R : Ending → Heap → Prop) : Prop :=
  nilD s12 fun a =>
  ldInt H a .i32 fun n =>
  iteB (n == (2 : Int)) (
    ldIf H ⟨s13, 0, none⟩ fun i =>
    ldIf H ⟨s13, 1, none⟩ fun i1 =>
    callI Try.prog (IV.v s6) "Insert" [(.agg ⟨[(IV.v i), (IV.v i1)]⟩), (.iface 198 (.agg ⟨[]⟩))] H (panK R) fun v H1 =>
    tTup v fun l =>
    tNil l <|
    ldIf H1 ⟨s13, 0, none⟩ fun i2 =>
    ldIf H1 ⟨s13, 1, none⟩ fun i3 =>
    callI Try.prog (IV.v s7) "Insert" [(.agg ⟨[(IV.v i2), (IV.v i3)]⟩), (.iface 198 (.agg ⟨[]⟩))] H1 (panK R) fun v1 H2 =>
    tTup v1 fun l1 =>
    tNil l1 <|
    L5 s0 s6 s7 s25 s25n s25c s26 s27 s39 s39n s39c s40 s41 H2 R) <|
  iteB (n == (0 : Int)) (
    ldIf H ⟨s13, 0, none⟩ fun i4 =>
    ldIf H ⟨s13, 1, none⟩ fun i5 =>
    callI Try.prog (IV.v s6) "Insert" [(.agg ⟨[(IV.v i4), (IV.v i5)]⟩), (.iface 198 (.agg ⟨[]⟩))] H (panK R) fun v2 H3 =>
    tTup v2 fun l2 =>
    tNil l2 <|
    L5 s0 s6 s7 s25 s25n s25c s26 s27 s39 s39n s39c s40 s41 H3 R) <|
  iteB (n == (1 : Int)) (
    ldIf H ⟨s13, 0, none⟩ fun i6 =>
    ldIf H ⟨s13, 1, none⟩ fun i7 =>
    callI Try.prog (IV.v s7) "Insert" [(.agg ⟨[(IV.v i6), (IV.v i7)]⟩), (.iface 198 (.agg ⟨[]⟩))] H (panK R) fun v3 H4 =>
    tTup v3 fun l3 =>
    tNil l3 <|
    L5 s0 s6 s7 s25 s25n s25c s26 s27 s39 s39n s39c s40 s41 H4 R) <|
  L5 s0 s6 s7 s25 s25n s25c s26 s27 s39 s39n s39c s40 s41 H R
theorem L4_step {s0 : IV} {s6 : IV} {s7 : IV} {s12 : Option Addr} {s13 : Nat} {s25 : Option Addr} {s25n : Nat} {s25c : Nat} {s26 : Int} {s27 : Int} {s39 : Option Addr} {s39n : Nat} {s39c : Nat} {s40 : Int} {s41 : Int} {H : Heap} {R : Ending → Heap → Prop} (h : L4n s0 s6 s7 s12 s13 s25 s25n s25c s26 s27 s39 s39n s39c s40 s41 H R) : L4 s0 s6 s7 s12 s13 s25 s25n s25c s26 s27 s39 s39n s39c s40 s41 H R :=
  goL_of_den (an := an) (fuel := 100000) (X := L4n s0 s6 s7 s12 s13 s25 s25n s25c s26 s27 s39 s39n s39c s40 s41 H R) mixed fn (by kernel_rfl) (fun ρ0 => by kernel_rfl) h
def L5n (s0 : IV) (s6 : IV) (s7 : IV) (s25 : Option Addr) (s25n : Nat) (s25c : Nat) (s26 : Int) (s27 : Int) (s39 : Option Addr) (s39n : Nat) (s39c : Nat) (s40 : Int) (s41 : Int) (H : Heap) (R : Ending → Heap → Prop) : Prop :=
  L1 s0 s6 s7 s25 s25n s25c s26 s27 s39 s39n s39c s40 (IntKind.wrap .i64 (s41 + (1 : Int))) H R
theorem L5_step {s0 : IV} {s6 : IV} {s7 : IV} {s25 : Option Addr} {s25n : Nat} {s25c : Nat} {s26 : Int} {s27 : Int} {s39 : Option Addr} {s39n : Nat} {s39c : Nat} {s40 : Int} {s41 : Int} {H : Heap} {R : Ending → Heap → Prop} (h : L5n s0 s6 s7 s25 s25n s25c s26 s27 s39 s39n s39c s40 s41 H R) : L5 s0 s6 s7 s25 s25n s25c s26 s27 s39 s39n s39c s40 s41 H R :=
  goL_of_den (an := an) (fuel := 100000) (X := L5n s0 s6 s7 s25 s25n s25c s26 s27 s39 s39n s39c s40 s41 H R) mixed fn (by kernel_rfl) (fun ρ0 => by kernel_rfl) h
def L6n (s0 : IV) (s6 : IV) (s7 : IV) (s25 : Option Addr) (s25n : Nat) (s25c : Nat) (s26 : Int) (s27 : Int) (H : Heap) (R : Ending → Heap → Prop) : Prop :=
  L0 s0 s6 s7 s25 s25n s25c s26 (IntKind.wrap .i64 (s27 + (1 : Int))) H R
theorem L6_step {s0 : IV} {s6 : IV} {s7 : IV} {s25 : Option Addr} {s25n : Nat} {s25c : Nat} {s26 : Int} {s27 : Int} {H : Heap} {R : Ending → Heap → Prop} (h : L6n s0 s6 s7 s25 s25n s25c s26 s27 H R) : L6 s0 s6 s7 s25 s25n s25c s26 s27 H R :=
  goL_of_den (an := an) (fuel := 100000) (X := L6n s0 s6 s7 s25 s25n s25c s26 s27 H R) mixed fn (by kernel_rfl) (fun ρ0 => by kernel_rfl) h
def go (s0 : IV) (s1 : ByteArray) (H : Heap) (R : Ending → Heap → Prop) : Prop :=
  callI Try.prog (IV.v s0) "UnsafeGetUser" [(.string s1)] H (panK R) fun v H1 =>
  tPtr v fun p =>
  iteB (Option.isNone p) (
    R (.returned (.pointer none)) H1) <|
  callD Try.prog 39 [] H1 (panK R) fun v1 H2 =>
  tIf v1 fun i =>
  callD Try.prog 39 [] H2 (panK R) fun v2 H3 =>
  tIf v2 fun i1 =>
  nilD p fun a =>
  ldSl H3 (Addr.add a 2) fun q qn qc =>
  L0 s0 i i1 q qn qc ((qn : Nat) : Int) (0 : Int) H3 R
theorem calls {s0 : IV} {s1 : ByteArray} {H : Heap} {R : Ending → Heap → Prop} (h : go s0 s1 H R) : CallsH Try.prog 59 ⟨[(IV.v s0), (.string s1)]⟩ H R :=
  callsH_of_den (an := an) (fuel := 100000) (X := go s0 s1 H R) (c := body) mixed fn (by kernel_rfl) (by kernel_rfl) (by kernel_rfl) ok (by kernel_rfl) h
end F59
/-! ### 60 "pub-stadtholder/pub/etcdserver/auth.checkKeyPoint" -/
namespace F60
def an : Ann := { kinds := [], taus := [(5, [[0, 1, 2, 3, 4, 5, 6]]), (7, [[0, 1, 2, 3, 4, 5, 6]])], pairs := [], lab := [] }
noncomputable def body : Code := (Try.f60.body).getD .skip
theorem fn : Try.prog.funcs[60]? = some Try.f60 := by kernel_rfl
theorem ok : codeOk an 30 body = true := by kernel_rfl
def go (lg : Option Addr) (cachedPerms : Option Addr) (key : Option Addr) (keyn : Nat) (keyc : Nat) (permtyp : Int) (H : Heap) (R : Ending → Heap → Prop) : Prop :=
  callD Try.prog 84 [(.slice key keyn keyc)] H (panK R) fun v H1 =>
  tAgg v fun l =>
  tCons l fun c l1 =>
  tIf c fun i =>
  tCons l1 fun c1 l2 =>
  tIf c1 fun i1 =>
  tNil l2 <|
  newD H1 (.cells ⟨[.nilIface, .nilIface]⟩ 109) fun r H2 =>
  st1 H2 ⟨r, 0, none⟩ (IV.v i) fun H3 =>
  st1 H3 ⟨r, 1, none⟩ (IV.v i1) fun H4 =>
  iteB (permtyp == (0 : Int)) (
    nilD cachedPerms fun a =>
    ldIf H4 a fun i2 =>
    ldIf H4 ⟨r, 0, none⟩ fun i3 =>
    ldIf H4 ⟨r, 1, none⟩ fun i4 =>
    callI Try.prog (IV.v i2) "Intersects" [(.agg ⟨[(IV.v i3), (IV.v i4)]⟩)] H4 (panK R) fun v1 H5 =>
    tBool v1 fun b =>
    R (.returned (.bool b)) H5) <|
  iteB (permtyp == (1 : Int)) (
    nilD cachedPerms fun a1 =>
    ldIf H4 (Addr.add a1 1) fun i5 =>
    ldIf H4 ⟨r, 0, none⟩ fun i6 =>
    ldIf H4 ⟨r, 1, none⟩ fun i7 =>
    callI Try.prog (IV.v i5) "Intersects" [(.agg ⟨[(IV.v i6), (IV.v i7)]⟩)] H4 (panK R) fun v2 H6 =>
    tBool v2 fun b1 =>
    R (.returned (.bool b1)) H6) <|
  panD (.iface 9 (.string (ByteArray.mk #[117, 110, 107, 110, 111, 119, 110, 32, 97, 117, 116, 104, 32, 116, 121, 112, 101]))) H4 (panK R)
theorem calls {lg : Option Addr} {cachedPerms : Option Addr} {key : Option Addr} {keyn : Nat} {keyc : Nat} {permtyp : Int} {H : Heap} {R : Ending → Heap → Prop} (h : go lg cachedPerms key keyn keyc permtyp H R) : CallsH Try.prog 60 ⟨[(.pointer lg), (.pointer cachedPerms), (.slice key keyn keyc), (.int .i32 permtyp)]⟩ H R :=
  callsH_of_den (an := an) (fuel := 100000) (X := go lg cachedPerms key keyn keyc permtyp H R) (c := body) mixed fn (by kernel_rfl) (by kernel_rfl) (by kernel_rfl) ok (by kernel_rfl) h
end F60
/-! ### 61 "pub-stadtholder/pub/etcdserver/auth.checkKeyInterval" -/
namespace F61
def an : Ann := { kinds := [], taus := [(7, [[0, 1, 2, 3, 4, 5, 6]]), (9, [[0, 1, 2, 3, 4, 5, 6]])], pairs := [], lab := [(10000004, [1, 2, 3, 4])] }
noncomputable def body : Code := (Try.f61.body).getD .skip
theorem fn : Try.prog.funcs[61]? = some Try.f61 := by kernel_rfl
theorem ok : codeOk an 35 body = true := by kernel_rfl
noncomputable def L0t : List Item := [.code (sub [1, 1] body)]
def L0 (cachedPerms : Option Addr) (key : Option Addr) (keyn : Nat) (keyc : Nat) (rangeEnd : Option Addr) (rangeEndn : Nat) (rangeEndc : Nat) (permtyp : Int) (H : Heap) (R : Ending → Heap → Prop) : Prop :=
  GoL Try.prog 61 35 L0t [1, 2, 3, 4] [(.pointer cachedPerms), (.slice key keyn keyc), (.slice rangeEnd rangeEndn rangeEndc), (.int .i32 permtyp)] H R
def L0n (cachedPerms : Option Addr) (key : Option Addr) (keyn : Nat) (keyc : Nat) (rangeEnd : Option Addr) (rangeEndn : Nat) (rangeEndc : Nat) (permtyp : Int) (H : Heap) (R : Ending → Heap → Prop) : Prop :=
  callD Try.prog 83 [(.slice key keyn keyc), (.slice rangeEnd rangeEndn rangeEndc)] H (panK R) fun v H1 =>
  tAgg v fun l =>
  tCons l fun c l1 =>
  tIf c fun i =>
  tCons l1 fun c1 l2 =>
  tIf c1 fun i1 =>
  tNil l2 <|
  newD H1 (.cells ⟨[.nilIface, .nilIface]⟩ 109) fun r H2 =>
  st1 H2 ⟨r, 0, none⟩ (IV.v i) fun H3 =>
  st1 H3 ⟨r, 1, none⟩ (IV.v i1) fun H4 =>
  iteB (permtyp == (0 : Int)) (
    nilD cachedPerms fun a =>
    ldIf H4 a fun i2 =>
    ldIf H4 ⟨r, 0, none⟩ fun i3 =>
    ldIf H4 ⟨r, 1, none⟩ fun i4 =>
    callI Try.prog (IV.v i2) "Contains" [(.agg ⟨[(IV.v i3), (IV.v i4)]⟩)] H4 (panK R) fun v1 H5 =>
    tBool v1 fun b =>
    R (.returned (.bool b)) H5) <|
  iteB (permtyp == (1 : Int)) (
    nilD cachedPerms fun a1 =>
    ldIf H4 (Addr.add a1 1) fun i5 =>
    ldIf H4 ⟨r, 0, none⟩ fun i6 =>
    ldIf H4 ⟨r, 1, none⟩ fun i7 =>
    callI Try.prog (IV.v i5) "Contains" [(.agg ⟨[(IV.v i6), (IV.v i7)]⟩)] H4 (panK R) fun v2 H6 =>
    tBool v2 fun b1 =>
    R (.returned (.bool b1)) H6) <|
  panD (.iface 9 (.string (ByteArray.mk #[117, 110, 107, 110, 111, 119, 110, 32, 97, 117, 116, 104, 32, 116, 121, 112, 101]))) H4 (panK R)
theorem L0_step {cachedPerms : Option Addr} {key : Option Addr} {keyn : Nat} {keyc : Nat} {rangeEnd : Option Addr} {rangeEndn : Nat} {rangeEndc : Nat} {permtyp : Int} {H : Heap} {R : Ending → Heap → Prop} (h : L0n cachedPerms key keyn keyc rangeEnd rangeEndn rangeEndc permtyp H R) : L0 cachedPerms key keyn keyc rangeEnd rangeEndn rangeEndc permtyp H R :=
  goL_of_den (an := an) (fuel := 100000) (X := L0n cachedPerms key keyn keyc rangeEnd rangeEndn rangeEndc permtyp H R) mixed fn (by kernel_rfl) (fun ρ0 => by kernel_rfl) h
def go (lg : Option Addr) (cachedPerms : Option Addr) (key : Option Addr) (keyn : Nat) (keyc : Nat) (rangeEnd : Option Addr) (rangeEndn : Nat) (rangeEndc : Nat) (permtyp : Int) (H : Heap) (R : Ending → Heap → Prop) : Prop :=
  callD Try.prog 85 [(.slice rangeEnd rangeEndn rangeEndc)] H (panK R) fun v H1 =>
  tBool v fun b =>
  iteB b (
    L0 cachedPerms key keyn keyc none 0 0 permtyp H1 R) <|
  L0 cachedPerms key keyn keyc rangeEnd rangeEndn rangeEndc permtyp H1 R
theorem calls {lg : Option Addr} {cachedPerms : Option Addr} {key : Option Addr} {keyn : Nat} {keyc : Nat} {rangeEnd : Option Addr} {rangeEndn : Nat} {rangeEndc : Nat} {permtyp : Int} {H : Heap} {R : Ending → Heap → Prop} (h : go lg cachedPerms key keyn keyc rangeEnd rangeEndn rangeEndc permtyp H R) : CallsH Try.prog 61 ⟨[(.pointer lg), (.pointer cachedPerms), (.slice key keyn keyc), (.slice rangeEnd rangeEndn rangeEndc), (.int .i32 permtyp)]⟩ H R :=
  callsH_of_den (an := an) (fuel := 100000) (X := go lg cachedPerms key keyn keyc rangeEnd rangeEndn rangeEndc permtyp H R) (c := body) mixed fn (by kernel_rfl) (by kernel_rfl) (by kernel_rfl) ok (by kernel_rfl) h
end F61
/-! ### 85 "pub-stadtholder/pub/etcdserver/auth.isOpenEnded" -/
namespace F85
def an : Ann := { kinds := [], taus := [], pairs := [], lab := [] }
noncomputable def body : Code := (Try.f85.body).getD .skip
theorem fn : Try.prog.funcs[85]? = some Try.f85 := by kernel_rfl
theorem ok : codeOk an 12 body = true := by kernel_rfl
def go (rangeEnd : Option Addr) (rangeEndn : Nat) (rangeEndc : Nat) (H : Heap) (R : Ending → Heap → Prop) : Prop :=
  iteB (((rangeEndn : Nat) : Int) == (1 : Int)) (
    idxD rangeEnd rangeEndn (0 : Int) fun a =>
    ldInt H (Addr.add a (Int.toNat (0 : Int) * 1)) .u8 fun n =>
    R (.returned (.bool (n == (0 : Int)))) H) <|
  R (.returned (.bool false)) H
theorem calls {rangeEnd : Option Addr} {rangeEndn : Nat} {rangeEndc : Nat} {H : Heap} {R : Ending → Heap → Prop} (h : go rangeEnd rangeEndn rangeEndc H R) : CallsH Try.prog 85 ⟨[(.slice rangeEnd rangeEndn rangeEndc)]⟩ H R :=
  callsH_of_den (an := an) (fuel := 100000) (X := go rangeEnd rangeEndn rangeEndc H R) (c := body) mixed fn (by kernel_rfl) (by kernel_rfl) (by kernel_rfl) ok (by kernel_rfl) h
end F85
/-! ### 134 "(pub-stadtholder/pub/etcdserver/auth.zzOne).UnsafeGetRole" -/
namespace F134
def an : Ann := { kinds := [(1001, .heavy 0)], taus := [], pairs := [], lab := [] }
noncomputable def body : Code := (Try.f134.body).getD .skip
theorem fn : Try.prog.funcs[134]? = some Try.f134 := by kernel_rfl
theorem ok : codeOk an 11 body = true := by kernel_rfl
def go (z_0 : Option Addr) (z_0n : Nat) (z_0c : Nat) (s1 : ByteArray) (H : Heap) (R : Ending → Heap → Prop) : Prop :=
  newD H (.cells ⟨[(.slice z_0 z_0n z_0c)]⟩ 125) fun r H1 =>
  newD H1 (.cells ⟨[(.int .u8 (114 : Int))]⟩ 5) fun r1 H2 =>
  valD Try.prog (Go.convert 78 78 (.slice (some ⟨r1, 0, none⟩) 1 1)) H2 (panK R) fun v H3 =>
  tSl v fun q qn qc =>
  ldSl H3 ⟨r, 0, none⟩ fun q1 q1n q1c =>
  newD H3 (.cells ⟨[(.slice q qn qc), (.slice q1 q1n q1c)]⟩ 195) fun r2 H4 =>
  R (.returned (.pointer (some ⟨r2, 0, none⟩))) H4
theorem calls {z_0 : Option Addr} {z_0n : Nat} {z_0c : Nat} {s1 : ByteArray} {H : Heap} {R : Ending → Heap → Prop} (h : go z_0 z_0n z_0c s1 H R) : CallsH Try.prog 134 ⟨[(.agg ⟨[(.slice z_0 z_0n z_0c)]⟩), (.string s1)]⟩ H R :=
  callsH_of_den (an := an) (fuel := 100000) (X := go z_0 z_0n z_0c s1 H R) (c := body) mixed fn (by kernel_rfl) (by kernel_rfl) (by kernel_rfl) ok (by kernel_rfl) h
end F134
/-! ### 135 "(pub-stadtholder/pub/etcdserver/auth.zzOne).UnsafeGetUser" -/
namespace F135
def an : Ann := { kinds := [(1001, .heavy 0)], taus := [], pairs := [], lab := [] }
noncomputable def body : Code := (Try.f135.body).getD .skip
theorem fn : Try.prog.funcs[135]? = some Try.f135 := by kernel_rfl
theorem ok : codeOk an 10 body = true := by kernel_rfl
def go (z_0 : Option Addr) (z_0n : Nat) (z_0c : Nat) (s1 : ByteArray) (H : Heap) (R : Ending → Heap → Prop) : Prop :=
  newD H (.cells ⟨[(.slice z_0 z_0n z_0c)]⟩ 125) fun r H1 =>
  newD H1 (.cells ⟨[(.int .u8 (117 : Int))]⟩ 5) fun r1 H2 =>
  valD Try.prog (Go.convert 78 78 (.slice (some ⟨r1, 0, none⟩) 1 1)) H2 (panK R) fun v H3 =>
  tSl v fun q qn qc =>
  newD H3 (.cells ⟨[(.string (ByteArray.mk #[114]))]⟩ 9) fun r2 H4 =>
  newD H4 (.cells ⟨[(.slice q qn qc), (.slice none 0 0), (.slice (some ⟨r2, 0, none⟩) 1 1), (.pointer none)]⟩ 191) fun r3 H5 =>
  R (.returned (.pointer (some ⟨r3, 0, none⟩))) H5
theorem calls {z_0 : Option Addr} {z_0n : Nat} {z_0c : Nat} {s1 : ByteArray} {H : Heap} {R : Ending → Heap → Prop} (h : go z_0 z_0n z_0c s1 H R) : CallsH Try.prog 135 ⟨[(.agg ⟨[(.slice z_0 z_0n z_0c)]⟩), (.string s1)]⟩ H R :=
  callsH_of_den (an := an) (fuel := 100000) (X := go z_0 z_0n z_0c s1 H R) (c := body) mixed fn (by kernel_rfl) (by kernel_rfl) (by kernel_rfl) ok (by kernel_rfl) h
end F135
/-! ### 139 "(*pub-stadtholder/pub/etcdserver/adt.intervalTree).Delete" -/
namespace F139
def an : Ann := { kinds := [(2005, .read), (5008, .read), (5018, .read), (8008, .read), (10008, .read), (13008, .read), (15008, .read), (19002, .read)], taus := [(5, [[0, 1, 2, 4, 5, 6, 3, 7, 8, 9, 10, 11, 12, 14, 15, 16, 13, 17, 18, 19]]), (8, [[0, 1, 2, 4, 5, 6, 3, 7, 8]]), (10, [[0, 1, 2, 4, 5, 6, 3, 7, 8]]), (13, [[0, 1, 2, 4, 5, 6, 3, 7, 8]]), (18, [[0, 1, 2, 4, 5, 6, 3, 7, 8]])], pairs := [], lab := [(20000007, [0, 5]), (10000008, [0, 5, 6]), (10000013, [0, 5, 6, 7]), (20000019, [0, 5, 6, 7]), (10000020, [0, 5, 6, 7]), (10000023, [0, 6, 7]), (10000025, [0])] }
noncomputable def body : Code := (Try.f139.body).getD .skip
theorem fn : Try.prog.funcs[139]? = some Try.f139 := by kernel_rfl
theorem ok : codeOk an 159 body = true := by kernel_rfl
noncomputable def L0t : List Item := [.code (sub [1, 1, 1, 1, 0, 1, 0] body), .code (sub [1, 1, 1, 1, 1] body)]
def L0 (s0 : Option Addr) (s5 : Option Addr) (H : Heap) (R : Ending → Heap → Prop) : Prop :=
  GoL Try.prog 139 159 L0t [0, 5] [(.pointer s0), (.pointer s5)] H R
noncomputable def L1t : List Item := [.code (sub [1, 1, 1, 1, 1] body)]
def L1 (s0 : Option Addr) (s5 : Option Addr) (s6 : Option Addr) (H : Heap) (R : Ending → Heap → Prop) : Prop :=
  GoL Try.prog 139 159 L1t [0, 5, 6] [(.pointer s0), (.pointer s5), (.pointer s6)] H R
noncomputable def L2t : List Item := [.code (sub [1, 1, 1, 1, 1, 1, 1] body)]
def L2 (s0 : Option Addr) (s5 : Option Addr) (s6 : Option Addr) (s7 : Option Addr) (H : Heap) (R : Ending → Heap → Prop) : Prop :=
  GoL Try.prog 139 159 L2t [0, 5, 6, 7] [(.pointer s0), (.pointer s5), (.pointer s6), (.pointer s7)] H R
noncomputable def L3t : List Item := [.code (sub [1, 1, 1, 1, 1, 1, 1, 1, 0, 1, 1, 1] body), .code (sub [1, 1, 1, 1, 1, 1, 1, 1, 1] body)]
def L3 (s0 : Option Addr) (s5 : Option Addr) (s6 : Option Addr) (s7 : Option Addr) (H : Heap) (R : Ending → Heap → Prop) : Prop :=
  GoL Try.prog 139 159 L3t [0, 5, 6, 7] [(.pointer s0), (.pointer s5), (.pointer s6), (.pointer s7)] H R
noncomputable def L4t : List Item := [.code (sub [1, 1, 1, 1, 1, 1, 1, 1, 1] body)]
def L4 (s0 : Option Addr) (s5 : Option Addr) (s6 : Option Addr) (s7 : Option Addr) (H : Heap) (R : Ending → Heap → Prop) : Prop :=
  GoL Try.prog 139 159 L4t [0, 5, 6, 7] [(.pointer s0), (.pointer s5), (.pointer s6), (.pointer s7)] H R
noncomputable def L5t : List Item := [.code (sub [1, 1, 1, 1, 1, 1, 1, 1, 1, 1] body)]
def L5 (s0 : Option Addr) (s6 : Option Addr) (s7 : Option Addr) (H : Heap) (R : Ending → Heap → Prop) : Prop :=
  GoL Try.prog 139 159 L5t [0, 6, 7] [(.pointer s0), (.pointer s6), (.pointer s7)] H R
noncomputable def L6t : List Item := [.code (sub [1, 1, 1, 1, 1, 1, 1, 1, 1, 1, 1] body)]
def L6 (s0 : Option Addr) (H : Heap) (R : Ending → Heap → Prop) : Prop :=
  GoL Try.prog 139 159 L6t [0] [(.pointer s0)] H R
def L0n (s0 : Option Addr) (s5 : Option Addr) (H : Heap) (R : Ending → Heap → Prop) : Prop :=
  nilD s0 fun a =>
  ldPtr H (Addr.add a 2) fun p =>
  callD Try.prog 151 [(.pointer s5), (.pointer p)] H (panK R) fun v H1 =>
  tPtr v fun p1 =>
  L1 s0 s5 p1 H1 R
theorem L0_step {s0 : Option Addr} {s5 : Option Addr} {H : Heap} {R : Ending → Heap → Prop} (h : L0n s0 s5 H R) : L0 s0 s5 H R :=
  goL_of_den (an := an) (fuel := 100000) (X := L0n s0 s5 H R) mixed fn (by kernel_rfl) (fun ρ0 => by kernel_rfl) h
def L1n (s0 : Option Addr) (s5 : Option Addr) (s6 : Option Addr) (H : Heap) (R : Ending → Heap → Prop) : Prop :=
  nilD s0 fun a =>
  ldPtr H (Addr.add a 2) fun p =>
  nilD s6 fun a1 =>
  nilD s0 fun a2 =>
  ldPtr H (Addr.add a1 4) fun p1 =>
  ldPtr H (Addr.add a2 2) fun p2 =>
  pqD H p1 p2 fun b =>
  iteB (!b) (
    nilD s6 fun a3 =>
    ldPtr H (Addr.add a3 4) fun p3 =>
    L2 s0 s5 s6 p3 H R) <|
  nilD s6 fun a4 =>
  nilD s0 fun a5 =>
  ldPtr H (Addr.add a4 5) fun p4 =>
  ldPtr H (Addr.add a5 2) fun p5 =>
  pqD H p4 p5 fun b1 =>
  iteB (!b1) (
    nilD s6 fun a6 =>
    ldPtr H (Addr.add a6 5) fun p6 =>
    L2 s0 s5 s6 p6 H R) <|
  L2 s0 s5 s6 p H R
theorem L1_step {s0 : Option Addr} {s5 : Option Addr} {s6 : Option Addr} {H : Heap} {R : Ending → Heap → Prop} (h : L1n s0 s5 s6 H R) : L1 s0 s5 s6 H R :=
  goL_of_den (an := an) (fuel := 100000) (X := L1n s0 s5 s6 H R) mixed fn (by kernel_rfl) (fun ρ0 => by kernel_rfl) h
def L2n (s0 : Option Addr) (s5 : Option Addr) (s6 : Option Addr) (s7 : Option Addr) (H : Heap) (R : Ending → Heap → Prop) : Prop :=
  nilD s6 fun a =>
  ldPtr H (Addr.add a 6) fun p =>
  nilD s7 fun a1 =>
  st1 H (Addr.add a1 6) (.pointer p) fun H1 =>
  nilD s6 fun a2 =>
  nilD s0 fun a3 =>
  ldPtr H1 (Addr.add a2 6) fun p1 =>
  ldPtr H1 (Addr.add a3 2) fun p2 =>
  pqD H1 p1 p2 fun b =>
  iteB b (
    nilD s0 fun a4 =>
    st1 H1 a4 (.pointer s7) fun H2 =>
    L4 s0 s5 s6 s7 H2 R) <|
  nilD s6 fun a5 =>
  ldPtr H1 (Addr.add a5 6) fun p3 =>
  nilD p3 fun a6 =>
  ldPtr H1 (Addr.add a6 4) fun p4 =>
  pqD H1 s6 p4 fun b1 =>
  iteB b1 (
    nilD s6 fun a7 =>
    ldPtr H1 (Addr.add a7 6) fun p5 =>
    nilD p5 fun a8 =>
    st1 H1 (Addr.add a8 4) (.pointer s7) fun H3 =>
    L3 s0 s5 s6 s7 H3 R) <|
  nilD s6 fun a9 =>
  ldPtr H1 (Addr.add a9 6) fun p6 =>
  nilD p6 fun a10 =>
  st1 H1 (Addr.add a10 5) (.pointer s7) fun H4 =>
  L3 s0 s5 s6 s7 H4 R
theorem L2_step {s0 : Option Addr} {s5 : Option Addr} {s6 : Option Addr} {s7 : Option Addr} {H : Heap} {R : Ending → Heap → Prop} (h : L2n s0 s5 s6 s7 H R) : L2 s0 s5 s6 s7 H R :=
  goL_of_den (an := an) (fuel := 100000) (X := L2n s0 s5 s6 s7 H R) mixed fn (by kernel_rfl) (fun ρ0 => by kernel_rfl) h
def L3n (s0 : Option Addr) (s5 : Option Addr) (s6 : Option Addr) (s7 : Option Addr) (H : Heap) (R : Ending → Heap → Prop) : Prop :=
  nilD s6 fun a =>
  nilD s0 fun a1 =>
  ldPtr H (Addr.add a 6) fun p =>
  ldPtr H (Addr.add a1 2) fun p1 =>
  callD Try.prog 137 [(.pointer p), (.pointer p1)] H (panK R) fun v H1 =>
  tTup v fun l =>
  tNil l <|
  L4 s0 s5 s6 s7 H1 R
theorem L3_step {s0 : Option Addr} {s5 : Option Addr} {s6 : Option Addr} {s7 : Option Addr} {H : Heap} {R : Ending → Heap → Prop} (h : L3n s0 s5 s6 s7 H R) : L3 s0 s5 s6 s7 H R :=
  goL_of_den (an := an) (fuel := 100000) (X := L3n s0 s5 s6 s7 H R) mixed fn (by kernel_rfl) (fun ρ0 => by kernel_rfl) h
def L4n (s0 : Option Addr) (s5 : Option Addr) (s6 : Option Addr) (s7 : Option Addr) (H : Heap) (R : Ending → Heap → Prop) : Prop :=
  pqD H s6 s5 fun b =>
  iteB (!b) (
    nilD s6 fun a =>
    ldIf H a fun i =>
    ldIf H (Addr.add a 1) fun i1 =>
    ldIf H (Addr.add a 2) fun i2 =>
    nilD s5 fun a1 =>
    st1 H a1 (IV.v i) fun H1 =>
    st1 H1 (Addr.add a1 1) (IV.v i1) fun H2 =>
    st1 H2 (Addr.add a1 2) (IV.v i2) fun H3 =>
    nilD s0 fun a2 =>
    ldPtr H3 (Addr.add a2 2) fun p =>
    callD Try.prog 137 [(.pointer s5), (.pointer p)] H3 (panK R) fun v H4 =>
    tTup v fun l =>
    tNil l <|
    L5 s0 s6 s7 H4 R) <|
  L5 s0 s6 s7 H R
theorem L4_step {s0 : Option Addr} {s5 : Option Addr} {s6 : Option Addr} {s7 : Option Addr} {H : Heap} {R : Ending → Heap → Prop} (h : L4n s0 s5 s6 s7 H R) : L4 s0 s5 s6 s7 H R :=
  goL_of_den (an := an) (fuel := 100000) (X := L4n s0 s5 s6 s7 H R) mixed fn (by kernel_rfl) (fun ρ0 => by kernel_rfl) h
def L5n (s0 : Option Addr) (s6 : Option Addr) (s7 : Option Addr) (H : Heap) (R : Ending → Heap → Prop) : Prop :=
  nilD s0 fun a =>
  ldPtr H (Addr.add a 2) fun p =>
  callD Try.prog 152 [(.pointer s6), (.pointer p)] H (panK R) fun v H1 =>
  tInt v .i64 fun n =>
  iteB (n == (0 : Int)) (
    callD Try.prog 153 [(.pointer s0), (.pointer s7)] H1 (panK R) fun v1 H2 =>
    tTup v1 fun l =>
    tNil l <|
    L6 s0 H2 R) <|
  L6 s0 H1 R
theorem L5_step {s0 : Option Addr} {s6 : Option Addr} {s7 : Option Addr} {H : Heap} {R : Ending → Heap → Prop} (h : L5n s0 s6 s7 H R) : L5 s0 s6 s7 H R :=
  goL_of_den (an := an) (fuel := 100000) (X := L5n s0 s6 s7 H R) mixed fn (by kernel_rfl) (fun ρ0 => by kernel_rfl) h
def L6n (s0 : Option Addr) (H : Heap) (R : Ending → Heap → Prop) : Prop :=
  nilD s0 fun a =>
  ldInt H (Addr.add a 1) .i64 fun n =>
  nilD s0 fun a1 =>
  st1 H (Addr.add a1 1) (.int .i64 (IntKind.wrap .i64 (n - (1 : Int)))) fun H1 =>
  R (.returned (.bool true)) H1
theorem L6_step {s0 : Option Addr} {H : Heap} {R : Ending → Heap → Prop} (h : L6n s0 H R) : L6 s0 H R :=
  goL_of_den (an := an) (fuel := 100000) (X := L6n s0 H R) mixed fn (by kernel_rfl) (fun ρ0 => by kernel_rfl) h
def go (s0 : Option Addr) (s1_0 : IV) (s1_1 : IV) (H : Heap) (R : Ending → Heap → Prop) : Prop :=
  newD H (.cells ⟨[(IV.v s1_0), (IV.v s1_1)]⟩ 109) fun r H1 =>
  ldIf H1 ⟨r, 0, none⟩ fun i =>
  ldIf H1 ⟨r, 1, none⟩ fun i1 =>
  callD Try.prog 150 [(.pointer s0), (.agg ⟨[(IV.v i), (IV.v i1)]⟩)] H1 (panK R) fun v H2 =>
  tPtr v fun p =>
  nilD s0 fun a =>
  ldPtr H2 (Addr.add a 2) fun p1 =>
  pqD H2 p p1 fun b =>
  iteB b (
    R (.returned (.bool false)) H2) <|
  nilD p fun a1 =>
  nilD s0 fun a2 =>
  ldPtr H2 (Addr.add a1 4) fun p2 =>
  ldPtr H2 (Addr.add a2 2) fun p3 =>
  pqD H2 p2 p3 fun b1 =>
  iteB (!b1) (
    nilD p fun a3 =>
    nilD s0 fun a4 =>
    ldPtr H2 (Addr.add a3 5) fun p4 =>
    ldPtr H2 (Addr.add a4 2) fun p5 =>
    pqD H2 p4 p5 fun b2 =>
    iteB (!b2) (
      L0 s0 p H2 R) <|
    L1 s0 p p H2 R) <|
  L1 s0 p p H2 R
theorem calls {s0 : Option Addr} {s1_0 : IV} {s1_1 : IV} {H : Heap} {R : Ending → Heap → Prop} (h : go s0 s1_0 s1_1 H R) : CallsH Try.prog 139 ⟨[(.pointer s0), (.agg ⟨[(IV.v s1_0), (IV.v s1_1)]⟩)]⟩ H R :=
  callsH_of_den (an := an) (fuel := 100000) (X := go s0 s1_0 s1_1 H R) (c := body) mixed fn (by kernel_rfl) (by kernel_rfl) (by kernel_rfl) ok (by kernel_rfl) h
end F139
end Go.Proofs.Ytobolifgehagfaa
